/- The thin package's parts of FnSafe*: the type that stands for an integer's, and its number. -/
import Derived.Test.YtlhfmbpijcniaaaGreatWdSaK
import Derived.Handy
namespace Go.Proofs.YtlhfmbpijcniaaaGreat.WidemagDiv
open Go.RowKit Go.Proofs.YtlhfmbpijcniaaaGreat.PmagDiv Go.Proofs.YtlhfmbpijcniaaaGreatW.PrintWords Go.Proofs.YtlhfmbpijcniaaaGreatW.PrintLast Go.Proofs.YtlhfmbpijcniaaaGreatW.PrintMore
set_option linter.unusedVariables false
set_option linter.unusedSimpArgs false
def aType (k : Int) (b : Bool) : Value := .agg #[.int .i64 2, .int .i64 k, .bool b, .int .i64 0, .int .i64 0, .int .i64 0, .string { data := #[] }, .bool false, .slice none 0 0, .slice none 0 0]
def RetT (t : Nat) (w : World) (e : Ending) (w' : World) : Prop := ∃ a, e = .returned (.iface t (.pointer (some a))) ∧ Below w.heap.size w w'
def RetN (w : World) (e : Ending) (w' : World) : Prop := e = .returned .nilIface ∧ Below w.heap.size w w'
def RetS (v : Value) (w : World) (e : Ending) (w' : World) : Prop := e = .returned v ∧ Below w.heap.size w w'

theorem ID_int8 (a : Addr) (w : World) : Calls Tryz.prog 162 #[.pointer (some a)] w (fun e w' => e = .returned (.int .i64 3) ∧ w' = w) := by
  go_enter Tryz.func162, Tryz.ntmps162
  go_wp2_with fail
  go_ret
  exact ⟨by first | rfl | decide | kernel_rfl, rfl⟩
set_option maxRecDepth 100000 in
theorem arrowInt_int8 (w : World) : Calls Tryz.prog 20 #[aType 8 true] w (RetT 109 w) := by
  unfold aType
  go_enter Tryz.func20, Tryz.ntmps20
  go_wp2_with fail
  go_ret
  exact ⟨_, rfl, by go_grown⟩
set_option maxRecDepth 100000 in
theorem arrowType_int8 (w : World) : Calls Tryz.prog 11 #[aType 8 true] w (RetT 109 w) := by
  unfold aType
  go_enter Tryz.func11, Tryz.ntmps11
  go_wp2_with (go_at_call 20; refine (arrowInt_int8 _).mono ?_; rintro e w1 ⟨a, rfl, hb⟩)
  go_ret
  exact ⟨a, rfl, Below.trans (by go_grown) (hb.mono (by simp <;> omega))⟩
set_option maxRecDepth 100000 in
theorem Impl_uint16_int8 (w : World) : Calls Tryz.prog 5 #[.int .i64 8, .bool true] w (RetS (.tuple #[.int .u16 0, .int .u16 127, .bool true]) w) := by
  go_enter Tryz.func5, Tryz.ntmps5
  go_wp2_with (first | (go_at_call 11; refine (show Calls Tryz.prog 11 _ _ _ from arrowType_int8 _).mono ?_; rintro e w1 ⟨a, rfl, hb⟩) | (go_at_call 162; refine (ID_int8 _ _).mono ?_; rintro e w2 ⟨rfl, rfl⟩) | (go_at_call 12; refine (SafeUn_uint16_int8 _).mono ?_; rintro e w3 ⟨rfl, rfl⟩))
  refine bodyPost_ret (v := (.tuple #[.int .u16 0, .int .u16 127, .bool true])) (by simp [results, Tryz.results5, go_sem]) rfl ?_
  exact ⟨rfl, hb⟩
set_option maxRecDepth 100000 in
theorem Impl_uint64_int8 (w : World) : Calls Tryz.prog 10 #[.int .i64 8, .bool true] w (RetS (.tuple #[.int .u64 0, .int .u64 127, .bool true]) w) := by
  go_enter Tryz.func10, Tryz.ntmps10
  go_wp2_with (first | (go_at_call 11; refine (show Calls Tryz.prog 11 _ _ _ from arrowType_int8 _).mono ?_; rintro e w1 ⟨a, rfl, hb⟩) | (go_at_call 162; refine (ID_int8 _ _).mono ?_; rintro e w2 ⟨rfl, rfl⟩) | (go_at_call 19; refine (SafeUn_uint64_int8 _).mono ?_; rintro e w3 ⟨rfl, rfl⟩))
  refine bodyPost_ret (v := (.tuple #[.int .u64 0, .int .u64 127, .bool true])) (by simp [results, Tryz.results10, go_sem]) rfl ?_
  exact ⟨rfl, hb⟩
theorem ID_int16 (a : Addr) (w : World) : Calls Tryz.prog 165 #[.pointer (some a)] w (fun e w' => e = .returned (.int .i64 5) ∧ w' = w) := by
  go_enter Tryz.func165, Tryz.ntmps165
  go_wp2_with fail
  go_ret
  exact ⟨by first | rfl | decide | kernel_rfl, rfl⟩
set_option maxRecDepth 100000 in
theorem arrowInt_int16 (w : World) : Calls Tryz.prog 20 #[aType 16 true] w (RetT 111 w) := by
  unfold aType
  go_enter Tryz.func20, Tryz.ntmps20
  go_wp2_with fail
  go_ret
  exact ⟨_, rfl, by go_grown⟩
set_option maxRecDepth 100000 in
theorem arrowType_int16 (w : World) : Calls Tryz.prog 11 #[aType 16 true] w (RetT 111 w) := by
  unfold aType
  go_enter Tryz.func11, Tryz.ntmps11
  go_wp2_with (go_at_call 20; refine (arrowInt_int16 _).mono ?_; rintro e w1 ⟨a, rfl, hb⟩)
  go_ret
  exact ⟨a, rfl, Below.trans (by go_grown) (hb.mono (by simp <;> omega))⟩
set_option maxRecDepth 100000 in
theorem Impl_uint16_int16 (w : World) : Calls Tryz.prog 5 #[.int .i64 16, .bool true] w (RetS (.tuple #[.int .u16 0, .int .u16 32767, .bool true]) w) := by
  go_enter Tryz.func5, Tryz.ntmps5
  go_wp2_with (first | (go_at_call 11; refine (show Calls Tryz.prog 11 _ _ _ from arrowType_int16 _).mono ?_; rintro e w1 ⟨a, rfl, hb⟩) | (go_at_call 165; refine (ID_int16 _ _).mono ?_; rintro e w2 ⟨rfl, rfl⟩) | (go_at_call 12; refine (SafeUn_uint16_int16 _).mono ?_; rintro e w3 ⟨rfl, rfl⟩))
  refine bodyPost_ret (v := (.tuple #[.int .u16 0, .int .u16 32767, .bool true])) (by simp [results, Tryz.results5, go_sem]) rfl ?_
  exact ⟨rfl, hb⟩
set_option maxRecDepth 100000 in
theorem Impl_uint64_int16 (w : World) : Calls Tryz.prog 10 #[.int .i64 16, .bool true] w (RetS (.tuple #[.int .u64 0, .int .u64 32767, .bool true]) w) := by
  go_enter Tryz.func10, Tryz.ntmps10
  go_wp2_with (first | (go_at_call 11; refine (show Calls Tryz.prog 11 _ _ _ from arrowType_int16 _).mono ?_; rintro e w1 ⟨a, rfl, hb⟩) | (go_at_call 165; refine (ID_int16 _ _).mono ?_; rintro e w2 ⟨rfl, rfl⟩) | (go_at_call 19; refine (SafeUn_uint64_int16 _).mono ?_; rintro e w3 ⟨rfl, rfl⟩))
  refine bodyPost_ret (v := (.tuple #[.int .u64 0, .int .u64 32767, .bool true])) (by simp [results, Tryz.results10, go_sem]) rfl ?_
  exact ⟨rfl, hb⟩
theorem ID_int32 (a : Addr) (w : World) : Calls Tryz.prog 168 #[.pointer (some a)] w (fun e w' => e = .returned (.int .i64 7) ∧ w' = w) := by
  go_enter Tryz.func168, Tryz.ntmps168
  go_wp2_with fail
  go_ret
  exact ⟨by first | rfl | decide | kernel_rfl, rfl⟩
set_option maxRecDepth 100000 in
theorem arrowInt_int32 (w : World) : Calls Tryz.prog 20 #[aType 32 true] w (RetT 113 w) := by
  unfold aType
  go_enter Tryz.func20, Tryz.ntmps20
  go_wp2_with fail
  go_ret
  exact ⟨_, rfl, by go_grown⟩
set_option maxRecDepth 100000 in
theorem arrowType_int32 (w : World) : Calls Tryz.prog 11 #[aType 32 true] w (RetT 113 w) := by
  unfold aType
  go_enter Tryz.func11, Tryz.ntmps11
  go_wp2_with (go_at_call 20; refine (arrowInt_int32 _).mono ?_; rintro e w1 ⟨a, rfl, hb⟩)
  go_ret
  exact ⟨a, rfl, Below.trans (by go_grown) (hb.mono (by simp <;> omega))⟩
set_option maxRecDepth 100000 in
theorem Impl_uint16_int32 (w : World) : Calls Tryz.prog 5 #[.int .i64 32, .bool true] w (RetS (.tuple #[.int .u16 0, .int .u16 65535, .bool true]) w) := by
  go_enter Tryz.func5, Tryz.ntmps5
  go_wp2_with (first | (go_at_call 11; refine (show Calls Tryz.prog 11 _ _ _ from arrowType_int32 _).mono ?_; rintro e w1 ⟨a, rfl, hb⟩) | (go_at_call 168; refine (ID_int32 _ _).mono ?_; rintro e w2 ⟨rfl, rfl⟩) | (go_at_call 12; refine (SafeUn_uint16_int32 _).mono ?_; rintro e w3 ⟨rfl, rfl⟩))
  refine bodyPost_ret (v := (.tuple #[.int .u16 0, .int .u16 65535, .bool true])) (by simp [results, Tryz.results5, go_sem]) rfl ?_
  exact ⟨rfl, hb⟩
set_option maxRecDepth 100000 in
theorem Impl_uint64_int32 (w : World) : Calls Tryz.prog 10 #[.int .i64 32, .bool true] w (RetS (.tuple #[.int .u64 0, .int .u64 2147483647, .bool true]) w) := by
  go_enter Tryz.func10, Tryz.ntmps10
  go_wp2_with (first | (go_at_call 11; refine (show Calls Tryz.prog 11 _ _ _ from arrowType_int32 _).mono ?_; rintro e w1 ⟨a, rfl, hb⟩) | (go_at_call 168; refine (ID_int32 _ _).mono ?_; rintro e w2 ⟨rfl, rfl⟩) | (go_at_call 19; refine (SafeUn_uint64_int32 _).mono ?_; rintro e w3 ⟨rfl, rfl⟩))
  refine bodyPost_ret (v := (.tuple #[.int .u64 0, .int .u64 2147483647, .bool true])) (by simp [results, Tryz.results10, go_sem]) rfl ?_
  exact ⟨rfl, hb⟩
theorem ID_int64 (a : Addr) (w : World) : Calls Tryz.prog 171 #[.pointer (some a)] w (fun e w' => e = .returned (.int .i64 9) ∧ w' = w) := by
  go_enter Tryz.func171, Tryz.ntmps171
  go_wp2_with fail
  go_ret
  exact ⟨by first | rfl | decide | kernel_rfl, rfl⟩
set_option maxRecDepth 100000 in
theorem arrowInt_int64 (w : World) : Calls Tryz.prog 20 #[aType 64 true] w (RetT 115 w) := by
  unfold aType
  go_enter Tryz.func20, Tryz.ntmps20
  go_wp2_with fail
  go_ret
  exact ⟨_, rfl, by go_grown⟩
set_option maxRecDepth 100000 in
theorem arrowType_int64 (w : World) : Calls Tryz.prog 11 #[aType 64 true] w (RetT 115 w) := by
  unfold aType
  go_enter Tryz.func11, Tryz.ntmps11
  go_wp2_with (go_at_call 20; refine (arrowInt_int64 _).mono ?_; rintro e w1 ⟨a, rfl, hb⟩)
  go_ret
  exact ⟨a, rfl, Below.trans (by go_grown) (hb.mono (by simp <;> omega))⟩
set_option maxRecDepth 100000 in
theorem Impl_uint16_int64 (w : World) : Calls Tryz.prog 5 #[.int .i64 64, .bool true] w (RetS (.tuple #[.int .u16 0, .int .u16 65535, .bool true]) w) := by
  go_enter Tryz.func5, Tryz.ntmps5
  go_wp2_with (first | (go_at_call 11; refine (show Calls Tryz.prog 11 _ _ _ from arrowType_int64 _).mono ?_; rintro e w1 ⟨a, rfl, hb⟩) | (go_at_call 171; refine (ID_int64 _ _).mono ?_; rintro e w2 ⟨rfl, rfl⟩) | (go_at_call 12; refine (SafeUn_uint16_int64 _).mono ?_; rintro e w3 ⟨rfl, rfl⟩))
  refine bodyPost_ret (v := (.tuple #[.int .u16 0, .int .u16 65535, .bool true])) (by simp [results, Tryz.results5, go_sem]) rfl ?_
  exact ⟨rfl, hb⟩
set_option maxRecDepth 100000 in
theorem Impl_uint64_int64 (w : World) : Calls Tryz.prog 10 #[.int .i64 64, .bool true] w (RetS (.tuple #[.int .u64 0, .int .u64 9223372036854775807, .bool true]) w) := by
  go_enter Tryz.func10, Tryz.ntmps10
  go_wp2_with (first | (go_at_call 11; refine (show Calls Tryz.prog 11 _ _ _ from arrowType_int64 _).mono ?_; rintro e w1 ⟨a, rfl, hb⟩) | (go_at_call 171; refine (ID_int64 _ _).mono ?_; rintro e w2 ⟨rfl, rfl⟩) | (go_at_call 19; refine (SafeUn_uint64_int64 _).mono ?_; rintro e w3 ⟨rfl, rfl⟩))
  refine bodyPost_ret (v := (.tuple #[.int .u64 0, .int .u64 9223372036854775807, .bool true])) (by simp [results, Tryz.results10, go_sem]) rfl ?_
  exact ⟨rfl, hb⟩
theorem ID_uint8 (a : Addr) (w : World) : Calls Tryz.prog 174 #[.pointer (some a)] w (fun e w' => e = .returned (.int .i64 2) ∧ w' = w) := by
  go_enter Tryz.func174, Tryz.ntmps174
  go_wp2_with fail
  go_ret
  exact ⟨by first | rfl | decide | kernel_rfl, rfl⟩
set_option maxRecDepth 100000 in
theorem arrowInt_uint8 (w : World) : Calls Tryz.prog 20 #[aType 8 false] w (RetT 117 w) := by
  unfold aType
  go_enter Tryz.func20, Tryz.ntmps20
  go_wp2_with fail
  go_ret
  exact ⟨_, rfl, by go_grown⟩
set_option maxRecDepth 100000 in
theorem arrowType_uint8 (w : World) : Calls Tryz.prog 11 #[aType 8 false] w (RetT 117 w) := by
  unfold aType
  go_enter Tryz.func11, Tryz.ntmps11
  go_wp2_with (go_at_call 20; refine (arrowInt_uint8 _).mono ?_; rintro e w1 ⟨a, rfl, hb⟩)
  go_ret
  exact ⟨a, rfl, Below.trans (by go_grown) (hb.mono (by simp <;> omega))⟩
set_option maxRecDepth 100000 in
theorem Impl_uint16_uint8 (w : World) : Calls Tryz.prog 5 #[.int .i64 8, .bool false] w (RetS (.tuple #[.int .u16 0, .int .u16 255, .bool true]) w) := by
  go_enter Tryz.func5, Tryz.ntmps5
  go_wp2_with (first | (go_at_call 11; refine (show Calls Tryz.prog 11 _ _ _ from arrowType_uint8 _).mono ?_; rintro e w1 ⟨a, rfl, hb⟩) | (go_at_call 174; refine (ID_uint8 _ _).mono ?_; rintro e w2 ⟨rfl, rfl⟩) | (go_at_call 12; refine (SafeUn_uint16_uint8 _).mono ?_; rintro e w3 ⟨rfl, rfl⟩))
  refine bodyPost_ret (v := (.tuple #[.int .u16 0, .int .u16 255, .bool true])) (by simp [results, Tryz.results5, go_sem]) rfl ?_
  exact ⟨rfl, hb⟩
set_option maxRecDepth 100000 in
theorem Impl_uint64_uint8 (w : World) : Calls Tryz.prog 10 #[.int .i64 8, .bool false] w (RetS (.tuple #[.int .u64 0, .int .u64 255, .bool true]) w) := by
  go_enter Tryz.func10, Tryz.ntmps10
  go_wp2_with (first | (go_at_call 11; refine (show Calls Tryz.prog 11 _ _ _ from arrowType_uint8 _).mono ?_; rintro e w1 ⟨a, rfl, hb⟩) | (go_at_call 174; refine (ID_uint8 _ _).mono ?_; rintro e w2 ⟨rfl, rfl⟩) | (go_at_call 19; refine (SafeUn_uint64_uint8 _).mono ?_; rintro e w3 ⟨rfl, rfl⟩))
  refine bodyPost_ret (v := (.tuple #[.int .u64 0, .int .u64 255, .bool true])) (by simp [results, Tryz.results10, go_sem]) rfl ?_
  exact ⟨rfl, hb⟩
theorem ID_uint16 (a : Addr) (w : World) : Calls Tryz.prog 177 #[.pointer (some a)] w (fun e w' => e = .returned (.int .i64 4) ∧ w' = w) := by
  go_enter Tryz.func177, Tryz.ntmps177
  go_wp2_with fail
  go_ret
  exact ⟨by first | rfl | decide | kernel_rfl, rfl⟩
set_option maxRecDepth 100000 in
theorem arrowInt_uint16 (w : World) : Calls Tryz.prog 20 #[aType 16 false] w (RetT 119 w) := by
  unfold aType
  go_enter Tryz.func20, Tryz.ntmps20
  go_wp2_with fail
  go_ret
  exact ⟨_, rfl, by go_grown⟩
set_option maxRecDepth 100000 in
theorem arrowType_uint16 (w : World) : Calls Tryz.prog 11 #[aType 16 false] w (RetT 119 w) := by
  unfold aType
  go_enter Tryz.func11, Tryz.ntmps11
  go_wp2_with (go_at_call 20; refine (arrowInt_uint16 _).mono ?_; rintro e w1 ⟨a, rfl, hb⟩)
  go_ret
  exact ⟨a, rfl, Below.trans (by go_grown) (hb.mono (by simp <;> omega))⟩
set_option maxRecDepth 100000 in
theorem Impl_uint16_uint16 (w : World) : Calls Tryz.prog 5 #[.int .i64 16, .bool false] w (RetS (.tuple #[.int .u16 0, .int .u16 65535, .bool true]) w) := by
  go_enter Tryz.func5, Tryz.ntmps5
  go_wp2_with (first | (go_at_call 11; refine (show Calls Tryz.prog 11 _ _ _ from arrowType_uint16 _).mono ?_; rintro e w1 ⟨a, rfl, hb⟩) | (go_at_call 177; refine (ID_uint16 _ _).mono ?_; rintro e w2 ⟨rfl, rfl⟩) | (go_at_call 12; refine (SafeUn_uint16_uint16 _).mono ?_; rintro e w3 ⟨rfl, rfl⟩))
  refine bodyPost_ret (v := (.tuple #[.int .u16 0, .int .u16 65535, .bool true])) (by simp [results, Tryz.results5, go_sem]) rfl ?_
  exact ⟨rfl, hb⟩
set_option maxRecDepth 100000 in
theorem Impl_uint64_uint16 (w : World) : Calls Tryz.prog 10 #[.int .i64 16, .bool false] w (RetS (.tuple #[.int .u64 0, .int .u64 65535, .bool true]) w) := by
  go_enter Tryz.func10, Tryz.ntmps10
  go_wp2_with (first | (go_at_call 11; refine (show Calls Tryz.prog 11 _ _ _ from arrowType_uint16 _).mono ?_; rintro e w1 ⟨a, rfl, hb⟩) | (go_at_call 177; refine (ID_uint16 _ _).mono ?_; rintro e w2 ⟨rfl, rfl⟩) | (go_at_call 19; refine (SafeUn_uint64_uint16 _).mono ?_; rintro e w3 ⟨rfl, rfl⟩))
  refine bodyPost_ret (v := (.tuple #[.int .u64 0, .int .u64 65535, .bool true])) (by simp [results, Tryz.results10, go_sem]) rfl ?_
  exact ⟨rfl, hb⟩
theorem ID_uint32 (a : Addr) (w : World) : Calls Tryz.prog 180 #[.pointer (some a)] w (fun e w' => e = .returned (.int .i64 6) ∧ w' = w) := by
  go_enter Tryz.func180, Tryz.ntmps180
  go_wp2_with fail
  go_ret
  exact ⟨by first | rfl | decide | kernel_rfl, rfl⟩
set_option maxRecDepth 100000 in
theorem arrowInt_uint32 (w : World) : Calls Tryz.prog 20 #[aType 32 false] w (RetT 121 w) := by
  unfold aType
  go_enter Tryz.func20, Tryz.ntmps20
  go_wp2_with fail
  go_ret
  exact ⟨_, rfl, by go_grown⟩
set_option maxRecDepth 100000 in
theorem arrowType_uint32 (w : World) : Calls Tryz.prog 11 #[aType 32 false] w (RetT 121 w) := by
  unfold aType
  go_enter Tryz.func11, Tryz.ntmps11
  go_wp2_with (go_at_call 20; refine (arrowInt_uint32 _).mono ?_; rintro e w1 ⟨a, rfl, hb⟩)
  go_ret
  exact ⟨a, rfl, Below.trans (by go_grown) (hb.mono (by simp <;> omega))⟩
set_option maxRecDepth 100000 in
theorem Impl_uint16_uint32 (w : World) : Calls Tryz.prog 5 #[.int .i64 32, .bool false] w (RetS (.tuple #[.int .u16 0, .int .u16 65535, .bool true]) w) := by
  go_enter Tryz.func5, Tryz.ntmps5
  go_wp2_with (first | (go_at_call 11; refine (show Calls Tryz.prog 11 _ _ _ from arrowType_uint32 _).mono ?_; rintro e w1 ⟨a, rfl, hb⟩) | (go_at_call 180; refine (ID_uint32 _ _).mono ?_; rintro e w2 ⟨rfl, rfl⟩) | (go_at_call 12; refine (SafeUn_uint16_uint32 _).mono ?_; rintro e w3 ⟨rfl, rfl⟩))
  refine bodyPost_ret (v := (.tuple #[.int .u16 0, .int .u16 65535, .bool true])) (by simp [results, Tryz.results5, go_sem]) rfl ?_
  exact ⟨rfl, hb⟩
set_option maxRecDepth 100000 in
theorem Impl_uint64_uint32 (w : World) : Calls Tryz.prog 10 #[.int .i64 32, .bool false] w (RetS (.tuple #[.int .u64 0, .int .u64 4294967295, .bool true]) w) := by
  go_enter Tryz.func10, Tryz.ntmps10
  go_wp2_with (first | (go_at_call 11; refine (show Calls Tryz.prog 11 _ _ _ from arrowType_uint32 _).mono ?_; rintro e w1 ⟨a, rfl, hb⟩) | (go_at_call 180; refine (ID_uint32 _ _).mono ?_; rintro e w2 ⟨rfl, rfl⟩) | (go_at_call 19; refine (SafeUn_uint64_uint32 _).mono ?_; rintro e w3 ⟨rfl, rfl⟩))
  refine bodyPost_ret (v := (.tuple #[.int .u64 0, .int .u64 4294967295, .bool true])) (by simp [results, Tryz.results10, go_sem]) rfl ?_
  exact ⟨rfl, hb⟩
theorem ID_uint64 (a : Addr) (w : World) : Calls Tryz.prog 183 #[.pointer (some a)] w (fun e w' => e = .returned (.int .i64 8) ∧ w' = w) := by
  go_enter Tryz.func183, Tryz.ntmps183
  go_wp2_with fail
  go_ret
  exact ⟨by first | rfl | decide | kernel_rfl, rfl⟩
set_option maxRecDepth 100000 in
theorem arrowInt_uint64 (w : World) : Calls Tryz.prog 20 #[aType 64 false] w (RetT 123 w) := by
  unfold aType
  go_enter Tryz.func20, Tryz.ntmps20
  go_wp2_with fail
  go_ret
  exact ⟨_, rfl, by go_grown⟩
set_option maxRecDepth 100000 in
theorem arrowType_uint64 (w : World) : Calls Tryz.prog 11 #[aType 64 false] w (RetT 123 w) := by
  unfold aType
  go_enter Tryz.func11, Tryz.ntmps11
  go_wp2_with (go_at_call 20; refine (arrowInt_uint64 _).mono ?_; rintro e w1 ⟨a, rfl, hb⟩)
  go_ret
  exact ⟨a, rfl, Below.trans (by go_grown) (hb.mono (by simp <;> omega))⟩
set_option maxRecDepth 100000 in
theorem Impl_uint16_uint64 (w : World) : Calls Tryz.prog 5 #[.int .i64 64, .bool false] w (RetS (.tuple #[.int .u16 0, .int .u16 65535, .bool true]) w) := by
  go_enter Tryz.func5, Tryz.ntmps5
  go_wp2_with (first | (go_at_call 11; refine (show Calls Tryz.prog 11 _ _ _ from arrowType_uint64 _).mono ?_; rintro e w1 ⟨a, rfl, hb⟩) | (go_at_call 183; refine (ID_uint64 _ _).mono ?_; rintro e w2 ⟨rfl, rfl⟩) | (go_at_call 12; refine (SafeUn_uint16_uint64 _).mono ?_; rintro e w3 ⟨rfl, rfl⟩))
  refine bodyPost_ret (v := (.tuple #[.int .u16 0, .int .u16 65535, .bool true])) (by simp [results, Tryz.results5, go_sem]) rfl ?_
  exact ⟨rfl, hb⟩
set_option maxRecDepth 100000 in
theorem Impl_uint64_uint64 (w : World) : Calls Tryz.prog 10 #[.int .i64 64, .bool false] w (RetS (.tuple #[.int .u64 0, .int .u64 18446744073709551615, .bool true]) w) := by
  go_enter Tryz.func10, Tryz.ntmps10
  go_wp2_with (first | (go_at_call 11; refine (show Calls Tryz.prog 11 _ _ _ from arrowType_uint64 _).mono ?_; rintro e w1 ⟨a, rfl, hb⟩) | (go_at_call 183; refine (ID_uint64 _ _).mono ?_; rintro e w2 ⟨rfl, rfl⟩) | (go_at_call 19; refine (SafeUn_uint64_uint64 _).mono ?_; rintro e w3 ⟨rfl, rfl⟩))
  refine bodyPost_ret (v := (.tuple #[.int .u64 0, .int .u64 18446744073709551615, .bool true])) (by simp [results, Tryz.results10, go_sem]) rfl ?_
  exact ⟨rfl, hb⟩

end Go.Proofs.YtlhfmbpijcniaaaGreat.WidemagDiv
