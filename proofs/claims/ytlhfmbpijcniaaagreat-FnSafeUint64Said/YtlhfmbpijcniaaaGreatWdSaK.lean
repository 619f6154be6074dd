/- The greatest number of an integer type that another one has as well: the package's walks. -/
import Derived.Test.YtlhfmbpijcniaaaGreatWdNeg
import Derived.BigQuiet
import Derived.Deep.QuietTactic
namespace Go.Proofs.YtlhfmbpijcniaaaGreat.WidemagDiv
open Go.RowKit Go.Proofs.YtlhfmbpijcniaaaGreat.PmagDiv Go.Proofs.YtlhfmbpijcniaaaGreatW.PrintWords Go.Proofs.YtlhfmbpijcniaaaGreatW.PrintLast Go.Proofs.YtlhfmbpijcniaaaGreatW.PrintMore
set_option linter.unusedVariables false
set_option linter.unusedSimpArgs false

theorem SizeOf_int8 (w : World) : Calls Tryz.prog 74 #[] w (fun e w' => e = .returned (.int .u64 1) ∧ w' = w) := by
  go_enter Tryz.func74, Tryz.ntmps74
  go_wp2_with fail
  go_ret
  exact ⟨by first | rfl | decide | kernel_rfl | (simp [IntKind.wrap_i64, IntKind.wrap_u64, IntKind.wrap_u32, IntKind.wrap, IntKind.bits, IntKind.signed]), rfl⟩
theorem SizeOf_int16 (w : World) : Calls Tryz.prog 76 #[] w (fun e w' => e = .returned (.int .u64 2) ∧ w' = w) := by
  go_enter Tryz.func76, Tryz.ntmps76
  go_wp2_with fail
  go_ret
  exact ⟨by first | rfl | decide | kernel_rfl | (simp [IntKind.wrap_i64, IntKind.wrap_u64, IntKind.wrap_u32, IntKind.wrap, IntKind.bits, IntKind.signed]), rfl⟩
theorem SizeOf_int32 (w : World) : Calls Tryz.prog 78 #[] w (fun e w' => e = .returned (.int .u64 4) ∧ w' = w) := by
  go_enter Tryz.func78, Tryz.ntmps78
  go_wp2_with fail
  go_ret
  exact ⟨by first | rfl | decide | kernel_rfl | (simp [IntKind.wrap_i64, IntKind.wrap_u64, IntKind.wrap_u32, IntKind.wrap, IntKind.bits, IntKind.signed]), rfl⟩
theorem SizeOf_int64 (w : World) : Calls Tryz.prog 80 #[] w (fun e w' => e = .returned (.int .u64 8) ∧ w' = w) := by
  go_enter Tryz.func80, Tryz.ntmps80
  go_wp2_with fail
  go_ret
  exact ⟨by first | rfl | decide | kernel_rfl | (simp [IntKind.wrap_i64, IntKind.wrap_u64, IntKind.wrap_u32, IntKind.wrap, IntKind.bits, IntKind.signed]), rfl⟩
theorem SizeOf_uint8 (w : World) : Calls Tryz.prog 67 #[] w (fun e w' => e = .returned (.int .u64 1) ∧ w' = w) := by
  go_enter Tryz.func67, Tryz.ntmps67
  go_wp2_with fail
  go_ret
  exact ⟨by first | rfl | decide | kernel_rfl | (simp [IntKind.wrap_i64, IntKind.wrap_u64, IntKind.wrap_u32, IntKind.wrap, IntKind.bits, IntKind.signed]), rfl⟩
theorem SizeOf_uint16 (w : World) : Calls Tryz.prog 66 #[] w (fun e w' => e = .returned (.int .u64 2) ∧ w' = w) := by
  go_enter Tryz.func66, Tryz.ntmps66
  go_wp2_with fail
  go_ret
  exact ⟨by first | rfl | decide | kernel_rfl | (simp [IntKind.wrap_i64, IntKind.wrap_u64, IntKind.wrap_u32, IntKind.wrap, IntKind.bits, IntKind.signed]), rfl⟩
theorem SizeOf_uint32 (w : World) : Calls Tryz.prog 70 #[] w (fun e w' => e = .returned (.int .u64 4) ∧ w' = w) := by
  go_enter Tryz.func70, Tryz.ntmps70
  go_wp2_with fail
  go_ret
  exact ⟨by first | rfl | decide | kernel_rfl | (simp [IntKind.wrap_i64, IntKind.wrap_u64, IntKind.wrap_u32, IntKind.wrap, IntKind.bits, IntKind.signed]), rfl⟩
theorem SizeOf_uint64 (w : World) : Calls Tryz.prog 72 #[] w (fun e w' => e = .returned (.int .u64 8) ∧ w' = w) := by
  go_enter Tryz.func72, Tryz.ntmps72
  go_wp2_with fail
  go_ret
  exact ⟨by first | rfl | decide | kernel_rfl | (simp [IntKind.wrap_i64, IntKind.wrap_u64, IntKind.wrap_u32, IntKind.wrap, IntKind.bits, IntKind.signed]), rfl⟩
theorem MaxOf_int8 (w : World) : Calls Tryz.prog 75 #[] w (fun e w' => e = .returned (.int .i8 127) ∧ w' = w) := by
  go_enter Tryz.func75, Tryz.ntmps75
  go_wp2_with (first | (go_at_call 74; refine (SizeOf_int8 _).mono ?_; rintro e w1 ⟨rfl, rfl⟩))
  go_ret
  exact ⟨by first | rfl | decide | kernel_rfl | (simp [IntKind.wrap_i64, IntKind.wrap_u64, IntKind.wrap_u32, IntKind.wrap, IntKind.bits, IntKind.signed]), rfl⟩
theorem MaxOf_int16 (w : World) : Calls Tryz.prog 77 #[] w (fun e w' => e = .returned (.int .i16 32767) ∧ w' = w) := by
  go_enter Tryz.func77, Tryz.ntmps77
  go_wp2_with (first | (go_at_call 76; refine (SizeOf_int16 _).mono ?_; rintro e w1 ⟨rfl, rfl⟩))
  go_ret
  exact ⟨by first | rfl | decide | kernel_rfl | (simp [IntKind.wrap_i64, IntKind.wrap_u64, IntKind.wrap_u32, IntKind.wrap, IntKind.bits, IntKind.signed]), rfl⟩
theorem MaxOf_int32 (w : World) : Calls Tryz.prog 79 #[] w (fun e w' => e = .returned (.int .i32 2147483647) ∧ w' = w) := by
  go_enter Tryz.func79, Tryz.ntmps79
  go_wp2_with (first | (go_at_call 78; refine (SizeOf_int32 _).mono ?_; rintro e w1 ⟨rfl, rfl⟩))
  go_ret
  exact ⟨by first | rfl | decide | kernel_rfl | (simp [IntKind.wrap_i64, IntKind.wrap_u64, IntKind.wrap_u32, IntKind.wrap, IntKind.bits, IntKind.signed]), rfl⟩
theorem MaxOf_int64 (w : World) : Calls Tryz.prog 81 #[] w (fun e w' => e = .returned (.int .i64 9223372036854775807) ∧ w' = w) := by
  go_enter Tryz.func81, Tryz.ntmps81
  go_wp2_with (first | (go_at_call 80; refine (SizeOf_int64 _).mono ?_; rintro e w1 ⟨rfl, rfl⟩))
  go_ret
  exact ⟨by first | rfl | decide | kernel_rfl | (simp [IntKind.wrap_i64, IntKind.wrap_u64, IntKind.wrap_u32, IntKind.wrap, IntKind.bits, IntKind.signed]), rfl⟩
theorem MaxOf_uint8 (w : World) : Calls Tryz.prog 68 #[] w (fun e w' => e = .returned (.int .u8 255) ∧ w' = w) := by
  go_enter Tryz.func68, Tryz.ntmps68
  go_wp2_with fail
  go_ret
  exact ⟨by first | rfl | decide | kernel_rfl | (simp [IntKind.wrap_i64, IntKind.wrap_u64, IntKind.wrap_u32, IntKind.wrap, IntKind.bits, IntKind.signed]), rfl⟩
theorem MaxOf_uint16 (w : World) : Calls Tryz.prog 69 #[] w (fun e w' => e = .returned (.int .u16 65535) ∧ w' = w) := by
  go_enter Tryz.func69, Tryz.ntmps69
  go_wp2_with fail
  go_ret
  exact ⟨by first | rfl | decide | kernel_rfl | (simp [IntKind.wrap_i64, IntKind.wrap_u64, IntKind.wrap_u32, IntKind.wrap, IntKind.bits, IntKind.signed]), rfl⟩
theorem MaxOf_uint32 (w : World) : Calls Tryz.prog 71 #[] w (fun e w' => e = .returned (.int .u32 4294967295) ∧ w' = w) := by
  go_enter Tryz.func71, Tryz.ntmps71
  go_wp2_with fail
  go_ret
  exact ⟨by first | rfl | decide | kernel_rfl | (simp [IntKind.wrap_i64, IntKind.wrap_u64, IntKind.wrap_u32, IntKind.wrap, IntKind.bits, IntKind.signed]), rfl⟩
theorem MaxOf_uint64 (w : World) : Calls Tryz.prog 73 #[] w (fun e w' => e = .returned (.int .u64 18446744073709551615) ∧ w' = w) := by
  go_enter Tryz.func73, Tryz.ntmps73
  go_wp2_with fail
  go_ret
  exact ⟨by first | rfl | decide | kernel_rfl | (simp [IntKind.wrap_i64, IntKind.wrap_u64, IntKind.wrap_u32, IntKind.wrap, IntKind.bits, IntKind.signed]), rfl⟩
theorem Safe_uint16_int8 (w : World) : Calls Tryz.prog 44 #[] w (fun e w' => e = .returned (.int .u16 127) ∧ w' = w) := by
  go_enter Tryz.func44, Tryz.ntmps44
  go_wp2_with (first | (go_at_call 66; refine (SizeOf_uint16 _).mono ?_; rintro e w1 ⟨rfl, rfl⟩) | (go_at_call 74; refine (SizeOf_int8 _).mono ?_; rintro e w1 ⟨rfl, rfl⟩) | (go_at_call 69; refine (MaxOf_uint16 _).mono ?_; rintro e w1 ⟨rfl, rfl⟩) | (go_at_call 75; refine (MaxOf_int8 _).mono ?_; rintro e w1 ⟨rfl, rfl⟩))
  go_ret
  exact ⟨by first | rfl | decide | kernel_rfl | (simp [IntKind.wrap_i64, IntKind.wrap_u64, IntKind.wrap_u32, IntKind.wrap, IntKind.bits, IntKind.signed]), rfl⟩
theorem Safe_uint16_int16 (w : World) : Calls Tryz.prog 45 #[] w (fun e w' => e = .returned (.int .u16 32767) ∧ w' = w) := by
  go_enter Tryz.func45, Tryz.ntmps45
  go_wp2_with (first | (go_at_call 66; refine (SizeOf_uint16 _).mono ?_; rintro e w1 ⟨rfl, rfl⟩) | (go_at_call 76; refine (SizeOf_int16 _).mono ?_; rintro e w1 ⟨rfl, rfl⟩) | (go_at_call 69; refine (MaxOf_uint16 _).mono ?_; rintro e w1 ⟨rfl, rfl⟩) | (go_at_call 77; refine (MaxOf_int16 _).mono ?_; rintro e w1 ⟨rfl, rfl⟩))
  go_ret
  exact ⟨by first | rfl | decide | kernel_rfl | (simp [IntKind.wrap_i64, IntKind.wrap_u64, IntKind.wrap_u32, IntKind.wrap, IntKind.bits, IntKind.signed]), rfl⟩
theorem Safe_uint16_int32 (w : World) : Calls Tryz.prog 46 #[] w (fun e w' => e = .returned (.int .u16 65535) ∧ w' = w) := by
  go_enter Tryz.func46, Tryz.ntmps46
  go_wp2_with (first | (go_at_call 66; refine (SizeOf_uint16 _).mono ?_; rintro e w1 ⟨rfl, rfl⟩) | (go_at_call 78; refine (SizeOf_int32 _).mono ?_; rintro e w1 ⟨rfl, rfl⟩) | (go_at_call 69; refine (MaxOf_uint16 _).mono ?_; rintro e w1 ⟨rfl, rfl⟩) | (go_at_call 79; refine (MaxOf_int32 _).mono ?_; rintro e w1 ⟨rfl, rfl⟩))
  go_ret
  exact ⟨by first | rfl | decide | kernel_rfl | (simp [IntKind.wrap_i64, IntKind.wrap_u64, IntKind.wrap_u32, IntKind.wrap, IntKind.bits, IntKind.signed]), rfl⟩
theorem Safe_uint16_int64 (w : World) : Calls Tryz.prog 47 #[] w (fun e w' => e = .returned (.int .u16 65535) ∧ w' = w) := by
  go_enter Tryz.func47, Tryz.ntmps47
  go_wp2_with (first | (go_at_call 66; refine (SizeOf_uint16 _).mono ?_; rintro e w1 ⟨rfl, rfl⟩) | (go_at_call 80; refine (SizeOf_int64 _).mono ?_; rintro e w1 ⟨rfl, rfl⟩) | (go_at_call 69; refine (MaxOf_uint16 _).mono ?_; rintro e w1 ⟨rfl, rfl⟩) | (go_at_call 81; refine (MaxOf_int64 _).mono ?_; rintro e w1 ⟨rfl, rfl⟩))
  go_ret
  exact ⟨by first | rfl | decide | kernel_rfl | (simp [IntKind.wrap_i64, IntKind.wrap_u64, IntKind.wrap_u32, IntKind.wrap, IntKind.bits, IntKind.signed]), rfl⟩
theorem Safe_uint16_uint8 (w : World) : Calls Tryz.prog 40 #[] w (fun e w' => e = .returned (.int .u16 255) ∧ w' = w) := by
  go_enter Tryz.func40, Tryz.ntmps40
  go_wp2_with (first | (go_at_call 66; refine (SizeOf_uint16 _).mono ?_; rintro e w1 ⟨rfl, rfl⟩) | (go_at_call 67; refine (SizeOf_uint8 _).mono ?_; rintro e w1 ⟨rfl, rfl⟩) | (go_at_call 69; refine (MaxOf_uint16 _).mono ?_; rintro e w1 ⟨rfl, rfl⟩) | (go_at_call 68; refine (MaxOf_uint8 _).mono ?_; rintro e w1 ⟨rfl, rfl⟩))
  go_ret
  exact ⟨by first | rfl | decide | kernel_rfl | (simp [IntKind.wrap_i64, IntKind.wrap_u64, IntKind.wrap_u32, IntKind.wrap, IntKind.bits, IntKind.signed]), rfl⟩
theorem Safe_uint16_uint16 (w : World) : Calls Tryz.prog 41 #[] w (fun e w' => e = .returned (.int .u16 65535) ∧ w' = w) := by
  go_enter Tryz.func41, Tryz.ntmps41
  go_wp2_with (first | (go_at_call 66; refine (SizeOf_uint16 _).mono ?_; rintro e w1 ⟨rfl, rfl⟩) | (go_at_call 69; refine (MaxOf_uint16 _).mono ?_; rintro e w1 ⟨rfl, rfl⟩))
  go_ret
  exact ⟨by first | rfl | decide | kernel_rfl | (simp [IntKind.wrap_i64, IntKind.wrap_u64, IntKind.wrap_u32, IntKind.wrap, IntKind.bits, IntKind.signed]), rfl⟩
theorem Safe_uint16_uint32 (w : World) : Calls Tryz.prog 42 #[] w (fun e w' => e = .returned (.int .u16 65535) ∧ w' = w) := by
  go_enter Tryz.func42, Tryz.ntmps42
  go_wp2_with (first | (go_at_call 66; refine (SizeOf_uint16 _).mono ?_; rintro e w1 ⟨rfl, rfl⟩) | (go_at_call 70; refine (SizeOf_uint32 _).mono ?_; rintro e w1 ⟨rfl, rfl⟩) | (go_at_call 69; refine (MaxOf_uint16 _).mono ?_; rintro e w1 ⟨rfl, rfl⟩) | (go_at_call 71; refine (MaxOf_uint32 _).mono ?_; rintro e w1 ⟨rfl, rfl⟩))
  go_ret
  exact ⟨by first | rfl | decide | kernel_rfl | (simp [IntKind.wrap_i64, IntKind.wrap_u64, IntKind.wrap_u32, IntKind.wrap, IntKind.bits, IntKind.signed]), rfl⟩
theorem Safe_uint16_uint64 (w : World) : Calls Tryz.prog 43 #[] w (fun e w' => e = .returned (.int .u16 65535) ∧ w' = w) := by
  go_enter Tryz.func43, Tryz.ntmps43
  go_wp2_with (first | (go_at_call 66; refine (SizeOf_uint16 _).mono ?_; rintro e w1 ⟨rfl, rfl⟩) | (go_at_call 72; refine (SizeOf_uint64 _).mono ?_; rintro e w1 ⟨rfl, rfl⟩) | (go_at_call 69; refine (MaxOf_uint16 _).mono ?_; rintro e w1 ⟨rfl, rfl⟩) | (go_at_call 73; refine (MaxOf_uint64 _).mono ?_; rintro e w1 ⟨rfl, rfl⟩))
  go_ret
  exact ⟨by first | rfl | decide | kernel_rfl | (simp [IntKind.wrap_i64, IntKind.wrap_u64, IntKind.wrap_u32, IntKind.wrap, IntKind.bits, IntKind.signed]), rfl⟩
theorem MinMax_uint16_uint8 (w : World) : Calls Tryz.prog 23 #[.int .i64 2] w (fun e w' => e = .returned (.tuple #[.int .u16 0, .int .u16 255]) ∧ w' = w) := by
  go_enter Tryz.func23, Tryz.ntmps23
  go_wp2_with (first | (go_at_call 40; refine (Safe_uint16_uint8 _).mono ?_; rintro e w1 ⟨rfl, rfl⟩))
  refine bodyPost_ret (v := (.tuple #[.int .u16 0, .int .u16 255])) (by simp [results, Tryz.results23, go_sem]) rfl ?_
  exact ⟨by first | rfl | decide | kernel_rfl | (simp [IntKind.wrap_i64, IntKind.wrap_u64, IntKind.wrap_u32, IntKind.wrap, IntKind.bits, IntKind.signed]), rfl⟩
theorem SafeUn_uint16_uint8 (w : World) : Calls Tryz.prog 12 #[.int .i64 2] w (fun e w' => e = .returned (.tuple #[.int .u16 0, .int .u16 255]) ∧ w' = w) := by
  go_enter Tryz.func12, Tryz.ntmps12
  go_wp2_with (first | (go_at_call 23; refine (MinMax_uint16_uint8 _).mono ?_; rintro e w1 ⟨rfl, rfl⟩))
  refine bodyPost_ret (v := (.tuple #[.int .u16 0, .int .u16 255])) (by simp [results, Tryz.results12, go_sem]) rfl ?_
  exact ⟨by first | rfl | decide | kernel_rfl | (simp [IntKind.wrap_i64, IntKind.wrap_u64, IntKind.wrap_u32, IntKind.wrap, IntKind.bits, IntKind.signed]), rfl⟩
theorem MinMax_uint16_uint16 (w : World) : Calls Tryz.prog 23 #[.int .i64 4] w (fun e w' => e = .returned (.tuple #[.int .u16 0, .int .u16 65535]) ∧ w' = w) := by
  go_enter Tryz.func23, Tryz.ntmps23
  go_wp2_with (first | (go_at_call 41; refine (Safe_uint16_uint16 _).mono ?_; rintro e w1 ⟨rfl, rfl⟩))
  refine bodyPost_ret (v := (.tuple #[.int .u16 0, .int .u16 65535])) (by simp [results, Tryz.results23, go_sem]) rfl ?_
  exact ⟨by first | rfl | decide | kernel_rfl | (simp [IntKind.wrap_i64, IntKind.wrap_u64, IntKind.wrap_u32, IntKind.wrap, IntKind.bits, IntKind.signed]), rfl⟩
theorem SafeUn_uint16_uint16 (w : World) : Calls Tryz.prog 12 #[.int .i64 4] w (fun e w' => e = .returned (.tuple #[.int .u16 0, .int .u16 65535]) ∧ w' = w) := by
  go_enter Tryz.func12, Tryz.ntmps12
  go_wp2_with (first | (go_at_call 23; refine (MinMax_uint16_uint16 _).mono ?_; rintro e w1 ⟨rfl, rfl⟩))
  refine bodyPost_ret (v := (.tuple #[.int .u16 0, .int .u16 65535])) (by simp [results, Tryz.results12, go_sem]) rfl ?_
  exact ⟨by first | rfl | decide | kernel_rfl | (simp [IntKind.wrap_i64, IntKind.wrap_u64, IntKind.wrap_u32, IntKind.wrap, IntKind.bits, IntKind.signed]), rfl⟩
theorem MinMax_uint16_uint32 (w : World) : Calls Tryz.prog 23 #[.int .i64 6] w (fun e w' => e = .returned (.tuple #[.int .u16 0, .int .u16 65535]) ∧ w' = w) := by
  go_enter Tryz.func23, Tryz.ntmps23
  go_wp2_with (first | (go_at_call 42; refine (Safe_uint16_uint32 _).mono ?_; rintro e w1 ⟨rfl, rfl⟩))
  refine bodyPost_ret (v := (.tuple #[.int .u16 0, .int .u16 65535])) (by simp [results, Tryz.results23, go_sem]) rfl ?_
  exact ⟨by first | rfl | decide | kernel_rfl | (simp [IntKind.wrap_i64, IntKind.wrap_u64, IntKind.wrap_u32, IntKind.wrap, IntKind.bits, IntKind.signed]), rfl⟩
theorem SafeUn_uint16_uint32 (w : World) : Calls Tryz.prog 12 #[.int .i64 6] w (fun e w' => e = .returned (.tuple #[.int .u16 0, .int .u16 65535]) ∧ w' = w) := by
  go_enter Tryz.func12, Tryz.ntmps12
  go_wp2_with (first | (go_at_call 23; refine (MinMax_uint16_uint32 _).mono ?_; rintro e w1 ⟨rfl, rfl⟩))
  refine bodyPost_ret (v := (.tuple #[.int .u16 0, .int .u16 65535])) (by simp [results, Tryz.results12, go_sem]) rfl ?_
  exact ⟨by first | rfl | decide | kernel_rfl | (simp [IntKind.wrap_i64, IntKind.wrap_u64, IntKind.wrap_u32, IntKind.wrap, IntKind.bits, IntKind.signed]), rfl⟩
theorem MinMax_uint16_uint64 (w : World) : Calls Tryz.prog 23 #[.int .i64 8] w (fun e w' => e = .returned (.tuple #[.int .u16 0, .int .u16 65535]) ∧ w' = w) := by
  go_enter Tryz.func23, Tryz.ntmps23
  go_wp2_with (first | (go_at_call 43; refine (Safe_uint16_uint64 _).mono ?_; rintro e w1 ⟨rfl, rfl⟩))
  refine bodyPost_ret (v := (.tuple #[.int .u16 0, .int .u16 65535])) (by simp [results, Tryz.results23, go_sem]) rfl ?_
  exact ⟨by first | rfl | decide | kernel_rfl | (simp [IntKind.wrap_i64, IntKind.wrap_u64, IntKind.wrap_u32, IntKind.wrap, IntKind.bits, IntKind.signed]), rfl⟩
theorem SafeUn_uint16_uint64 (w : World) : Calls Tryz.prog 12 #[.int .i64 8] w (fun e w' => e = .returned (.tuple #[.int .u16 0, .int .u16 65535]) ∧ w' = w) := by
  go_enter Tryz.func12, Tryz.ntmps12
  go_wp2_with (first | (go_at_call 23; refine (MinMax_uint16_uint64 _).mono ?_; rintro e w1 ⟨rfl, rfl⟩))
  refine bodyPost_ret (v := (.tuple #[.int .u16 0, .int .u16 65535])) (by simp [results, Tryz.results12, go_sem]) rfl ?_
  exact ⟨by first | rfl | decide | kernel_rfl | (simp [IntKind.wrap_i64, IntKind.wrap_u64, IntKind.wrap_u32, IntKind.wrap, IntKind.bits, IntKind.signed]), rfl⟩
theorem MinMax_uint16_int8 (w : World) : Calls Tryz.prog 23 #[.int .i64 3] w (fun e w' => e = .returned (.tuple #[.int .u16 0, .int .u16 127]) ∧ w' = w) := by
  go_enter Tryz.func23, Tryz.ntmps23
  go_wp2_with (first | (go_at_call 44; refine (Safe_uint16_int8 _).mono ?_; rintro e w1 ⟨rfl, rfl⟩))
  refine bodyPost_ret (v := (.tuple #[.int .u16 0, .int .u16 127])) (by simp [results, Tryz.results23, go_sem]) rfl ?_
  exact ⟨by first | rfl | decide | kernel_rfl | (simp [IntKind.wrap_i64, IntKind.wrap_u64, IntKind.wrap_u32, IntKind.wrap, IntKind.bits, IntKind.signed]), rfl⟩
theorem SafeUn_uint16_int8 (w : World) : Calls Tryz.prog 12 #[.int .i64 3] w (fun e w' => e = .returned (.tuple #[.int .u16 0, .int .u16 127]) ∧ w' = w) := by
  go_enter Tryz.func12, Tryz.ntmps12
  go_wp2_with (first | (go_at_call 23; refine (MinMax_uint16_int8 _).mono ?_; rintro e w1 ⟨rfl, rfl⟩))
  refine bodyPost_ret (v := (.tuple #[.int .u16 0, .int .u16 127])) (by simp [results, Tryz.results12, go_sem]) rfl ?_
  exact ⟨by first | rfl | decide | kernel_rfl | (simp [IntKind.wrap_i64, IntKind.wrap_u64, IntKind.wrap_u32, IntKind.wrap, IntKind.bits, IntKind.signed]), rfl⟩
theorem MinMax_uint16_int16 (w : World) : Calls Tryz.prog 23 #[.int .i64 5] w (fun e w' => e = .returned (.tuple #[.int .u16 0, .int .u16 32767]) ∧ w' = w) := by
  go_enter Tryz.func23, Tryz.ntmps23
  go_wp2_with (first | (go_at_call 45; refine (Safe_uint16_int16 _).mono ?_; rintro e w1 ⟨rfl, rfl⟩))
  refine bodyPost_ret (v := (.tuple #[.int .u16 0, .int .u16 32767])) (by simp [results, Tryz.results23, go_sem]) rfl ?_
  exact ⟨by first | rfl | decide | kernel_rfl | (simp [IntKind.wrap_i64, IntKind.wrap_u64, IntKind.wrap_u32, IntKind.wrap, IntKind.bits, IntKind.signed]), rfl⟩
theorem SafeUn_uint16_int16 (w : World) : Calls Tryz.prog 12 #[.int .i64 5] w (fun e w' => e = .returned (.tuple #[.int .u16 0, .int .u16 32767]) ∧ w' = w) := by
  go_enter Tryz.func12, Tryz.ntmps12
  go_wp2_with (first | (go_at_call 23; refine (MinMax_uint16_int16 _).mono ?_; rintro e w1 ⟨rfl, rfl⟩))
  refine bodyPost_ret (v := (.tuple #[.int .u16 0, .int .u16 32767])) (by simp [results, Tryz.results12, go_sem]) rfl ?_
  exact ⟨by first | rfl | decide | kernel_rfl | (simp [IntKind.wrap_i64, IntKind.wrap_u64, IntKind.wrap_u32, IntKind.wrap, IntKind.bits, IntKind.signed]), rfl⟩
theorem MinMax_uint16_int32 (w : World) : Calls Tryz.prog 23 #[.int .i64 7] w (fun e w' => e = .returned (.tuple #[.int .u16 0, .int .u16 65535]) ∧ w' = w) := by
  go_enter Tryz.func23, Tryz.ntmps23
  go_wp2_with (first | (go_at_call 46; refine (Safe_uint16_int32 _).mono ?_; rintro e w1 ⟨rfl, rfl⟩))
  refine bodyPost_ret (v := (.tuple #[.int .u16 0, .int .u16 65535])) (by simp [results, Tryz.results23, go_sem]) rfl ?_
  exact ⟨by first | rfl | decide | kernel_rfl | (simp [IntKind.wrap_i64, IntKind.wrap_u64, IntKind.wrap_u32, IntKind.wrap, IntKind.bits, IntKind.signed]), rfl⟩
theorem SafeUn_uint16_int32 (w : World) : Calls Tryz.prog 12 #[.int .i64 7] w (fun e w' => e = .returned (.tuple #[.int .u16 0, .int .u16 65535]) ∧ w' = w) := by
  go_enter Tryz.func12, Tryz.ntmps12
  go_wp2_with (first | (go_at_call 23; refine (MinMax_uint16_int32 _).mono ?_; rintro e w1 ⟨rfl, rfl⟩))
  refine bodyPost_ret (v := (.tuple #[.int .u16 0, .int .u16 65535])) (by simp [results, Tryz.results12, go_sem]) rfl ?_
  exact ⟨by first | rfl | decide | kernel_rfl | (simp [IntKind.wrap_i64, IntKind.wrap_u64, IntKind.wrap_u32, IntKind.wrap, IntKind.bits, IntKind.signed]), rfl⟩
theorem MinMax_uint16_int64 (w : World) : Calls Tryz.prog 23 #[.int .i64 9] w (fun e w' => e = .returned (.tuple #[.int .u16 0, .int .u16 65535]) ∧ w' = w) := by
  go_enter Tryz.func23, Tryz.ntmps23
  go_wp2_with (first | (go_at_call 47; refine (Safe_uint16_int64 _).mono ?_; rintro e w1 ⟨rfl, rfl⟩))
  refine bodyPost_ret (v := (.tuple #[.int .u16 0, .int .u16 65535])) (by simp [results, Tryz.results23, go_sem]) rfl ?_
  exact ⟨by first | rfl | decide | kernel_rfl | (simp [IntKind.wrap_i64, IntKind.wrap_u64, IntKind.wrap_u32, IntKind.wrap, IntKind.bits, IntKind.signed]), rfl⟩
theorem SafeUn_uint16_int64 (w : World) : Calls Tryz.prog 12 #[.int .i64 9] w (fun e w' => e = .returned (.tuple #[.int .u16 0, .int .u16 65535]) ∧ w' = w) := by
  go_enter Tryz.func12, Tryz.ntmps12
  go_wp2_with (first | (go_at_call 23; refine (MinMax_uint16_int64 _).mono ?_; rintro e w1 ⟨rfl, rfl⟩))
  refine bodyPost_ret (v := (.tuple #[.int .u16 0, .int .u16 65535])) (by simp [results, Tryz.results12, go_sem]) rfl ?_
  exact ⟨by first | rfl | decide | kernel_rfl | (simp [IntKind.wrap_i64, IntKind.wrap_u64, IntKind.wrap_u32, IntKind.wrap, IntKind.bits, IntKind.signed]), rfl⟩
theorem Safe_uint64_int8 (w : World) : Calls Tryz.prog 56 #[] w (fun e w' => e = .returned (.int .u64 127) ∧ w' = w) := by
  go_enter Tryz.func56, Tryz.ntmps56
  go_wp2_with (first | (go_at_call 72; refine (SizeOf_uint64 _).mono ?_; rintro e w1 ⟨rfl, rfl⟩) | (go_at_call 74; refine (SizeOf_int8 _).mono ?_; rintro e w1 ⟨rfl, rfl⟩) | (go_at_call 73; refine (MaxOf_uint64 _).mono ?_; rintro e w1 ⟨rfl, rfl⟩) | (go_at_call 75; refine (MaxOf_int8 _).mono ?_; rintro e w1 ⟨rfl, rfl⟩))
  go_ret
  exact ⟨by first | rfl | decide | kernel_rfl | (simp [IntKind.wrap_i64, IntKind.wrap_u64, IntKind.wrap_u32, IntKind.wrap, IntKind.bits, IntKind.signed]), rfl⟩
theorem Safe_uint64_int16 (w : World) : Calls Tryz.prog 57 #[] w (fun e w' => e = .returned (.int .u64 32767) ∧ w' = w) := by
  go_enter Tryz.func57, Tryz.ntmps57
  go_wp2_with (first | (go_at_call 72; refine (SizeOf_uint64 _).mono ?_; rintro e w1 ⟨rfl, rfl⟩) | (go_at_call 76; refine (SizeOf_int16 _).mono ?_; rintro e w1 ⟨rfl, rfl⟩) | (go_at_call 73; refine (MaxOf_uint64 _).mono ?_; rintro e w1 ⟨rfl, rfl⟩) | (go_at_call 77; refine (MaxOf_int16 _).mono ?_; rintro e w1 ⟨rfl, rfl⟩))
  go_ret
  exact ⟨by first | rfl | decide | kernel_rfl | (simp [IntKind.wrap_i64, IntKind.wrap_u64, IntKind.wrap_u32, IntKind.wrap, IntKind.bits, IntKind.signed]), rfl⟩
theorem Safe_uint64_int32 (w : World) : Calls Tryz.prog 58 #[] w (fun e w' => e = .returned (.int .u64 2147483647) ∧ w' = w) := by
  go_enter Tryz.func58, Tryz.ntmps58
  go_wp2_with (first | (go_at_call 72; refine (SizeOf_uint64 _).mono ?_; rintro e w1 ⟨rfl, rfl⟩) | (go_at_call 78; refine (SizeOf_int32 _).mono ?_; rintro e w1 ⟨rfl, rfl⟩) | (go_at_call 73; refine (MaxOf_uint64 _).mono ?_; rintro e w1 ⟨rfl, rfl⟩) | (go_at_call 79; refine (MaxOf_int32 _).mono ?_; rintro e w1 ⟨rfl, rfl⟩))
  go_ret
  exact ⟨by first | rfl | decide | kernel_rfl | (simp [IntKind.wrap_i64, IntKind.wrap_u64, IntKind.wrap_u32, IntKind.wrap, IntKind.bits, IntKind.signed]), rfl⟩
theorem Safe_uint64_int64 (w : World) : Calls Tryz.prog 59 #[] w (fun e w' => e = .returned (.int .u64 9223372036854775807) ∧ w' = w) := by
  go_enter Tryz.func59, Tryz.ntmps59
  go_wp2_with (first | (go_at_call 72; refine (SizeOf_uint64 _).mono ?_; rintro e w1 ⟨rfl, rfl⟩) | (go_at_call 80; refine (SizeOf_int64 _).mono ?_; rintro e w1 ⟨rfl, rfl⟩) | (go_at_call 73; refine (MaxOf_uint64 _).mono ?_; rintro e w1 ⟨rfl, rfl⟩) | (go_at_call 81; refine (MaxOf_int64 _).mono ?_; rintro e w1 ⟨rfl, rfl⟩))
  go_ret
  exact ⟨by first | rfl | decide | kernel_rfl | (simp [IntKind.wrap_i64, IntKind.wrap_u64, IntKind.wrap_u32, IntKind.wrap, IntKind.bits, IntKind.signed]), rfl⟩
theorem Safe_uint64_uint8 (w : World) : Calls Tryz.prog 52 #[] w (fun e w' => e = .returned (.int .u64 255) ∧ w' = w) := by
  go_enter Tryz.func52, Tryz.ntmps52
  go_wp2_with (first | (go_at_call 72; refine (SizeOf_uint64 _).mono ?_; rintro e w1 ⟨rfl, rfl⟩) | (go_at_call 67; refine (SizeOf_uint8 _).mono ?_; rintro e w1 ⟨rfl, rfl⟩) | (go_at_call 73; refine (MaxOf_uint64 _).mono ?_; rintro e w1 ⟨rfl, rfl⟩) | (go_at_call 68; refine (MaxOf_uint8 _).mono ?_; rintro e w1 ⟨rfl, rfl⟩))
  go_ret
  exact ⟨by first | rfl | decide | kernel_rfl | (simp [IntKind.wrap_i64, IntKind.wrap_u64, IntKind.wrap_u32, IntKind.wrap, IntKind.bits, IntKind.signed]), rfl⟩
theorem Safe_uint64_uint16 (w : World) : Calls Tryz.prog 53 #[] w (fun e w' => e = .returned (.int .u64 65535) ∧ w' = w) := by
  go_enter Tryz.func53, Tryz.ntmps53
  go_wp2_with (first | (go_at_call 72; refine (SizeOf_uint64 _).mono ?_; rintro e w1 ⟨rfl, rfl⟩) | (go_at_call 66; refine (SizeOf_uint16 _).mono ?_; rintro e w1 ⟨rfl, rfl⟩) | (go_at_call 73; refine (MaxOf_uint64 _).mono ?_; rintro e w1 ⟨rfl, rfl⟩) | (go_at_call 69; refine (MaxOf_uint16 _).mono ?_; rintro e w1 ⟨rfl, rfl⟩))
  go_ret
  exact ⟨by first | rfl | decide | kernel_rfl | (simp [IntKind.wrap_i64, IntKind.wrap_u64, IntKind.wrap_u32, IntKind.wrap, IntKind.bits, IntKind.signed]), rfl⟩
theorem Safe_uint64_uint32 (w : World) : Calls Tryz.prog 54 #[] w (fun e w' => e = .returned (.int .u64 4294967295) ∧ w' = w) := by
  go_enter Tryz.func54, Tryz.ntmps54
  go_wp2_with (first | (go_at_call 72; refine (SizeOf_uint64 _).mono ?_; rintro e w1 ⟨rfl, rfl⟩) | (go_at_call 70; refine (SizeOf_uint32 _).mono ?_; rintro e w1 ⟨rfl, rfl⟩) | (go_at_call 73; refine (MaxOf_uint64 _).mono ?_; rintro e w1 ⟨rfl, rfl⟩) | (go_at_call 71; refine (MaxOf_uint32 _).mono ?_; rintro e w1 ⟨rfl, rfl⟩))
  go_ret
  exact ⟨by first | rfl | decide | kernel_rfl | (simp [IntKind.wrap_i64, IntKind.wrap_u64, IntKind.wrap_u32, IntKind.wrap, IntKind.bits, IntKind.signed]), rfl⟩
theorem Safe_uint64_uint64 (w : World) : Calls Tryz.prog 55 #[] w (fun e w' => e = .returned (.int .u64 18446744073709551615) ∧ w' = w) := by
  go_enter Tryz.func55, Tryz.ntmps55
  go_wp2_with (first | (go_at_call 72; refine (SizeOf_uint64 _).mono ?_; rintro e w1 ⟨rfl, rfl⟩) | (go_at_call 73; refine (MaxOf_uint64 _).mono ?_; rintro e w1 ⟨rfl, rfl⟩))
  go_ret
  exact ⟨by first | rfl | decide | kernel_rfl | (simp [IntKind.wrap_i64, IntKind.wrap_u64, IntKind.wrap_u32, IntKind.wrap, IntKind.bits, IntKind.signed]), rfl⟩
theorem MinMax_uint64_uint8 (w : World) : Calls Tryz.prog 28 #[.int .i64 2] w (fun e w' => e = .returned (.tuple #[.int .u64 0, .int .u64 255]) ∧ w' = w) := by
  go_enter Tryz.func28, Tryz.ntmps28
  go_wp2_with (first | (go_at_call 52; refine (Safe_uint64_uint8 _).mono ?_; rintro e w1 ⟨rfl, rfl⟩))
  refine bodyPost_ret (v := (.tuple #[.int .u64 0, .int .u64 255])) (by simp [results, Tryz.results28, go_sem]) rfl ?_
  exact ⟨by first | rfl | decide | kernel_rfl | (simp [IntKind.wrap_i64, IntKind.wrap_u64, IntKind.wrap_u32, IntKind.wrap, IntKind.bits, IntKind.signed]), rfl⟩
theorem SafeUn_uint64_uint8 (w : World) : Calls Tryz.prog 19 #[.int .i64 2] w (fun e w' => e = .returned (.tuple #[.int .u64 0, .int .u64 255]) ∧ w' = w) := by
  go_enter Tryz.func19, Tryz.ntmps19
  go_wp2_with (first | (go_at_call 28; refine (MinMax_uint64_uint8 _).mono ?_; rintro e w1 ⟨rfl, rfl⟩))
  refine bodyPost_ret (v := (.tuple #[.int .u64 0, .int .u64 255])) (by simp [results, Tryz.results19, go_sem]) rfl ?_
  exact ⟨by first | rfl | decide | kernel_rfl | (simp [IntKind.wrap_i64, IntKind.wrap_u64, IntKind.wrap_u32, IntKind.wrap, IntKind.bits, IntKind.signed]), rfl⟩
theorem MinMax_uint64_uint16 (w : World) : Calls Tryz.prog 28 #[.int .i64 4] w (fun e w' => e = .returned (.tuple #[.int .u64 0, .int .u64 65535]) ∧ w' = w) := by
  go_enter Tryz.func28, Tryz.ntmps28
  go_wp2_with (first | (go_at_call 53; refine (Safe_uint64_uint16 _).mono ?_; rintro e w1 ⟨rfl, rfl⟩))
  refine bodyPost_ret (v := (.tuple #[.int .u64 0, .int .u64 65535])) (by simp [results, Tryz.results28, go_sem]) rfl ?_
  exact ⟨by first | rfl | decide | kernel_rfl | (simp [IntKind.wrap_i64, IntKind.wrap_u64, IntKind.wrap_u32, IntKind.wrap, IntKind.bits, IntKind.signed]), rfl⟩
theorem SafeUn_uint64_uint16 (w : World) : Calls Tryz.prog 19 #[.int .i64 4] w (fun e w' => e = .returned (.tuple #[.int .u64 0, .int .u64 65535]) ∧ w' = w) := by
  go_enter Tryz.func19, Tryz.ntmps19
  go_wp2_with (first | (go_at_call 28; refine (MinMax_uint64_uint16 _).mono ?_; rintro e w1 ⟨rfl, rfl⟩))
  refine bodyPost_ret (v := (.tuple #[.int .u64 0, .int .u64 65535])) (by simp [results, Tryz.results19, go_sem]) rfl ?_
  exact ⟨by first | rfl | decide | kernel_rfl | (simp [IntKind.wrap_i64, IntKind.wrap_u64, IntKind.wrap_u32, IntKind.wrap, IntKind.bits, IntKind.signed]), rfl⟩
theorem MinMax_uint64_uint32 (w : World) : Calls Tryz.prog 28 #[.int .i64 6] w (fun e w' => e = .returned (.tuple #[.int .u64 0, .int .u64 4294967295]) ∧ w' = w) := by
  go_enter Tryz.func28, Tryz.ntmps28
  go_wp2_with (first | (go_at_call 54; refine (Safe_uint64_uint32 _).mono ?_; rintro e w1 ⟨rfl, rfl⟩))
  refine bodyPost_ret (v := (.tuple #[.int .u64 0, .int .u64 4294967295])) (by simp [results, Tryz.results28, go_sem]) rfl ?_
  exact ⟨by first | rfl | decide | kernel_rfl | (simp [IntKind.wrap_i64, IntKind.wrap_u64, IntKind.wrap_u32, IntKind.wrap, IntKind.bits, IntKind.signed]), rfl⟩
theorem SafeUn_uint64_uint32 (w : World) : Calls Tryz.prog 19 #[.int .i64 6] w (fun e w' => e = .returned (.tuple #[.int .u64 0, .int .u64 4294967295]) ∧ w' = w) := by
  go_enter Tryz.func19, Tryz.ntmps19
  go_wp2_with (first | (go_at_call 28; refine (MinMax_uint64_uint32 _).mono ?_; rintro e w1 ⟨rfl, rfl⟩))
  refine bodyPost_ret (v := (.tuple #[.int .u64 0, .int .u64 4294967295])) (by simp [results, Tryz.results19, go_sem]) rfl ?_
  exact ⟨by first | rfl | decide | kernel_rfl | (simp [IntKind.wrap_i64, IntKind.wrap_u64, IntKind.wrap_u32, IntKind.wrap, IntKind.bits, IntKind.signed]), rfl⟩
theorem MinMax_uint64_uint64 (w : World) : Calls Tryz.prog 28 #[.int .i64 8] w (fun e w' => e = .returned (.tuple #[.int .u64 0, .int .u64 18446744073709551615]) ∧ w' = w) := by
  go_enter Tryz.func28, Tryz.ntmps28
  go_wp2_with (first | (go_at_call 55; refine (Safe_uint64_uint64 _).mono ?_; rintro e w1 ⟨rfl, rfl⟩))
  refine bodyPost_ret (v := (.tuple #[.int .u64 0, .int .u64 18446744073709551615])) (by simp [results, Tryz.results28, go_sem]) rfl ?_
  exact ⟨by first | rfl | decide | kernel_rfl | (simp [IntKind.wrap_i64, IntKind.wrap_u64, IntKind.wrap_u32, IntKind.wrap, IntKind.bits, IntKind.signed]), rfl⟩
theorem SafeUn_uint64_uint64 (w : World) : Calls Tryz.prog 19 #[.int .i64 8] w (fun e w' => e = .returned (.tuple #[.int .u64 0, .int .u64 18446744073709551615]) ∧ w' = w) := by
  go_enter Tryz.func19, Tryz.ntmps19
  go_wp2_with (first | (go_at_call 28; refine (MinMax_uint64_uint64 _).mono ?_; rintro e w1 ⟨rfl, rfl⟩))
  refine bodyPost_ret (v := (.tuple #[.int .u64 0, .int .u64 18446744073709551615])) (by simp [results, Tryz.results19, go_sem]) rfl ?_
  exact ⟨by first | rfl | decide | kernel_rfl | (simp [IntKind.wrap_i64, IntKind.wrap_u64, IntKind.wrap_u32, IntKind.wrap, IntKind.bits, IntKind.signed]), rfl⟩
theorem MinMax_uint64_int8 (w : World) : Calls Tryz.prog 28 #[.int .i64 3] w (fun e w' => e = .returned (.tuple #[.int .u64 0, .int .u64 127]) ∧ w' = w) := by
  go_enter Tryz.func28, Tryz.ntmps28
  go_wp2_with (first | (go_at_call 56; refine (Safe_uint64_int8 _).mono ?_; rintro e w1 ⟨rfl, rfl⟩))
  refine bodyPost_ret (v := (.tuple #[.int .u64 0, .int .u64 127])) (by simp [results, Tryz.results28, go_sem]) rfl ?_
  exact ⟨by first | rfl | decide | kernel_rfl | (simp [IntKind.wrap_i64, IntKind.wrap_u64, IntKind.wrap_u32, IntKind.wrap, IntKind.bits, IntKind.signed]), rfl⟩
theorem SafeUn_uint64_int8 (w : World) : Calls Tryz.prog 19 #[.int .i64 3] w (fun e w' => e = .returned (.tuple #[.int .u64 0, .int .u64 127]) ∧ w' = w) := by
  go_enter Tryz.func19, Tryz.ntmps19
  go_wp2_with (first | (go_at_call 28; refine (MinMax_uint64_int8 _).mono ?_; rintro e w1 ⟨rfl, rfl⟩))
  refine bodyPost_ret (v := (.tuple #[.int .u64 0, .int .u64 127])) (by simp [results, Tryz.results19, go_sem]) rfl ?_
  exact ⟨by first | rfl | decide | kernel_rfl | (simp [IntKind.wrap_i64, IntKind.wrap_u64, IntKind.wrap_u32, IntKind.wrap, IntKind.bits, IntKind.signed]), rfl⟩
theorem MinMax_uint64_int16 (w : World) : Calls Tryz.prog 28 #[.int .i64 5] w (fun e w' => e = .returned (.tuple #[.int .u64 0, .int .u64 32767]) ∧ w' = w) := by
  go_enter Tryz.func28, Tryz.ntmps28
  go_wp2_with (first | (go_at_call 57; refine (Safe_uint64_int16 _).mono ?_; rintro e w1 ⟨rfl, rfl⟩))
  refine bodyPost_ret (v := (.tuple #[.int .u64 0, .int .u64 32767])) (by simp [results, Tryz.results28, go_sem]) rfl ?_
  exact ⟨by first | rfl | decide | kernel_rfl | (simp [IntKind.wrap_i64, IntKind.wrap_u64, IntKind.wrap_u32, IntKind.wrap, IntKind.bits, IntKind.signed]), rfl⟩
theorem SafeUn_uint64_int16 (w : World) : Calls Tryz.prog 19 #[.int .i64 5] w (fun e w' => e = .returned (.tuple #[.int .u64 0, .int .u64 32767]) ∧ w' = w) := by
  go_enter Tryz.func19, Tryz.ntmps19
  go_wp2_with (first | (go_at_call 28; refine (MinMax_uint64_int16 _).mono ?_; rintro e w1 ⟨rfl, rfl⟩))
  refine bodyPost_ret (v := (.tuple #[.int .u64 0, .int .u64 32767])) (by simp [results, Tryz.results19, go_sem]) rfl ?_
  exact ⟨by first | rfl | decide | kernel_rfl | (simp [IntKind.wrap_i64, IntKind.wrap_u64, IntKind.wrap_u32, IntKind.wrap, IntKind.bits, IntKind.signed]), rfl⟩
theorem MinMax_uint64_int32 (w : World) : Calls Tryz.prog 28 #[.int .i64 7] w (fun e w' => e = .returned (.tuple #[.int .u64 0, .int .u64 2147483647]) ∧ w' = w) := by
  go_enter Tryz.func28, Tryz.ntmps28
  go_wp2_with (first | (go_at_call 58; refine (Safe_uint64_int32 _).mono ?_; rintro e w1 ⟨rfl, rfl⟩))
  refine bodyPost_ret (v := (.tuple #[.int .u64 0, .int .u64 2147483647])) (by simp [results, Tryz.results28, go_sem]) rfl ?_
  exact ⟨by first | rfl | decide | kernel_rfl | (simp [IntKind.wrap_i64, IntKind.wrap_u64, IntKind.wrap_u32, IntKind.wrap, IntKind.bits, IntKind.signed]), rfl⟩
theorem SafeUn_uint64_int32 (w : World) : Calls Tryz.prog 19 #[.int .i64 7] w (fun e w' => e = .returned (.tuple #[.int .u64 0, .int .u64 2147483647]) ∧ w' = w) := by
  go_enter Tryz.func19, Tryz.ntmps19
  go_wp2_with (first | (go_at_call 28; refine (MinMax_uint64_int32 _).mono ?_; rintro e w1 ⟨rfl, rfl⟩))
  refine bodyPost_ret (v := (.tuple #[.int .u64 0, .int .u64 2147483647])) (by simp [results, Tryz.results19, go_sem]) rfl ?_
  exact ⟨by first | rfl | decide | kernel_rfl | (simp [IntKind.wrap_i64, IntKind.wrap_u64, IntKind.wrap_u32, IntKind.wrap, IntKind.bits, IntKind.signed]), rfl⟩
theorem MinMax_uint64_int64 (w : World) : Calls Tryz.prog 28 #[.int .i64 9] w (fun e w' => e = .returned (.tuple #[.int .u64 0, .int .u64 9223372036854775807]) ∧ w' = w) := by
  go_enter Tryz.func28, Tryz.ntmps28
  go_wp2_with (first | (go_at_call 59; refine (Safe_uint64_int64 _).mono ?_; rintro e w1 ⟨rfl, rfl⟩))
  refine bodyPost_ret (v := (.tuple #[.int .u64 0, .int .u64 9223372036854775807])) (by simp [results, Tryz.results28, go_sem]) rfl ?_
  exact ⟨by first | rfl | decide | kernel_rfl | (simp [IntKind.wrap_i64, IntKind.wrap_u64, IntKind.wrap_u32, IntKind.wrap, IntKind.bits, IntKind.signed]), rfl⟩
theorem SafeUn_uint64_int64 (w : World) : Calls Tryz.prog 19 #[.int .i64 9] w (fun e w' => e = .returned (.tuple #[.int .u64 0, .int .u64 9223372036854775807]) ∧ w' = w) := by
  go_enter Tryz.func19, Tryz.ntmps19
  go_wp2_with (first | (go_at_call 28; refine (MinMax_uint64_int64 _).mono ?_; rintro e w1 ⟨rfl, rfl⟩))
  refine bodyPost_ret (v := (.tuple #[.int .u64 0, .int .u64 9223372036854775807])) (by simp [results, Tryz.results19, go_sem]) rfl ?_
  exact ⟨by first | rfl | decide | kernel_rfl | (simp [IntKind.wrap_i64, IntKind.wrap_u64, IntKind.wrap_u32, IntKind.wrap, IntKind.bits, IntKind.signed]), rfl⟩

end Go.Proofs.YtlhfmbpijcniaaaGreat.WidemagDiv
