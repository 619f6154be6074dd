/- A sum that is told if it fits (int64): the package's walk. -/
import Derived.Test.YtipnmcnacgmmnaaWdFia
namespace Go.Proofs.Ytipnmcnacgmmnaa.WidemagDiv
open Go.RowKit Go.Proofs.Ytipnmcnacgmmnaa.PmagDiv Go.Proofs.YtipnmcnacgmmnaaW.PrintWords Go.Proofs.YtipnmcnacgmmnaaW.PrintLast Go.Proofs.YtipnmcnacgmmnaaW.PrintMore
set_option linter.unusedVariables false
set_option linter.unusedSimpArgs false

theorem SizeOf_int64 (w : World) : Calls Try.prog 48 #[] w (fun e w' => e = .returned (.int .u64 8) ∧ w' = w) := by
  go_enter Try.func48, Try.ntmps48
  go_wp2_with fail
  go_ret
  exact ⟨by first | rfl | (simp [IntKind.wrap_i64, IntKind.wrap_u64, IntKind.wrap_u32, IntKind.wrap, IntKind.bits, IntKind.signed]), rfl⟩
theorem MinOf_int64 (w : World) : Calls Try.prog 42 #[] w (fun e w' => e = .returned (.int .i64 (-9223372036854775808)) ∧ w' = w) := by
  go_enter Try.func42, Try.ntmps42
  go_wp2_with (go_at_call 48; refine (SizeOf_int64 _).mono ?_; rintro e w1 ⟨rfl, rfl⟩)
  go_ret
  exact ⟨by first | rfl | decide | kernel_rfl, rfl⟩
theorem MaxOf_int64 (w : World) : Calls Try.prog 41 #[] w (fun e w' => e = .returned (.int .i64 9223372036854775807) ∧ w' = w) := by
  go_enter Try.func41, Try.ntmps41
  go_wp2_with (go_at_call 48; refine (SizeOf_int64 _).mono ?_; rintro e w1 ⟨rfl, rfl⟩)
  go_ret
  exact ⟨by first | rfl | decide | kernel_rfl, rfl⟩
theorem errors_New_int64 (s : ByteArray) (w : World) : Calls Try.prog 40 #[.string s] w (fun e w' => ∃ t v, e = .returned (.iface t v) ∧ Below w.heap.size w w') := by
  go_enter Try.func40, Try.ntmps40
  go_wp2_with fail
  go_ret
  exact ⟨_, _, rfl, (Below.refl _ _).alloc (Nat.le_refl _) _⟩
set_option maxRecDepth 100000 in
theorem add_int64 (a b : Int) (w : World) (ha0 : -9223372036854775808 ≤ a) (ha1 : a ≤ 9223372036854775807) (hb0 : -9223372036854775808 ≤ b) (hb1 : b ≤ 9223372036854775807) : Calls Try.prog 34 #[.int .i64 a, .int .i64 b] w (TellPost .i64 w (a + b) (-9223372036854775808) 9223372036854775807) := by
  rcases Int.lt_trichotomy b 0 with hb | hb | hb
  · by_cases h : a < -9223372036854775808 - b
    · go_enter Try.func34, Try.ntmps34
      go_wp2_with (first | (go_at_call 42; refine (MinOf_int64 _).mono ?_; rintro e w1 ⟨rfl, rfl⟩) | (go_at_call 41; refine (MaxOf_int64 _).mono ?_; rintro e w1 ⟨rfl, rfl⟩) | (go_at_call 40; refine (errors_New_int64 _ _).mono ?_; rintro e w1 ⟨t, v, rfl, hbl⟩))
      refine bodyPost_ret (v := .tuple #[.int .i64 0, .iface t v]) (by simp [results, Try.results34, go_sem]) rfl ?_
      exact ⟨hbl, .inr ⟨fun h => by omega, _, _, _, rfl⟩⟩
    · go_enter Try.func34, Try.ntmps34
      go_wp2_with (first | (go_at_call 42; refine (MinOf_int64 _).mono ?_; rintro e w1 ⟨rfl, rfl⟩) | (go_at_call 41; refine (MaxOf_int64 _).mono ?_; rintro e w1 ⟨rfl, rfl⟩) | (go_at_call 40; refine (errors_New_int64 _ _).mono ?_; rintro e w1 ⟨t, v, rfl, hbl⟩))
      refine bodyPost_ret (v := .tuple #[.int .i64 (a + b), .nilIface]) (by simp [results, Try.results34, go_sem]) rfl ?_
      exact ⟨Below.refl _ _, .inl ⟨by omega, rfl⟩⟩
  · subst hb
    go_enter Try.func34, Try.ntmps34
    go_wp2_with (first | (go_at_call 42; refine (MinOf_int64 _).mono ?_; rintro e w1 ⟨rfl, rfl⟩) | (go_at_call 41; refine (MaxOf_int64 _).mono ?_; rintro e w1 ⟨rfl, rfl⟩) | (go_at_call 40; refine (errors_New_int64 _ _).mono ?_; rintro e w1 ⟨t, v, rfl, hbl⟩))
    refine bodyPost_ret (v := .tuple #[.int .i64 (a + 0), .nilIface]) (by simp [results, Try.results34, go_sem]) rfl ?_
    exact ⟨Below.refl _ _, .inl ⟨by omega, rfl⟩⟩
  · by_cases h : 9223372036854775807 - b < a
    · go_enter Try.func34, Try.ntmps34
      go_wp2_with (first | (go_at_call 42; refine (MinOf_int64 _).mono ?_; rintro e w1 ⟨rfl, rfl⟩) | (go_at_call 41; refine (MaxOf_int64 _).mono ?_; rintro e w1 ⟨rfl, rfl⟩) | (go_at_call 40; refine (errors_New_int64 _ _).mono ?_; rintro e w1 ⟨t, v, rfl, hbl⟩))
      refine bodyPost_ret (v := .tuple #[.int .i64 0, .iface t v]) (by simp [results, Try.results34, go_sem]) rfl ?_
      exact ⟨hbl, .inr ⟨fun h => by omega, _, _, _, rfl⟩⟩
    · go_enter Try.func34, Try.ntmps34
      go_wp2_with (first | (go_at_call 42; refine (MinOf_int64 _).mono ?_; rintro e w1 ⟨rfl, rfl⟩) | (go_at_call 41; refine (MaxOf_int64 _).mono ?_; rintro e w1 ⟨rfl, rfl⟩) | (go_at_call 40; refine (errors_New_int64 _ _).mono ?_; rintro e w1 ⟨t, v, rfl, hbl⟩))
      refine bodyPost_ret (v := .tuple #[.int .i64 (a + b), .nilIface]) (by simp [results, Try.results34, go_sem]) rfl ?_
      exact ⟨Below.refl _ _, .inl ⟨by omega, rfl⟩⟩
theorem AddC_int64 (a b : Int) (w : World) (ha : -9223372036854775808 ≤ a ∧ a ≤ 9223372036854775807) (hb : -9223372036854775808 ≤ b ∧ b ≤ 9223372036854775807) : Calls Try.prog 27 #[.int .i64 a, .int .i64 b] w (TellPost .i64 w (a + b) (-9223372036854775808) 9223372036854775807) := by
  have HA := Aside0.mk ha
  have HBB := Aside0.mk hb
  clear ha hb
  go_enter Try.func27, Try.ntmps27
  go_wp2_with (go_at_call 34; refine (add_int64 _ _ _ HA.out.1 HA.out.2 HBB.out.1 HBB.out.2).mono ?_; rintro e w1 ⟨hb, ⟨hle, rfl⟩ | ⟨hle, y, t, v, rfl⟩⟩ <;> (have HB := Aside0.mk hb; have HL := Aside0.mk hle; clear hb hle))
  · refine bodyPost_ret (v := .tuple #[.int .i64 (a + b), .nilIface]) (by simp [results, Try.results27, go_sem]) rfl ?_
    exact ⟨HB.out, .inl ⟨HL.out, rfl⟩⟩
  · refine bodyPost_ret (v := .tuple #[.int .i64 y, .iface t v]) (by simp [results, Try.results27, go_sem]) rfl ?_
    exact ⟨HB.out, .inr ⟨HL.out, _, _, _, rfl⟩⟩
theorem Add_int64 (a b : Int) (w : World) (ha : -9223372036854775808 ≤ a ∧ a ≤ 9223372036854775807) (hb : -9223372036854775808 ≤ b ∧ b ≤ 9223372036854775807) : Calls Try.prog 12 #[.int .i64 a, .int .i64 b] w (ToldPost .i64 w (a + b) (-9223372036854775808) 9223372036854775807) := by
  have HA := Aside0.mk ha
  have HBB := Aside0.mk hb
  clear ha hb
  go_enter Try.func12, Try.ntmps12
  go_wp2_with (go_at_call 27; refine (AddC_int64 _ _ _ HA.out HBB.out).mono ?_; rintro e w1 ⟨hb, ⟨hle, rfl⟩ | ⟨hle, y, t, v, rfl⟩⟩ <;> (have HB := Aside0.mk hb; have HL := Aside0.mk hle; clear hb hle))
  · go_region
    go_wp2_with fail
    refine bodyPost_ret (v := .tuple #[.int .i64 (a + b), .bool true]) (by simp [results, Try.results12, go_sem]) rfl ?_
    exact ⟨HB.out.drew, _, by rw [decide_eq_true HL.out], fun _ => rfl⟩
  · go_region
    go_wp2_with fail
    refine bodyPost_ret (v := .tuple #[.int .i64 y, .bool false]) (by simp [results, Try.results12, go_sem]) rfl ?_
    exact ⟨HB.out.drew, _, by rw [decide_eq_false HL.out], fun h => (HL.out h).elim⟩

end Go.Proofs.Ytipnmcnacgmmnaa.WidemagDiv
