/- A sum that is told if it fits (int16): the package's walk. -/
import Derived.Test.YtipnmcnacgmmnaaWdFia
namespace Go.Proofs.Ytipnmcnacgmmnaa.WidemagDiv
open Go.RowKit Go.Proofs.Ytipnmcnacgmmnaa.PmagDiv Go.Proofs.YtipnmcnacgmmnaaW.PrintWords Go.Proofs.YtipnmcnacgmmnaaW.PrintLast Go.Proofs.YtipnmcnacgmmnaaW.PrintMore
set_option linter.unusedVariables false
set_option linter.unusedSimpArgs false

theorem SizeOf_int16 (w : World) : Calls Try.prog 47 #[] w (fun e w' => e = .returned (.int .u64 2) ∧ w' = w) := by
  go_enter Try.func47, Try.ntmps47
  go_wp2_with fail
  go_ret
  exact ⟨by first | rfl | (simp [IntKind.wrap_i64, IntKind.wrap_u64, IntKind.wrap_u32, IntKind.wrap, IntKind.bits, IntKind.signed]), rfl⟩
theorem MinOf_int16 (w : World) : Calls Try.prog 39 #[] w (fun e w' => e = .returned (.int .i16 (-32768)) ∧ w' = w) := by
  go_enter Try.func39, Try.ntmps39
  go_wp2_with (go_at_call 47; refine (SizeOf_int16 _).mono ?_; rintro e w1 ⟨rfl, rfl⟩)
  go_ret
  exact ⟨by first | rfl | decide | kernel_rfl, rfl⟩
theorem MaxOf_int16 (w : World) : Calls Try.prog 38 #[] w (fun e w' => e = .returned (.int .i16 32767) ∧ w' = w) := by
  go_enter Try.func38, Try.ntmps38
  go_wp2_with (go_at_call 47; refine (SizeOf_int16 _).mono ?_; rintro e w1 ⟨rfl, rfl⟩)
  go_ret
  exact ⟨by first | rfl | decide | kernel_rfl, rfl⟩
theorem errors_New_int16 (s : ByteArray) (w : World) : Calls Try.prog 40 #[.string s] w (fun e w' => ∃ t v, e = .returned (.iface t v) ∧ Below w.heap.size w w') := by
  go_enter Try.func40, Try.ntmps40
  go_wp2_with fail
  go_ret
  exact ⟨_, _, rfl, (Below.refl _ _).alloc (Nat.le_refl _) _⟩
set_option maxRecDepth 100000 in
theorem add_int16 (a b : Int) (w : World) (ha0 : -32768 ≤ a) (ha1 : a ≤ 32767) (hb0 : -32768 ≤ b) (hb1 : b ≤ 32767) : Calls Try.prog 33 #[.int .i16 a, .int .i16 b] w (TellPost .i16 w (a + b) (-32768) 32767) := by
  rcases Int.lt_trichotomy b 0 with hb | hb | hb
  · by_cases h : a < -32768 - b
    · go_enter Try.func33, Try.ntmps33
      go_wp2_with (first | (go_at_call 39; refine (MinOf_int16 _).mono ?_; rintro e w1 ⟨rfl, rfl⟩) | (go_at_call 38; refine (MaxOf_int16 _).mono ?_; rintro e w1 ⟨rfl, rfl⟩) | (go_at_call 40; refine (errors_New_int16 _ _).mono ?_; rintro e w1 ⟨t, v, rfl, hbl⟩))
      refine bodyPost_ret (v := .tuple #[.int .i16 0, .iface t v]) (by simp [results, Try.results33, go_sem]) rfl ?_
      exact ⟨hbl, .inr ⟨fun h => by omega, _, _, _, rfl⟩⟩
    · go_enter Try.func33, Try.ntmps33
      go_wp2_with (first | (go_at_call 39; refine (MinOf_int16 _).mono ?_; rintro e w1 ⟨rfl, rfl⟩) | (go_at_call 38; refine (MaxOf_int16 _).mono ?_; rintro e w1 ⟨rfl, rfl⟩) | (go_at_call 40; refine (errors_New_int16 _ _).mono ?_; rintro e w1 ⟨t, v, rfl, hbl⟩))
      refine bodyPost_ret (v := .tuple #[.int .i16 (a + b), .nilIface]) (by simp [results, Try.results33, go_sem]) rfl ?_
      exact ⟨Below.refl _ _, .inl ⟨by omega, rfl⟩⟩
  · subst hb
    go_enter Try.func33, Try.ntmps33
    go_wp2_with (first | (go_at_call 39; refine (MinOf_int16 _).mono ?_; rintro e w1 ⟨rfl, rfl⟩) | (go_at_call 38; refine (MaxOf_int16 _).mono ?_; rintro e w1 ⟨rfl, rfl⟩) | (go_at_call 40; refine (errors_New_int16 _ _).mono ?_; rintro e w1 ⟨t, v, rfl, hbl⟩))
    refine bodyPost_ret (v := .tuple #[.int .i16 (a + 0), .nilIface]) (by simp [results, Try.results33, go_sem]) rfl ?_
    exact ⟨Below.refl _ _, .inl ⟨by omega, rfl⟩⟩
  · by_cases h : 32767 - b < a
    · go_enter Try.func33, Try.ntmps33
      go_wp2_with (first | (go_at_call 39; refine (MinOf_int16 _).mono ?_; rintro e w1 ⟨rfl, rfl⟩) | (go_at_call 38; refine (MaxOf_int16 _).mono ?_; rintro e w1 ⟨rfl, rfl⟩) | (go_at_call 40; refine (errors_New_int16 _ _).mono ?_; rintro e w1 ⟨t, v, rfl, hbl⟩))
      refine bodyPost_ret (v := .tuple #[.int .i16 0, .iface t v]) (by simp [results, Try.results33, go_sem]) rfl ?_
      exact ⟨hbl, .inr ⟨fun h => by omega, _, _, _, rfl⟩⟩
    · go_enter Try.func33, Try.ntmps33
      go_wp2_with (first | (go_at_call 39; refine (MinOf_int16 _).mono ?_; rintro e w1 ⟨rfl, rfl⟩) | (go_at_call 38; refine (MaxOf_int16 _).mono ?_; rintro e w1 ⟨rfl, rfl⟩) | (go_at_call 40; refine (errors_New_int16 _ _).mono ?_; rintro e w1 ⟨t, v, rfl, hbl⟩))
      refine bodyPost_ret (v := .tuple #[.int .i16 (a + b), .nilIface]) (by simp [results, Try.results33, go_sem]) rfl ?_
      exact ⟨Below.refl _ _, .inl ⟨by omega, rfl⟩⟩
theorem AddC_int16 (a b : Int) (w : World) (ha : -32768 ≤ a ∧ a ≤ 32767) (hb : -32768 ≤ b ∧ b ≤ 32767) : Calls Try.prog 26 #[.int .i16 a, .int .i16 b] w (TellPost .i16 w (a + b) (-32768) 32767) := by
  have HA := Aside0.mk ha
  have HBB := Aside0.mk hb
  clear ha hb
  go_enter Try.func26, Try.ntmps26
  go_wp2_with (go_at_call 33; refine (add_int16 _ _ _ HA.out.1 HA.out.2 HBB.out.1 HBB.out.2).mono ?_; rintro e w1 ⟨hb, ⟨hle, rfl⟩ | ⟨hle, y, t, v, rfl⟩⟩ <;> (have HB := Aside0.mk hb; have HL := Aside0.mk hle; clear hb hle))
  · refine bodyPost_ret (v := .tuple #[.int .i16 (a + b), .nilIface]) (by simp [results, Try.results26, go_sem]) rfl ?_
    exact ⟨HB.out, .inl ⟨HL.out, rfl⟩⟩
  · refine bodyPost_ret (v := .tuple #[.int .i16 y, .iface t v]) (by simp [results, Try.results26, go_sem]) rfl ?_
    exact ⟨HB.out, .inr ⟨HL.out, _, _, _, rfl⟩⟩
theorem Add_int16 (a b : Int) (w : World) (ha : -32768 ≤ a ∧ a ≤ 32767) (hb : -32768 ≤ b ∧ b ≤ 32767) : Calls Try.prog 11 #[.int .i16 a, .int .i16 b] w (ToldPost .i16 w (a + b) (-32768) 32767) := by
  have HA := Aside0.mk ha
  have HBB := Aside0.mk hb
  clear ha hb
  go_enter Try.func11, Try.ntmps11
  go_wp2_with (go_at_call 26; refine (AddC_int16 _ _ _ HA.out HBB.out).mono ?_; rintro e w1 ⟨hb, ⟨hle, rfl⟩ | ⟨hle, y, t, v, rfl⟩⟩ <;> (have HB := Aside0.mk hb; have HL := Aside0.mk hle; clear hb hle))
  · go_region
    go_wp2_with fail
    refine bodyPost_ret (v := .tuple #[.int .i16 (a + b), .bool true]) (by simp [results, Try.results11, go_sem]) rfl ?_
    exact ⟨HB.out.drew, _, by rw [decide_eq_true HL.out], fun _ => rfl⟩
  · go_region
    go_wp2_with fail
    refine bodyPost_ret (v := .tuple #[.int .i16 y, .bool false]) (by simp [results, Try.results11, go_sem]) rfl ?_
    exact ⟨HB.out.drew, _, by rw [decide_eq_false HL.out], fun h => (HL.out h).elim⟩

end Go.Proofs.Ytipnmcnacgmmnaa.WidemagDiv
