/- A product that is told if it fits (uint32): the package's walk. -/
import Derived.Test.YtipnmcnacgmmnaaWdFit
namespace Go.Proofs.Ytipnmcnacgmmnaa.WidemagDiv
open Go.RowKit Go.Proofs.Ytipnmcnacgmmnaa.PmagDiv Go.Proofs.YtipnmcnacgmmnaaW.PrintWords Go.Proofs.YtipnmcnacgmmnaaW.PrintLast Go.Proofs.YtipnmcnacgmmnaaW.PrintMore
set_option linter.unusedVariables false
set_option linter.unusedSimpArgs false

theorem MinOf_uint32 (w : World) : Calls Try.prog 43 #[] w (fun e w' => e = .returned (.int .u32 0) ∧ w' = w) := by
  go_enter Try.func43, Try.ntmps43
  go_wp2_with fail
  go_ret
  exact ⟨rfl, rfl⟩
theorem MaxOf_uint32 (w : World) : Calls Try.prog 44 #[] w (fun e w' => e = .returned (.int .u32 4294967295) ∧ w' = w) := by
  go_enter Try.func44, Try.ntmps44
  go_wp2_with fail
  go_ret
  exact ⟨rfl, rfl⟩
theorem errors_New_uint32 (s : ByteArray) (w : World) : Calls Try.prog 40 #[.string s] w (fun e w' => ∃ t v, e = .returned (.iface t v) ∧ Below w.heap.size w w') := by
  go_enter Try.func40, Try.ntmps40
  go_wp2_with fail
  go_ret
  exact ⟨_, _, rfl, (Below.refl _ _).alloc (Nat.le_refl _) _⟩
set_option maxRecDepth 100000 in
theorem mul_uint32 (a b : Int) (w : World) (ha : 0 ≤ a ∧ a ≤ 4294967295) (hb : 0 ≤ b ∧ b ≤ 4294967295) : Calls Try.prog 35 #[.int .u32 a, .int .u32 b] w (TellPost .u32 w (a * b) 0 4294967295) := by
  go_enter Try.func35, Try.ntmps35
  go_wp2_with (first | (go_at_call 43; refine (MinOf_uint32 _).mono ?_; rintro e w1 ⟨rfl, rfl⟩) | (go_at_call 44; refine (MaxOf_uint32 _).mono ?_; rintro e w1 ⟨rfl, rfl⟩) | (go_at_call 40; refine (errors_New_uint32 _ _).mono ?_; rintro e w1 ⟨t, v, rfl, hb⟩))
  · have h1 : 0 < b := by assumption
    have h2 : 4294967295 / b < a := by assumption
    refine bodyPost_ret (v := .tuple #[.int .u32 0, .iface t v]) (by simp [results, Try.results35, go_sem]) rfl ?_
    exact ⟨hb, .inr ⟨fun h => by have := (Int.ediv_lt_iff_lt_mul h1).1 h2; omega, _, _, _, rfl⟩⟩
  · rename_i h0 h1 h2
    have hm := (Int.le_ediv_iff_mul_le h1).1 h2
    have h3 := Int.mul_nonneg ha.1 hb.1
    refine bodyPost_ret (v := .tuple #[.int .u32 (a * b), .nilIface]) (by simp [results, Try.results35, go_sem]; omega) rfl ?_
    exact ⟨Below.refl _ _, .inl ⟨⟨h3, hm⟩, rfl⟩⟩
  · rename_i h0 h1 h2
    obtain rfl : b = 0 := by omega
    refine bodyPost_ret (v := .tuple #[.int .u32 (a * 0), .nilIface]) (by simp [results, Try.results35, go_sem]) rfl ?_
    exact ⟨Below.refl _ _, .inl ⟨by simp, rfl⟩⟩
  · rename_i h0 h1 h2
    obtain rfl : a = 0 := by omega
    refine bodyPost_ret (v := .tuple #[.int .u32 (0 * b), .nilIface]) (by simp [results, Try.results35, go_sem]) rfl ?_
    exact ⟨Below.refl _ _, .inl ⟨by simp, rfl⟩⟩
  · rename_i h0 h1 h2
    subst h2
    refine bodyPost_ret (v := .tuple #[.int .u32 (0 * b), .nilIface]) (by simp [results, Try.results35, go_sem]) rfl ?_
    exact ⟨Below.refl _ _, .inl ⟨by simp, rfl⟩⟩
theorem MulW_uint32 (a b : Int) (w : World) (ha : 0 ≤ a ∧ a ≤ 4294967295) (hb : 0 ≤ b ∧ b ≤ 4294967295) : Calls Try.prog 29 #[.int .u32 a, .int .u32 b] w (TellPost .u32 w (a * b) 0 4294967295) := by
  have HA := Aside0.mk ha
  have HBB := Aside0.mk hb
  clear ha hb
  go_enter Try.func29, Try.ntmps29
  go_wp2_with (go_at_call 35; refine (mul_uint32 _ _ _ HA.out HBB.out).mono ?_; rintro e w1 ⟨hb, ⟨hle, rfl⟩ | ⟨hle, y, t, v, rfl⟩⟩ <;> (have HB := Aside0.mk hb; have HL := Aside0.mk hle; clear hb hle))
  · refine bodyPost_ret (v := .tuple #[.int .u32 (a * b), .nilIface]) (by simp [results, Try.results29, go_sem]) rfl ?_
    exact ⟨HB.out, .inl ⟨HL.out, rfl⟩⟩
  · refine bodyPost_ret (v := .tuple #[.int .u32 y, .iface t v]) (by simp [results, Try.results29, go_sem]) rfl ?_
    exact ⟨HB.out, .inr ⟨HL.out, _, _, _, rfl⟩⟩
theorem Mul_uint32 (a b : Int) (w : World) (ha : 0 ≤ a ∧ a ≤ 4294967295) (hb : 0 ≤ b ∧ b ≤ 4294967295) : Calls Try.prog 15 #[.int .u32 a, .int .u32 b] w (ToldPost .u32 w (a * b) 0 4294967295) := by
  have HA := Aside0.mk ha
  have HBB := Aside0.mk hb
  clear ha hb
  go_enter Try.func15, Try.ntmps15
  go_wp2_with (go_at_call 29; refine (MulW_uint32 _ _ _ HA.out HBB.out).mono ?_; rintro e w1 ⟨hb, ⟨hle, rfl⟩ | ⟨hle, y, t, v, rfl⟩⟩ <;> (have HB := Aside0.mk hb; have HL := Aside0.mk hle; clear hb hle))
  · go_region
    go_wp2_with fail
    refine bodyPost_ret (v := .tuple #[.int .u32 (a * b), .bool true]) (by simp [results, Try.results15, go_sem]) rfl ?_
    exact ⟨HB.out.drew, _, by rw [decide_eq_true HL.out], fun _ => rfl⟩
  · go_region
    go_wp2_with fail
    refine bodyPost_ret (v := .tuple #[.int .u32 y, .bool false]) (by simp [results, Try.results15, go_sem]) rfl ?_
    exact ⟨HB.out.drew, _, by rw [decide_eq_false HL.out], fun h => (HL.out h).elim⟩

end Go.Proofs.Ytipnmcnacgmmnaa.WidemagDiv
