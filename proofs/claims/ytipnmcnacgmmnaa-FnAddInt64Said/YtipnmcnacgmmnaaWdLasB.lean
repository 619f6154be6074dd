/- FnAddInt64: the law's walk. -/
import Derived.Test.YtipnmcnacgmmnaaWdKesB
namespace Go.Proofs.Ytipnmcnacgmmnaa.WidemagDiv
open Go.RowKit Go.Proofs.Ytipnmcnacgmmnaa.PmagDiv Go.Proofs.YtipnmcnacgmmnaaW.PrintWords Go.Proofs.YtipnmcnacgmmnaaW.PrintLast Go.Proofs.YtipnmcnacgmmnaaW.PrintMore
set_option linter.unusedVariables false
set_option linter.unusedSimpArgs false

def FineInt64 (w : World) (e : Ending) (w' : World) : Prop := e = .returned (.bool true) ∧ Below w.heap.size w w'
theorem lo_int64 : -((2 : Int) ^ 63) = -9223372036854775808 := by decide
theorem hi_int64 : (2 : Int) ^ 63 - 1 = 9223372036854775807 := by decide
theorem bounds_int64 (w : World) : Calls Try.prog 7 #[.int .i64 64, .bool true] w (RetWW (fun _ => True) w (-9223372036854775808) 9223372036854775807 41) := by
  have h := bounds_signed (fun _ => True) 63 64 (by omega) w (by omega)
  rw [lo_int64, hi_int64] at h
  exact h
theorem int_conv_int64 (u : Int) (w : World) (hu : -9223372036854775808 ≤ u ∧ u ≤ 9223372036854775807) : Calls Try.prog 10 #[.int .i64 (IntKind.i64.wrap u)] w (RetW (fun _ => True) w u 2) := by
  rw [show IntKind.i64.wrap u = u by rw [IntKind.wrap_i64]; omega]
  exact WideInt_any _ u w hu
theorem int_plain_int64 (u : Int) (w : World) (hu : -9223372036854775808 ≤ u ∧ u ≤ 9223372036854775807) : Calls Try.prog 10 #[.int .i64 u] w (RetW (fun _ => True) w u 2) := WideInt_any _ u w hu
def FitIn (w : World) (m : Int) (b : Bool) (e : Ending) (w' : World) : Prop := e = .returned (.tuple #[.int .u64 m, .bool b]) ∧ Below w.heap.size w w'
theorem fitted_any_int64 (v vx vy : Value) (z x y m : Int) (b : Bool) (w : World) (hv : IsW (fun _ => True) w v z 50) (hx : IsW (fun _ => True) w vx x 50) (hy : IsW (fun _ => True) w vy y 50) (hm : z % 18446744073709551616 = m) (hb : decide (x ≤ z ∧ z ≤ y) = b) :
    Calls Try.prog 8 #[v, vx, vy] w (FitIn w m b) := by
  subst hm
  subst hb
  rcases Int.lt_or_le z x with h | h
  · exact fitted_low (fun _ => True) v vx vy z x y 50 w hv hx hy h (by omega)
  · exact fitted_ge (fun _ => True) v vx vy z x y 50 w hv hx hy h (by omega)
def AddIn (w : World) (p : Int) (e : Ending) (w' : World) : Prop := e = .returned (.tuple #[.int .i64 p, .bool true]) ∧ Below w.heap.size w w'
def AddOut (w : World) (e : Ending) (w' : World) : Prop := ∃ y, e = .returned (.tuple #[.int .i64 y, .bool false]) ∧ Below w.heap.size w w'
theorem Add_in_int64 (a b p : Int) (hp : a + b = p) (w : World) (ha : -9223372036854775808 ≤ a ∧ a ≤ 9223372036854775807) (hb : -9223372036854775808 ≤ b ∧ b ≤ 9223372036854775807) (hf : -9223372036854775808 ≤ p ∧ p ≤ 9223372036854775807) : Calls Try.prog 12 #[.int .i64 a, .int .i64 b] w (AddIn w p) := by
  refine (Add_int64 a b w ha hb).mono ?_
  rw [hp]
  rintro e w' ⟨hb, y, rfl, hy⟩
  exact ⟨by rw [hy hf, decide_eq_true hf], hb⟩
theorem Add_out_int64 (a b p : Int) (hp : a + b = p) (w : World) (ha : -9223372036854775808 ≤ a ∧ a ≤ 9223372036854775807) (hb : -9223372036854775808 ≤ b ∧ b ≤ 9223372036854775807) (hf : ¬ (-9223372036854775808 ≤ p ∧ p ≤ 9223372036854775807)) : Calls Try.prog 12 #[.int .i64 a, .int .i64 b] w (AddOut w) := by
  refine (Add_int64 a b w ha hb).mono ?_
  rw [hp]
  rintro e w' ⟨hb, y, rfl, hy⟩
  exact ⟨y, by rw [decide_eq_false hf], hb⟩
theorem wake_int64 (w : World) : Calls Try.prog 12 #[.int .i64 2, .int .i64 3] w (AddIn w 5) := by
  refine (Add_int64 2 3 w (by omega) (by omega)).mono ?_
  rintro e w' ⟨hb, y, rfl, hy⟩
  exact ⟨by rw [hy (by omega)]; rfl, hb⟩
theorem conv_int64 (p : Int) (h : -9223372036854775808 ≤ p ∧ p ≤ 9223372036854775807) : IntKind.i64.wrap (p % 18446744073709551616) = p := by
  simp [IntKind.wrap, IntKind.bits, IntKind.signed]
  split <;> omega
set_option maxRecDepth 100000 in
set_option maxHeartbeats 4000000 in
theorem law_int64 (a b : Int) (w : World) (ha : -9223372036854775808 ≤ a ∧ a ≤ 9223372036854775807) (hb : -9223372036854775808 ≤ b ∧ b ≤ 9223372036854775807) : Calls Try.prog 4 #[.int .i64 a, .int .i64 b] w (FineInt64 w) := by
  obtain ⟨p, hp⟩ : ∃ p, a + b = p := ⟨_, rfl⟩
  obtain ⟨m, hm⟩ : ∃ m, p % 18446744073709551616 = m := ⟨_, rfl⟩
  have HP := Aside0.mk hp
  have HM := Aside0.mk hm
  have HA := Aside0.mk (show -9223372036854775808 ≤ a ∧ a ≤ 9223372036854775807 by omega)
  have HBB := Aside0.mk (show -9223372036854775808 ≤ b ∧ b ≤ 9223372036854775807 by omega)
  have HA1 := Aside0.mk ha
  have HB1' := Aside0.mk hb
  have HMB := Aside0.mk (show 0 ≤ m ∧ m ≤ 18446744073709551615 by omega)
  clear hp
  by_cases hfit : -9223372036854775808 ≤ p ∧ p ≤ 9223372036854775807
  · have HFIT := Aside0.mk (show decide (-9223372036854775808 ≤ p ∧ p ≤ 9223372036854775807) = true from decide_eq_true hfit)
    have HF := Aside0.mk hfit
    have hcv : IntKind.i64.wrap m = p := by rw [← hm]; exact conv_int64 p hfit
    have hcw : wrap64 m = p := by have h := hcv; rw [IntKind.wrap_i64] at h; unfold wrap64; omega
    clear hm hfit ha hb
    go_enter Try.func4, Try.ntmps4
    go_wp2_with (go_at_call 7; refine (bounds_int64 _).mono ?_; rintro e w1 ⟨v1, v2, rfl, hW1, hW2, hb1⟩; obtain ⟨b1, A1, c1, l1, rfl, hS1, hR1, hl1⟩ := hW1.shape; obtain ⟨b2, A2, c2, l2, rfl, hS2, hR2, hl2⟩ := hW2.shape; have HW1 := Aside0.mk ((hW1.more (show 41 ≤ 50 by omega)).mono (Q := fun _ => True) fun _ _ => True.intro); have HW2 := Aside0.mk ((hW2.more (show 41 ≤ 50 by omega)).mono (Q := fun _ => True) fun _ _ => True.intro); have HB1 := Aside0.mk hb1; clear hW1 hW2 hb1 hS1 hS2 hR1 hR2 hl1 hl2)
    have HB0 := Aside0.mk (Below.refl w1.heap.size w1)
    have T := Aside0.mk (two_blocks w1 (.cells #[.bool b1, .slice A1 l1.length c1] 25) (.cells #[.bool b2, .slice A2 l2.length c2] 25))
    go_region_held3 (fun w' => w'.cell? ⟨w1.heap.size, 0, none⟩ = some (.bool b1) ∧ w'.cell? ⟨w1.heap.size, 1, none⟩ = some (.slice A1 l1.length c1) ∧ w'.cell? ⟨w1.heap.size + 1, 0, none⟩ = some (.bool b2) ∧ w'.cell? ⟨w1.heap.size + 1, 1, none⟩ = some (.slice A2 l2.length c2)) (first | exact ⟨k0, k1, k2, k3⟩ | exact ⟨q0, q1, q2, q3⟩ | exact ⟨r0, r1, r2, r3⟩ | exact ⟨s0, s1, s2, s3⟩ | (go_keep; done)) (first
      | (go_at_call 10; have hT := T.out.1; refine (int_plain_int64 a _ HA.out).mono ?_; rintro e w2 ⟨va, rfl, hW, hb⟩; have J0 := Aside0.mk (own_far hb T.out.1 (Nat.le_refl _)); have J1 := Aside0.mk (own_far hb T.out.2 (Nat.le_refl _)); obtain ⟨k0, k1, _, _⟩ := struct_at J0.out; obtain ⟨k2, k3, _, _⟩ := struct_at J1.out; have HVA := Aside0.mk (hW.mono (Q := fun _ => True) fun _ _ => True.intro); have HB2 := Aside0.mk ((((by repeat (first | (with_reducible first | exact HB0.out | apply below_alloc | apply pw_below_drewN | apply below_drew1) | exact HB0.out)) : Below w1.heap.size w1 _).trans (hb.mono (by simp <;> omega))) : Below w1.heap.size w1 w2); clear hb hW hT T)
      | (go_at_call 10; refine (int_plain_int64 b _ HBB.out).mono ?_; rintro e w3 ⟨vb, rfl, hW, hb⟩; have I0 := Aside0.mk (own_far hb J0.out (Nat.le_refl _)); have I1 := Aside0.mk (own_far hb J1.out (Nat.le_refl _)); obtain ⟨q0, q1, _, _⟩ := struct_at I0.out; obtain ⟨q2, q3, _, _⟩ := struct_at I1.out; have HVB := Aside0.mk (hW.mono (Q := fun _ => True) fun _ _ => True.intro); have HVA3 := Aside0.mk (HVA.out.below hb); have HB3 := Aside0.mk (HB2.out.trans (hb.mono HB2.out.size) : Below w1.heap.size w1 w3); clear hb hW HVA)
      | (go_at_call 9; refine (WideAdd_any (fun _ => True) _ _ a b 2 _ HVA3.out HVB.out (by omega)).mono ?_; rintro e w4 ⟨vm, rfl, hW, hb⟩; rw [HP.out] at hW; obtain ⟨r0, r1, _, _⟩ := struct_at (own_far hb I0.out (Nat.le_refl _)); obtain ⟨r2, r3, _, _⟩ := struct_at (own_far hb I1.out (Nat.le_refl _)); have L0 := Aside0.mk (own_far hb I0.out (Nat.le_refl _)); have L1 := Aside0.mk (own_far hb I1.out (Nat.le_refl _)); have HVM := Aside0.mk ((hW.more (show 2 + 1 ≤ 50 by omega)).mono (Q := fun _ => True) fun _ _ => True.intro); have HB4 := Aside0.mk (HB3.out.trans (hb.mono HB3.out.size) : Below w1.heap.size w1 w4); clear hb hW)
      | (go_at_call 8; refine (fitted_any_int64 _ _ _ p (-9223372036854775808) 9223372036854775807 m true _ HVM.out (HW1.out.below HB4.out) (HW2.out.below HB4.out) HM.out HFIT.out).mono ?_; rintro e w5 ⟨rfl, hb⟩; obtain ⟨s0, s1, _, _⟩ := struct_at (own_far hb L0.out (Nat.le_refl _)); obtain ⟨s2, s3, _, _⟩ := struct_at (own_far hb L1.out (Nat.le_refl _)); have HB5 := Aside0.mk (HB1.out.trans ((HB4.out.trans (hb.mono HB4.out.size)).mono HB1.out.size) : Below w.heap.size w w5); clear hb))
    go_wp2_with (first | (go_at_call 12; refine (Add_in_int64 a b p HP.out _ HA1.out HB1'.out HF.out).mono ?_; rintro e w6 ⟨rfl, hb⟩; have HB6 := Aside0.mk (HB5.out.trans (hb.mono HB5.out.size) : Below w.heap.size w w6); clear hb HP) | (go_at_call 12; refine (wake_int64 _).mono ?_; rintro e w7 ⟨rfl, hb⟩; have HB7 := Aside0.mk (HB6.out.trans (hb.mono HB6.out.size) : Below w.heap.size w w7); clear hb))
    go_ret
    exact ⟨rfl, HB7.out⟩
  · have HFIT := Aside0.mk (show decide (-9223372036854775808 ≤ p ∧ p ≤ 9223372036854775807) = false from decide_eq_false hfit)
    have HF := Aside0.mk hfit
    clear hm hfit ha hb
    go_enter Try.func4, Try.ntmps4
    go_wp2_with (go_at_call 7; refine (bounds_int64 _).mono ?_; rintro e w1 ⟨v1, v2, rfl, hW1, hW2, hb1⟩; obtain ⟨b1, A1, c1, l1, rfl, hS1, hR1, hl1⟩ := hW1.shape; obtain ⟨b2, A2, c2, l2, rfl, hS2, hR2, hl2⟩ := hW2.shape; have HW1 := Aside0.mk ((hW1.more (show 41 ≤ 50 by omega)).mono (Q := fun _ => True) fun _ _ => True.intro); have HW2 := Aside0.mk ((hW2.more (show 41 ≤ 50 by omega)).mono (Q := fun _ => True) fun _ _ => True.intro); have HB1 := Aside0.mk hb1; clear hW1 hW2 hb1 hS1 hS2 hR1 hR2 hl1 hl2)
    have HB0 := Aside0.mk (Below.refl w1.heap.size w1)
    have T := Aside0.mk (two_blocks w1 (.cells #[.bool b1, .slice A1 l1.length c1] 25) (.cells #[.bool b2, .slice A2 l2.length c2] 25))
    go_region_held3 (fun w' => w'.cell? ⟨w1.heap.size, 0, none⟩ = some (.bool b1) ∧ w'.cell? ⟨w1.heap.size, 1, none⟩ = some (.slice A1 l1.length c1) ∧ w'.cell? ⟨w1.heap.size + 1, 0, none⟩ = some (.bool b2) ∧ w'.cell? ⟨w1.heap.size + 1, 1, none⟩ = some (.slice A2 l2.length c2)) (first | exact ⟨k0, k1, k2, k3⟩ | exact ⟨q0, q1, q2, q3⟩ | exact ⟨r0, r1, r2, r3⟩ | exact ⟨s0, s1, s2, s3⟩ | (go_keep; done)) (first
      | (go_at_call 10; have hT := T.out.1; refine (int_plain_int64 a _ HA.out).mono ?_; rintro e w2 ⟨va, rfl, hW, hb⟩; have J0 := Aside0.mk (own_far hb T.out.1 (Nat.le_refl _)); have J1 := Aside0.mk (own_far hb T.out.2 (Nat.le_refl _)); obtain ⟨k0, k1, _, _⟩ := struct_at J0.out; obtain ⟨k2, k3, _, _⟩ := struct_at J1.out; have HVA := Aside0.mk (hW.mono (Q := fun _ => True) fun _ _ => True.intro); have HB2 := Aside0.mk ((((by repeat (first | (with_reducible first | exact HB0.out | apply below_alloc | apply pw_below_drewN | apply below_drew1) | exact HB0.out)) : Below w1.heap.size w1 _).trans (hb.mono (by simp <;> omega))) : Below w1.heap.size w1 w2); clear hb hW hT T)
      | (go_at_call 10; refine (int_plain_int64 b _ HBB.out).mono ?_; rintro e w3 ⟨vb, rfl, hW, hb⟩; have I0 := Aside0.mk (own_far hb J0.out (Nat.le_refl _)); have I1 := Aside0.mk (own_far hb J1.out (Nat.le_refl _)); obtain ⟨q0, q1, _, _⟩ := struct_at I0.out; obtain ⟨q2, q3, _, _⟩ := struct_at I1.out; have HVB := Aside0.mk (hW.mono (Q := fun _ => True) fun _ _ => True.intro); have HVA3 := Aside0.mk (HVA.out.below hb); have HB3 := Aside0.mk (HB2.out.trans (hb.mono HB2.out.size) : Below w1.heap.size w1 w3); clear hb hW HVA)
      | (go_at_call 9; refine (WideAdd_any (fun _ => True) _ _ a b 2 _ HVA3.out HVB.out (by omega)).mono ?_; rintro e w4 ⟨vm, rfl, hW, hb⟩; rw [HP.out] at hW; obtain ⟨r0, r1, _, _⟩ := struct_at (own_far hb I0.out (Nat.le_refl _)); obtain ⟨r2, r3, _, _⟩ := struct_at (own_far hb I1.out (Nat.le_refl _)); have L0 := Aside0.mk (own_far hb I0.out (Nat.le_refl _)); have L1 := Aside0.mk (own_far hb I1.out (Nat.le_refl _)); have HVM := Aside0.mk ((hW.more (show 2 + 1 ≤ 50 by omega)).mono (Q := fun _ => True) fun _ _ => True.intro); have HB4 := Aside0.mk (HB3.out.trans (hb.mono HB3.out.size) : Below w1.heap.size w1 w4); clear hb hW)
      | (go_at_call 8; refine (fitted_any_int64 _ _ _ p (-9223372036854775808) 9223372036854775807 m false _ HVM.out (HW1.out.below HB4.out) (HW2.out.below HB4.out) HM.out HFIT.out).mono ?_; rintro e w5 ⟨rfl, hb⟩; obtain ⟨s0, s1, _, _⟩ := struct_at (own_far hb L0.out (Nat.le_refl _)); obtain ⟨s2, s3, _, _⟩ := struct_at (own_far hb L1.out (Nat.le_refl _)); have HB5 := Aside0.mk (HB1.out.trans ((HB4.out.trans (hb.mono HB4.out.size)).mono HB1.out.size) : Below w.heap.size w w5); clear hb))
    go_wp2_with (first | (go_at_call 12; refine (Add_out_int64 a b p HP.out _ HA1.out HB1'.out HF.out).mono ?_; rintro e w6 ⟨y, rfl, hb⟩; have HB6 := Aside0.mk (HB5.out.trans (hb.mono HB5.out.size) : Below w.heap.size w w6); clear hb HP) | (go_at_call 12; refine (wake_int64 _).mono ?_; rintro e w7 ⟨rfl, hb⟩; have HB7 := Aside0.mk (HB6.out.trans (hb.mono HB6.out.size) : Below w.heap.size w w7); clear hb))
    go_ret
    exact ⟨rfl, HB7.out⟩
theorem law_row_int64 (a b : Int) (w : World) (ha : (Lit.int .i64 a).wf = true) (hb : (Lit.int .i64 b).wf = true) : Calls Try.prog 4 #[.int .i64 a, .int .i64 b] w (fun e w' => e = .returned (.bool true) ∧ Below w.heap.size w w') := by
  simp only [Lit.wf, Bool.and_eq_true, decide_eq_true_eq, show IntKind.i64.min = -9223372036854775808 from rfl, show IntKind.i64.max = 9223372036854775807 from rfl] at ha hb
  exact law_int64 a b w ha hb

end Go.Proofs.Ytipnmcnacgmmnaa.WidemagDiv
