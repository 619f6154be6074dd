/- FnMulUint32: the law's walk. -/
import Derived.Test.YtipnmcnacgmmnaaWdKerA
namespace Go.Proofs.Ytipnmcnacgmmnaa.WidemagDiv
open Go.RowKit Go.Proofs.Ytipnmcnacgmmnaa.PmagDiv Go.Proofs.YtipnmcnacgmmnaaW.PrintWords Go.Proofs.YtipnmcnacgmmnaaW.PrintLast Go.Proofs.YtipnmcnacgmmnaaW.PrintMore
set_option linter.unusedVariables false
set_option linter.unusedSimpArgs false

def FineUint32 (w : World) (e : Ending) (w' : World) : Prop := e = .returned (.bool true) ∧ Below w.heap.size w w'
theorem p32_A : (2 : Int) ^ 32 - 1 = 4294967295 := by decide
theorem wide_conv_uint32 (u : Int) (w : World) (hu : 0 ≤ u ∧ u ≤ 18446744073709551615) : Calls Try.prog 14 #[.int .u64 (IntKind.u64.wrap u)] w (RetW (fun _ => True) w u 2) := by
  rw [show IntKind.u64.wrap u = u by rw [u64m]; omega]
  exact WideUint_any _ u w hu
theorem fitted_in_uint32 (v vx vy : Value) (z x y : Int) (w : World) (hv : IsW (fun _ => True) w v z 50) (hx : IsW (fun _ => True) w vx x 50) (hy : IsW (fun _ => True) w vy y 50) (hxz : x ≤ z) (hzy : z ≤ y) (hz : 0 ≤ z ∧ z ≤ 18446744073709551615) :
    Calls Try.prog 8 #[v, vx, vy] w (fun e w' => e = .returned (.tuple #[.int .u64 z, .bool true]) ∧ Below w.heap.size w w') := by
  refine (fitted_pos (fun _ => True) v vx vy z x y 50 w hv hx hy hz.1 hxz (by omega)).mono ?_
  rintro e w' ⟨rfl, hb⟩
  exact ⟨by rw [decide_eq_true ⟨hxz, hzy⟩, show z % 18446744073709551616 = z by omega], hb⟩
theorem fitted_out_uint32 (v vx vy : Value) (z x y : Int) (w : World) (hv : IsW (fun _ => True) w v z 50) (hx : IsW (fun _ => True) w vx x 50) (hy : IsW (fun _ => True) w vy y 50) (hxz : x ≤ z) (hzy : y < z) (hz : 0 ≤ z) :
    Calls Try.prog 8 #[v, vx, vy] w (fun e w' => e = .returned (.tuple #[.int .u64 (z % 18446744073709551616), .bool false]) ∧ Below w.heap.size w w') := by
  refine (fitted_pos (fun _ => True) v vx vy z x y 50 w hv hx hy hz hxz (by omega)).mono ?_
  rintro e w' ⟨rfl, hb⟩
  exact ⟨by rw [decide_eq_false (fun h => by omega)], hb⟩
theorem Mul_in_uint32 (a b p : Int) (hp : a * b = p) (w : World) (ha : 0 ≤ a ∧ a ≤ 4294967295) (hb : 0 ≤ b ∧ b ≤ 4294967295) (hf : 0 ≤ p ∧ p ≤ 4294967295) : Calls Try.prog 15 #[.int .u32 a, .int .u32 b] w (fun e w' => e = .returned (.tuple #[.int .u32 p, .bool true]) ∧ Below w.heap.size w w') := by
  refine (Mul_uint32 a b w ha hb).mono ?_
  rw [hp]
  rintro e w' ⟨hb, y, rfl, hy⟩
  exact ⟨by rw [hy hf, decide_eq_true hf], hb⟩
theorem Mul_out_uint32 (a b p : Int) (hp : a * b = p) (w : World) (ha : 0 ≤ a ∧ a ≤ 4294967295) (hb : 0 ≤ b ∧ b ≤ 4294967295) (hf : 4294967295 < p) : Calls Try.prog 15 #[.int .u32 a, .int .u32 b] w (fun e w' => ∃ y, e = .returned (.tuple #[.int .u32 y, .bool false]) ∧ Below w.heap.size w w') := by
  refine (Mul_uint32 a b w ha hb).mono ?_
  rw [hp]
  rintro e w' ⟨hb, y, rfl, hy⟩
  exact ⟨y, by rw [decide_eq_false (fun h => by omega)], hb⟩
theorem wake_uint32 (w : World) : Calls Try.prog 15 #[.int .u32 2, .int .u32 3] w (fun e w' => e = .returned (.tuple #[.int .u32 6, .bool true]) ∧ Below w.heap.size w w') := by
  refine (Mul_uint32 2 3 w (by omega) (by omega)).mono ?_
  rintro e w' ⟨hb, y, rfl, hy⟩
  exact ⟨by rw [hy (by omega)]; rfl, hb⟩
set_option maxRecDepth 100000 in
set_option maxHeartbeats 4000000 in
theorem law_uint32 (a b : Int) (w : World) (ha : 0 ≤ a ∧ a ≤ 4294967295) (hb : 0 ≤ b ∧ b ≤ 4294967295) : Calls Try.prog 5 #[.int .u32 a, .int .u32 b] w (FineUint32 w) := by
  obtain ⟨p, hp⟩ : ∃ p, a * b = p := ⟨_, rfl⟩
  have hp0 : 0 ≤ p := by rw [← hp]; exact Int.mul_nonneg ha.1 hb.1
  have HP := Aside0.mk hp
  have HA := Aside0.mk (show 0 ≤ a ∧ a ≤ 4294967295 by omega)
  have HBB := Aside0.mk (show 0 ≤ b ∧ b ≤ 4294967295 by omega)
  have HA1 := Aside0.mk ha
  have HB1' := Aside0.mk hb
  clear hp
  by_cases hfit : p ≤ 4294967295
  · have hfit' := hfit
    go_enter Try.func5, Try.ntmps5
    go_wp2_with (go_at_call 7; refine (bounds_unsigned (fun _ => True) 32 _ (by omega)).mono ?_; rintro e w1 ⟨v1, v2, rfl, hW1, hW2, hb1⟩; rw [p32_A] at hW2; obtain ⟨b1, A1, c1, l1, rfl, hS1, hR1, hl1⟩ := hW1.shape; obtain ⟨b2, A2, c2, l2, rfl, hS2, hR2, hl2⟩ := hW2.shape; have HW1 := Aside0.mk ((hW1.more (show 41 ≤ 50 by omega)).mono (Q := fun _ => True) fun _ _ => True.intro); have HW2 := Aside0.mk ((hW2.more (show 41 ≤ 50 by omega)).mono (Q := fun _ => True) fun _ _ => True.intro); have HB1 := Aside0.mk hb1; clear hW1 hW2 hb1 hS1 hS2 hR1 hR2 hl1 hl2)
    have HB0 := Aside0.mk (Below.refl w1.heap.size w1)
    have T := Aside0.mk (two_blocks w1 (.cells #[.bool b1, .slice A1 l1.length c1] 25) (.cells #[.bool b2, .slice A2 l2.length c2] 25))
    go_region_held3 (fun w' => w'.cell? ⟨w1.heap.size, 0, none⟩ = some (.bool b1) ∧ w'.cell? ⟨w1.heap.size, 1, none⟩ = some (.slice A1 l1.length c1) ∧ w'.cell? ⟨w1.heap.size + 1, 0, none⟩ = some (.bool b2) ∧ w'.cell? ⟨w1.heap.size + 1, 1, none⟩ = some (.slice A2 l2.length c2)) (first | exact ⟨k0, k1, k2, k3⟩ | exact ⟨q0, q1, q2, q3⟩ | exact ⟨r0, r1, r2, r3⟩ | exact ⟨s0, s1, s2, s3⟩ | (go_keep; done)) (first
      | (go_at_call 14; have hT := T.out.1; refine (wide_conv_uint32 a _ (by have := HA.out; omega)).mono ?_; rintro e w2 ⟨va, rfl, hW, hb⟩; have J0 := Aside0.mk (own_far hb T.out.1 (Nat.le_refl _)); have J1 := Aside0.mk (own_far hb T.out.2 (Nat.le_refl _)); obtain ⟨k0, k1, _, _⟩ := struct_at J0.out; obtain ⟨k2, k3, _, _⟩ := struct_at J1.out; have HVA := Aside0.mk (hW.mono (Q := fun _ => True) fun _ _ => True.intro); have HB2 := Aside0.mk ((((by repeat (first | (with_reducible first | exact HB0.out | apply below_alloc | apply pw_below_drewN | apply below_drew1) | exact HB0.out)) : Below w1.heap.size w1 _).trans (hb.mono (by simp <;> omega))) : Below w1.heap.size w1 w2); clear hb hW hT T)
      | (go_at_call 14; refine (wide_conv_uint32 b _ (by have := HBB.out; omega)).mono ?_; rintro e w3 ⟨vb, rfl, hW, hb⟩; have I0 := Aside0.mk (own_far hb J0.out (Nat.le_refl _)); have I1 := Aside0.mk (own_far hb J1.out (Nat.le_refl _)); obtain ⟨q0, q1, _, _⟩ := struct_at I0.out; obtain ⟨q2, q3, _, _⟩ := struct_at I1.out; have HVB := Aside0.mk (hW.mono (Q := fun _ => True) fun _ _ => True.intro); have HVA3 := Aside0.mk (HVA.out.below hb); have HB3 := Aside0.mk (HB2.out.trans (hb.mono HB2.out.size) : Below w1.heap.size w1 w3); clear hb hW HVA)
      | (go_at_call 13; refine (WideMul_small (fun _ => True) _ _ a b 2 _ HVA3.out HVB.out HA.out HBB.out).mono ?_; rintro e w4 ⟨vm, rfl, hW, hb⟩; rw [HP.out] at hW; obtain ⟨r0, r1, _, _⟩ := struct_at (own_far hb I0.out (Nat.le_refl _)); obtain ⟨r2, r3, _, _⟩ := struct_at (own_far hb I1.out (Nat.le_refl _)); have L0 := Aside0.mk (own_far hb I0.out (Nat.le_refl _)); have L1 := Aside0.mk (own_far hb I1.out (Nat.le_refl _)); have HVM := Aside0.mk ((hW.more (show 2 ≤ 50 by omega)).mono (Q := fun _ => True) fun _ _ => True.intro); have HB4 := Aside0.mk (HB3.out.trans (hb.mono HB3.out.size) : Below w1.heap.size w1 w4); clear hb hW)
      | (go_at_call 8; refine (fitted_in_uint32 _ _ _ p 0 4294967295 _ HVM.out (HW1.out.below HB4.out) (HW2.out.below HB4.out) hp0 hfit (by omega)).mono ?_; rintro e w5 ⟨rfl, hb⟩; obtain ⟨s0, s1, _, _⟩ := struct_at (own_far hb L0.out (Nat.le_refl _)); obtain ⟨s2, s3, _, _⟩ := struct_at (own_far hb L1.out (Nat.le_refl _)); have HB5 := Aside0.mk (HB1.out.trans ((HB4.out.trans (hb.mono HB4.out.size)).mono HB1.out.size) : Below w.heap.size w w5); clear hb))
    go_wp2_with (first | (go_at_call 15; refine (Mul_in_uint32 a b p HP.out _ HA1.out HB1'.out ⟨hp0, hfit⟩).mono ?_; rintro e w6 ⟨rfl, hb⟩; have HB6 := Aside0.mk (HB5.out.trans (hb.mono HB5.out.size) : Below w.heap.size w w6); clear hb HP) | (go_at_call 15; refine (wake_uint32 _).mono ?_; rintro e w7 ⟨rfl, hb⟩; have HB7 := Aside0.mk (HB6.out.trans (hb.mono HB6.out.size) : Below w.heap.size w w7); clear hb))
    go_ret
    exact ⟨rfl, HB7.out⟩
  · have hout : 4294967295 < p := by omega
    clear hfit
    go_enter Try.func5, Try.ntmps5
    go_wp2_with (go_at_call 7; refine (bounds_unsigned (fun _ => True) 32 _ (by omega)).mono ?_; rintro e w1 ⟨v1, v2, rfl, hW1, hW2, hb1⟩; rw [p32_A] at hW2; obtain ⟨b1, A1, c1, l1, rfl, hS1, hR1, hl1⟩ := hW1.shape; obtain ⟨b2, A2, c2, l2, rfl, hS2, hR2, hl2⟩ := hW2.shape; have HW1 := Aside0.mk ((hW1.more (show 41 ≤ 50 by omega)).mono (Q := fun _ => True) fun _ _ => True.intro); have HW2 := Aside0.mk ((hW2.more (show 41 ≤ 50 by omega)).mono (Q := fun _ => True) fun _ _ => True.intro); have HB1 := Aside0.mk hb1; clear hW1 hW2 hb1 hS1 hS2 hR1 hR2 hl1 hl2)
    have HB0 := Aside0.mk (Below.refl w1.heap.size w1)
    have T := Aside0.mk (two_blocks w1 (.cells #[.bool b1, .slice A1 l1.length c1] 25) (.cells #[.bool b2, .slice A2 l2.length c2] 25))
    go_region_held3 (fun w' => w'.cell? ⟨w1.heap.size, 0, none⟩ = some (.bool b1) ∧ w'.cell? ⟨w1.heap.size, 1, none⟩ = some (.slice A1 l1.length c1) ∧ w'.cell? ⟨w1.heap.size + 1, 0, none⟩ = some (.bool b2) ∧ w'.cell? ⟨w1.heap.size + 1, 1, none⟩ = some (.slice A2 l2.length c2)) (first | exact ⟨k0, k1, k2, k3⟩ | exact ⟨q0, q1, q2, q3⟩ | exact ⟨r0, r1, r2, r3⟩ | exact ⟨s0, s1, s2, s3⟩ | (go_keep; done)) (first
      | (go_at_call 14; have hT := T.out.1; refine (wide_conv_uint32 a _ (by have := HA.out; omega)).mono ?_; rintro e w2 ⟨va, rfl, hW, hb⟩; have J0 := Aside0.mk (own_far hb T.out.1 (Nat.le_refl _)); have J1 := Aside0.mk (own_far hb T.out.2 (Nat.le_refl _)); obtain ⟨k0, k1, _, _⟩ := struct_at J0.out; obtain ⟨k2, k3, _, _⟩ := struct_at J1.out; have HVA := Aside0.mk (hW.mono (Q := fun _ => True) fun _ _ => True.intro); have HB2 := Aside0.mk ((((by repeat (first | (with_reducible first | exact HB0.out | apply below_alloc | apply pw_below_drewN | apply below_drew1) | exact HB0.out)) : Below w1.heap.size w1 _).trans (hb.mono (by simp <;> omega))) : Below w1.heap.size w1 w2); clear hb hW hT T)
      | (go_at_call 14; refine (wide_conv_uint32 b _ (by have := HBB.out; omega)).mono ?_; rintro e w3 ⟨vb, rfl, hW, hb⟩; have I0 := Aside0.mk (own_far hb J0.out (Nat.le_refl _)); have I1 := Aside0.mk (own_far hb J1.out (Nat.le_refl _)); obtain ⟨q0, q1, _, _⟩ := struct_at I0.out; obtain ⟨q2, q3, _, _⟩ := struct_at I1.out; have HVB := Aside0.mk (hW.mono (Q := fun _ => True) fun _ _ => True.intro); have HVA3 := Aside0.mk (HVA.out.below hb); have HB3 := Aside0.mk (HB2.out.trans (hb.mono HB2.out.size) : Below w1.heap.size w1 w3); clear hb hW HVA)
      | (go_at_call 13; refine (WideMul_small (fun _ => True) _ _ a b 2 _ HVA3.out HVB.out HA.out HBB.out).mono ?_; rintro e w4 ⟨vm, rfl, hW, hb⟩; rw [HP.out] at hW; obtain ⟨r0, r1, _, _⟩ := struct_at (own_far hb I0.out (Nat.le_refl _)); obtain ⟨r2, r3, _, _⟩ := struct_at (own_far hb I1.out (Nat.le_refl _)); have L0 := Aside0.mk (own_far hb I0.out (Nat.le_refl _)); have L1 := Aside0.mk (own_far hb I1.out (Nat.le_refl _)); have HVM := Aside0.mk ((hW.more (show 2 ≤ 50 by omega)).mono (Q := fun _ => True) fun _ _ => True.intro); have HB4 := Aside0.mk (HB3.out.trans (hb.mono HB3.out.size) : Below w1.heap.size w1 w4); clear hb hW)
      | (go_at_call 8; refine (fitted_out_uint32 _ _ _ p 0 4294967295 _ HVM.out (HW1.out.below HB4.out) (HW2.out.below HB4.out) hp0 hout hp0).mono ?_; rintro e w5 ⟨rfl, hb⟩; obtain ⟨s0, s1, _, _⟩ := struct_at (own_far hb L0.out (Nat.le_refl _)); obtain ⟨s2, s3, _, _⟩ := struct_at (own_far hb L1.out (Nat.le_refl _)); have HB5 := Aside0.mk (HB1.out.trans ((HB4.out.trans (hb.mono HB4.out.size)).mono HB1.out.size) : Below w.heap.size w w5); clear hb))
    go_wp2_with (first | (go_at_call 15; refine (Mul_out_uint32 a b p HP.out _ HA1.out HB1'.out hout).mono ?_; rintro e w6 ⟨y, rfl, hb⟩; have HB6 := Aside0.mk (HB5.out.trans (hb.mono HB5.out.size) : Below w.heap.size w w6); clear hb HP) | (go_at_call 15; refine (wake_uint32 _).mono ?_; rintro e w7 ⟨rfl, hb⟩; have HB7 := Aside0.mk (HB6.out.trans (hb.mono HB6.out.size) : Below w.heap.size w w7); clear hb))
    go_ret
    exact ⟨rfl, HB7.out⟩
theorem law_row_uint32 (a b : Int) (w : World) (ha : (Lit.int .u32 a).wf = true) (hb : (Lit.int .u32 b).wf = true) : Calls Try.prog 5 #[.int .u32 a, .int .u32 b] w (fun e w' => e = .returned (.bool true) ∧ Below w.heap.size w w') := by
  simp only [Lit.wf, Bool.and_eq_true, decide_eq_true_eq, show IntKind.u32.min = 0 from rfl, show IntKind.u32.max = 4294967295 from rfl] at ha hb
  exact law_uint32 a b w ha hb

end Go.Proofs.Ytipnmcnacgmmnaa.WidemagDiv
