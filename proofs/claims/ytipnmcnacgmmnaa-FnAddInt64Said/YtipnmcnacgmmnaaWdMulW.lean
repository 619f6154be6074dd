/- Products of integers of one digit that are not negative: the walk. -/
import Derived.Test.YtipnmcnacgmmnaaWdMul
import Derived.Test.YtipnmcnacgmmnaaWdSubW
namespace Go.Proofs.Ytipnmcnacgmmnaa.WidemagDiv
open Go.RowKit Go.Proofs.Ytipnmcnacgmmnaa.PmagDiv Go.Proofs.YtipnmcnacgmmnaaW.PrintWords Go.Proofs.YtipnmcnacgmmnaaW.PrintLast Go.Proofs.YtipnmcnacgmmnaaW.PrintMore
set_option linter.unusedVariables false
set_option linter.unusedSimpArgs false

set_option maxRecDepth 100000 in
set_option maxHeartbeats 4000000 in
theorem WideMul_small (P : Nat → Prop) (v1 v2 : Value) (x y : Int) (B : Nat) (w : World) (h1 : IsW P w v1 x B) (h2 : IsW P w v2 y B) (hx : 0 ≤ x ∧ x ≤ 4294967295) (hy : 0 ≤ y ∧ y ≤ 4294967295) :
    Calls Try.prog 13 #[v1, v2] w (RetW P w (x * y) 2) := by
  obtain ⟨b1, A1, c1, l1, rfl, hS1, hR1, hl1⟩ := h1.shape
  obtain ⟨b2, A2, c2, l2, rfl, hS2, hR2, hl2⟩ := h2.shape
  obtain rfl : b1 = false := by
    cases b1 with
    | false => rfl
    | true => have := hR1.neg_lt rfl; omega
  obtain rfl : b2 = false := by
    cases b2 with
    | false => rfl
    | true => have := hR2.neg_lt rfl; omega
  have n1 := one_digit hR1 hx.2
  have n2 := one_digit hR2 hy.2
  have HS1 := Aside0.mk hS1.old
  have HS2 := Aside0.mk hS2.old
  have HR1 := Aside0.mk hR1
  have HR2 := Aside0.mk hR2
  have HB0 := Aside0.mk (Below.refl w.heap.size w)
  clear hS1 hS2 hR1 hR2 h1 h2
  have HV := Aside0.mk (show mag l1 * mag l2 = x * y by rw [HR1.out.pos rfl, HR2.out.pos rfl])
  have T := Aside0.mk (three w (.cells #[.bool false, .slice A1 l1.length c1] 25) (.cells #[.bool false, .slice A2 l2.length c2] 25) (.cells #[.bool false, .slice none 0 0] 25))
  go_enter Try.func13, Try.ntmps13
  go_wp2_with fail
  go_region_held3 (fun w' => w'.cell? ⟨w.heap.size, 0, none⟩ = some (.bool false) ∧ w'.cell? ⟨w.heap.size, 1, none⟩ = some (.slice A1 l1.length c1) ∧ w'.cell? ⟨w.heap.size + 1, 0, none⟩ = some (.bool false) ∧ w'.cell? ⟨w.heap.size + 1, 1, none⟩ = some (.slice A2 l2.length c2)) (first | exact ⟨k0, k1, k3, k2⟩ | exact ⟨q0, q1, q3, q2⟩ | exact keep5 q0 q1 q3 q2 | (go_keep; done)) (first | (go_at_call 28; refine (magMul_small (fun k => P k ∧ k < w.heap.size) _ _ l1 l2 _ (HS1.out.below (by repeat (first | (with_reducible first | exact HB0.out | apply below_alloc | apply pw_below_drewN | apply below_drew1) | exact HB0.out))) (HS2.out.below (by repeat (first | (with_reducible first | exact HB0.out | apply below_alloc | apply pw_below_drewN | apply below_drew1) | exact HB0.out))) HR1.out.dig HR2.out.dig n1 n2).mono ?_; rintro e w1 ⟨v1, r, rfl, hS, hp, hb⟩; obtain ⟨A3, c3, rfl, hc3, _⟩ := hS.shape; have HS3 := Aside0.mk hS; have HP := Aside0.mk hp; obtain ⟨k0, k1, _, _⟩ := struct_at (own_far hb T.out.1 (Nat.le_refl _)); obtain ⟨k3, k2, _, _⟩ := struct_at (own_far hb T.out.2.1 (Nat.le_refl _)); have J2 := Aside0.mk (own_far hb T.out.2.2 (Nat.le_refl _)); have HB1 := Aside0.mk (((by repeat (first | (with_reducible first | exact HB0.out | apply below_alloc | apply pw_below_drewN | apply below_drew1) | exact HB0.out)) : Below w.heap.size w _).trans (hb.mono (by simp <;> omega)) : Below w.heap.size w w1); have HZ1 := Aside0.mk (show w.heap.size + 1 + 1 < w1.heap.size by have := hb.size; simp at this; omega); clear hb hS hp) | (go_at_call 22; refine (wide_any (fun k => (P k ∧ k < w.heap.size) ∨ w.heap.size + 1 + 1 < k) _ _ r _ (HS3.out.mono near3) HP.out.2.1 (by have := HP.out.2.2; omega)).mono ?_; rintro e w2 ⟨v2, rfl, hW2, hb2⟩; rw [if_neg (by simp), HP.out.1, HV.out] at hW2; obtain ⟨b4, A4, c4, l4, rfl, hS4, hR4, hl4⟩ := hW2.shape; have HS4 := Aside0.mk hS4; have HR4 := Aside0.mk hR4; obtain ⟨m0, m1, mf0, mf1⟩ := struct_at (own_far hb2 J2.out (Nat.le_refl _)); have hz2 : w.heap.size + 1 + 1 < w2.heap.size := Nat.lt_of_lt_of_le HZ1.out hb2.size; have q0 := ((bcell hb2).1 w.heap.size 0 (by have := HZ1.out; omega)).trans k0; have q1 := ((bcell hb2).1 w.heap.size 1 (by have := HZ1.out; omega)).trans k1; have q2 := ((bcell hb2).1 (w.heap.size + 1) 1 (by have := HZ1.out; omega)).trans k2; have q3 := ((bcell hb2).1 (w.heap.size + 1) 0 (by have := HZ1.out; omega)).trans k3; have HB2 := Aside0.mk (HB1.out.trans (hb2.mono HB1.out.size) : Below w.heap.size w w2); clear hS4 hR4 hW2 hb2))
  go_wp2_with fail
  refine bodyPost_ret (v := .agg #[.bool b4, .slice A4 l4.length c4]) (by simp [results, Try.results13, go_sem, m0, m1, hz2]) rfl ?_
  refine ⟨_, rfl, IsW.mk (((HS4.out.far (p := ⟨w.heap.size + 1 + 1, 0, none⟩) (far4 HZ1.out) _).far (p := ⟨w.heap.size + 1 + 1, 1, none⟩) (far4 HZ1.out) _).mono (new4 HB1.out.size)) HR4.out (Nat.le_trans hl4 HP.out.2.2), ?_⟩
  exact (HB2.out.setCell (by show w.heap.size ≤ w.heap.size + 1 + 1; omega) _).setCell (by show w.heap.size ≤ w.heap.size + 1 + 1; omega) _

end Go.Proofs.Ytipnmcnacgmmnaa.WidemagDiv
