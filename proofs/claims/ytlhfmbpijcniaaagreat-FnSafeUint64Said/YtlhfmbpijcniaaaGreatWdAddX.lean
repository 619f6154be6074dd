/- Sums of integers of unlike signs: the walks. No condition beyond small lengths. -/
import Derived.Test.YtlhfmbpijcniaaaGreatWdAddW
namespace Go.Proofs.YtlhfmbpijcniaaaGreat.WidemagDiv
open Go.RowKit Go.Proofs.YtlhfmbpijcniaaaGreat.PmagDiv Go.Proofs.YtlhfmbpijcniaaaGreatW.PrintWords Go.Proofs.YtlhfmbpijcniaaaGreatW.PrintLast Go.Proofs.YtlhfmbpijcniaaaGreatW.PrintMore
set_option linter.unusedVariables false
set_option linter.unusedSimpArgs false
theorem keep4 {w2 : World} {n : Nat} {x y z u v : Value} (q0 : w2.cell? ⟨n + 1, 0, none⟩ = some x) (q1 : w2.cell? ⟨n, 1, none⟩ = some y) (q2 : w2.cell? ⟨n + 1, 1, none⟩ = some z) :
    ((w2.setCell ⟨n + 1 + 1, 0, none⟩ u).setCell ⟨n + 1 + 1, 1, none⟩ v).cell? ⟨n + 1, 0, none⟩ = some x ∧ ((w2.setCell ⟨n + 1 + 1, 0, none⟩ u).setCell ⟨n + 1 + 1, 1, none⟩ v).cell? ⟨n, 1, none⟩ = some y ∧ ((w2.setCell ⟨n + 1 + 1, 0, none⟩ u).setCell ⟨n + 1 + 1, 1, none⟩ v).cell? ⟨n + 1, 1, none⟩ = some z := by
  refine ⟨?_, ?_, ?_⟩
  · rw [World.cell?_setCell_other _ _ _ _ (by simp), World.cell?_setCell_other _ _ _ _ (by simp)]; exact q0
  · rw [World.cell?_setCell_other _ _ _ _ (by simp), World.cell?_setCell_other _ _ _ _ (by simp)]; exact q1
  · rw [World.cell?_setCell_other _ _ _ _ (by simp), World.cell?_setCell_other _ _ _ _ (by simp)]; exact q2
theorem far5 {P : Nat → Prop} {n m : Nat} (hm : n + 1 + 1 < m) : ∀ k, ((P k ∧ k < n) ∨ m ≤ k) → (P k ∧ k < n) ∨ n + 1 + 1 < k := by
  rintro k (h | h)
  · exact .inl h
  · exact .inr (by omega)

set_option maxRecDepth 100000 in
set_option maxHeartbeats 4000000 in
theorem add_fge (P : Nat → Prop) (A1 A2 : Option Addr) (c1 c2 : Nat) (l1 l2 : List Int) (x y : Int) (B : Nat) (w : World) (hS1 : Sl P w (.slice A1 l1.length c1) l1) (hS2 : Sl P w (.slice A2 l2.length c2) l2) (hR1 : Rep false l1 x) (hR2 : Rep true l2 y) (hl1 : l1.length ≤ B) (hl2 : l2.length ≤ B) (hB : B ≤ 100000) (hle : mag l2 ≤ mag l1) :
    Calls Tryz.prog 25 #[.agg #[.bool false, .slice A1 l1.length c1], .agg #[.bool true, .slice A2 l2.length c2]] w (RetW P w (x + y) (B + 1)) := by
  have HS1 := Aside0.mk hS1.old
  have HS2 := Aside0.mk hS2.old
  have HR1 := Aside0.mk hR1
  have HR2 := Aside0.mk hR2
  have HB0 := Aside0.mk (Below.refl w.heap.size w)
  have HLE := Aside0.mk (show mag l2 ≤ mag l1 by omega)
  obtain ⟨q, hq, hqs⟩ : ∃ q : Int, cmpI (mag l1) (mag l2) = q ∧ 0 ≤ q := ⟨_, rfl, by unfold cmpI; rw [if_neg (by omega)]; split <;> omega⟩
  have HCM := Aside0.mk hq
  clear hS1 hS2 hR1 hR2 hle hq
  have T := Aside0.mk (three w (.cells #[.bool false, .slice A1 l1.length c1] 27) (.cells #[.bool true, .slice A2 l2.length c2] 27) (.cells #[.bool false, .slice none 0 0] 27))
  go_enter Tryz.func25, Tryz.ntmps25
  go_wp2_with (go_at_call 27; refine (magCmp_any _ _ _ l1 l2 _ (HS1.out.below (by repeat (first | (with_reducible first | exact HB0.out | apply below_alloc | apply pw_below_drewN | apply below_drew1) | exact HB0.out))) (HS2.out.below (by repeat (first | (with_reducible first | exact HB0.out | apply below_alloc | apply pw_below_drewN | apply below_drew1) | exact HB0.out))) HR1.out.dig HR2.out.dig HR1.out.nrm HR2.out.nrm (by omega)).mono ?_; rintro e w1 ⟨rfl, hb⟩; rw [HCM.out]; obtain ⟨k0, k1, _, _⟩ := struct_at (own_far hb T.out.1 (Nat.le_refl _)); obtain ⟨k3, k2, _, _⟩ := struct_at (own_far hb T.out.2.1 (Nat.le_refl _)); have J2 := Aside0.mk (own_far hb T.out.2.2 (Nat.le_refl _)); have HB1 := Aside0.mk (((by repeat (first | (with_reducible first | exact HB0.out | apply below_alloc | apply pw_below_drewN | apply below_drew1) | exact HB0.out)) : Below w.heap.size w _).trans (hb.mono (by simp <;> omega)) : Below w.heap.size w w1); have HZ1 := Aside0.mk (show w.heap.size + 1 + 1 < w1.heap.size by have := hb.size; simp at this; omega); clear hb)
  go_region_held3 (fun w' => w'.cell? ⟨w.heap.size, 0, none⟩ = some (.bool false) ∧ w'.cell? ⟨w.heap.size, 1, none⟩ = some (.slice A1 l1.length c1) ∧ w'.cell? ⟨w.heap.size + 1, 1, none⟩ = some (.slice A2 l2.length c2)) (first | exact ⟨k0, k1, k2⟩ | exact ⟨s0, s1, s2⟩ | exact ⟨q0, q1, q2⟩ | exact keep3 q0 q1 q2 | (go_keep; done)) (first | (go_at_call 50; refine (magSub_any (fun k => P k ∧ k < w.heap.size) _ _ l1 l2 _ (HS1.out.below HB1.out.drew) (HS2.out.below HB1.out.drew) HR1.out.dig HR2.out.dig HR2.out.nrm (by omega) HLE.out).mono ?_; rintro e w2 ⟨v2, r, rfl, hS, hp, hb2⟩; obtain ⟨A3, c3, rfl, hc3, _⟩ := hS.shape; have HS3 := Aside0.mk hS; have HP := Aside0.mk hp; have s0 := ((bcell hb2).1 _ _ (show _ < w1.heap.size by have := HZ1.out; omega)).trans (show w1.drew.cell? ⟨w.heap.size, 0, none⟩ = _ from k0); have s1 := ((bcell hb2).1 w.heap.size 1 (show _ < w1.heap.size by have := HZ1.out; omega)).trans (show w1.drew.cell? ⟨w.heap.size, 1, none⟩ = _ from k1); have s2 := ((bcell hb2).1 (w.heap.size + 1) 1 (show _ < w1.heap.size by have := HZ1.out; omega)).trans (show w1.drew.cell? ⟨w.heap.size + 1, 1, none⟩ = _ from k2); have J3 := Aside0.mk (own_far hb2 J2.out (Nat.le_refl _)); have HB2 := Aside0.mk (HB1.out.drew.trans (hb2.mono HB1.out.size) : Below w.heap.size w w2); have HZ2 := Aside0.mk (show w.heap.size + 1 + 1 < w2.heap.size from Nat.lt_of_lt_of_le HZ1.out hb2.size); clear hS hp hb2) | (go_at_call 24; refine (wide_any (fun k => (P k ∧ k < w.heap.size) ∨ w.heap.size + 1 + 1 < k) _ _ r _ (HS3.out.mono (far5 HZ1.out)) HP.out.2.1 (by have := HP.out.2.2.2; omega)).mono ?_; rintro e w3 ⟨v3, rfl, hW, hb3⟩; rw [sum_left (b := false) (c := true) rfl HR1.out HR2.out HP.out.1] at hW; obtain ⟨b4, A4, c4, l4, rfl, hS4, hR4, hl4⟩ := hW.shape; have HS4 := Aside0.mk hS4; have HR4 := Aside0.mk hR4; obtain ⟨m0, m1, mf0, mf1⟩ := struct_at (own_far hb3 J3.out (Nat.le_refl _)); have hz3 : w.heap.size + 1 + 1 < w3.heap.size := Nat.lt_of_lt_of_le HZ2.out hb3.size; have q0 := ((bcell hb3).1 _ _ (by have := HZ2.out; omega)).trans s0; have q1 := ((bcell hb3).1 w.heap.size 1 (by have := HZ2.out; omega)).trans s1; have q2 := ((bcell hb3).1 (w.heap.size + 1) 1 (by have := HZ2.out; omega)).trans s2; have HB3 := Aside0.mk (HB2.out.trans (hb3.mono HB2.out.size) : Below w.heap.size w w3); clear hS4 hR4 hW hb3))
  go_wp2_with fail
  refine bodyPost_ret (v := .agg #[.bool b4, .slice A4 l4.length c4]) (by simp [results, Tryz.results25, go_sem, m0, m1, hz3]) rfl ?_
  refine ⟨_, rfl, IsW.mk (((HS4.out.far (p := ⟨w.heap.size + 1 + 1, 0, none⟩) (far4 HZ2.out) _).far (p := ⟨w.heap.size + 1 + 1, 1, none⟩) (far4 HZ2.out) _).mono (new4 HB2.out.size)) HR4.out (by have := HP.out.2.2.2; omega), ?_⟩
  exact (HB3.out.setCell (by show w.heap.size ≤ w.heap.size + 1 + 1; omega) _).setCell (by show w.heap.size ≤ w.heap.size + 1 + 1; omega) _

set_option maxRecDepth 100000 in
set_option maxHeartbeats 4000000 in
theorem add_flt (P : Nat → Prop) (A1 A2 : Option Addr) (c1 c2 : Nat) (l1 l2 : List Int) (x y : Int) (B : Nat) (w : World) (hS1 : Sl P w (.slice A1 l1.length c1) l1) (hS2 : Sl P w (.slice A2 l2.length c2) l2) (hR1 : Rep false l1 x) (hR2 : Rep true l2 y) (hl1 : l1.length ≤ B) (hl2 : l2.length ≤ B) (hB : B ≤ 100000) (hle : mag l1 < mag l2) :
    Calls Tryz.prog 25 #[.agg #[.bool false, .slice A1 l1.length c1], .agg #[.bool true, .slice A2 l2.length c2]] w (RetW P w (x + y) (B + 1)) := by
  have HS1 := Aside0.mk hS1.old
  have HS2 := Aside0.mk hS2.old
  have HR1 := Aside0.mk hR1
  have HR2 := Aside0.mk hR2
  have HB0 := Aside0.mk (Below.refl w.heap.size w)
  have HLE := Aside0.mk (show mag l1 ≤ mag l2 by omega)
  obtain ⟨q, hq, hqs⟩ : ∃ q : Int, cmpI (mag l1) (mag l2) = q ∧ q < 0 := ⟨_, rfl, by unfold cmpI; rw [if_pos (by omega)]; omega⟩
  have HCM := Aside0.mk hq
  clear hS1 hS2 hR1 hR2 hle hq
  have T := Aside0.mk (three w (.cells #[.bool false, .slice A1 l1.length c1] 27) (.cells #[.bool true, .slice A2 l2.length c2] 27) (.cells #[.bool false, .slice none 0 0] 27))
  go_enter Tryz.func25, Tryz.ntmps25
  go_wp2_with (go_at_call 27; refine (magCmp_any _ _ _ l1 l2 _ (HS1.out.below (by repeat (first | (with_reducible first | exact HB0.out | apply below_alloc | apply pw_below_drewN | apply below_drew1) | exact HB0.out))) (HS2.out.below (by repeat (first | (with_reducible first | exact HB0.out | apply below_alloc | apply pw_below_drewN | apply below_drew1) | exact HB0.out))) HR1.out.dig HR2.out.dig HR1.out.nrm HR2.out.nrm (by omega)).mono ?_; rintro e w1 ⟨rfl, hb⟩; rw [HCM.out]; obtain ⟨k0, k1, _, _⟩ := struct_at (own_far hb T.out.1 (Nat.le_refl _)); obtain ⟨k3, k2, _, _⟩ := struct_at (own_far hb T.out.2.1 (Nat.le_refl _)); have J2 := Aside0.mk (own_far hb T.out.2.2 (Nat.le_refl _)); have HB1 := Aside0.mk (((by repeat (first | (with_reducible first | exact HB0.out | apply below_alloc | apply pw_below_drewN | apply below_drew1) | exact HB0.out)) : Below w.heap.size w _).trans (hb.mono (by simp <;> omega)) : Below w.heap.size w w1); have HZ1 := Aside0.mk (show w.heap.size + 1 + 1 < w1.heap.size by have := hb.size; simp at this; omega); clear hb)
  go_region_held3 (fun w' => w'.cell? ⟨w.heap.size + 1, 0, none⟩ = some (.bool true) ∧ w'.cell? ⟨w.heap.size, 1, none⟩ = some (.slice A1 l1.length c1) ∧ w'.cell? ⟨w.heap.size + 1, 1, none⟩ = some (.slice A2 l2.length c2)) (first | exact ⟨k3, k1, k2⟩ | exact ⟨s0, s1, s2⟩ | exact ⟨q0, q1, q2⟩ | exact keep4 q0 q1 q2 | (go_keep; done)) (first | (go_at_call 50; refine (magSub_any (fun k => P k ∧ k < w.heap.size) _ _ l2 l1 _ (HS2.out.below HB1.out.drew) (HS1.out.below HB1.out.drew) HR2.out.dig HR1.out.dig HR1.out.nrm (by omega) HLE.out).mono ?_; rintro e w2 ⟨v2, r, rfl, hS, hp, hb2⟩; obtain ⟨A3, c3, rfl, hc3, _⟩ := hS.shape; have HS3 := Aside0.mk hS; have HP := Aside0.mk hp; have s0 := ((bcell hb2).1 _ _ (show _ < w1.heap.size by have := HZ1.out; omega)).trans (show w1.drew.cell? ⟨w.heap.size + 1, 0, none⟩ = _ from k3); have s1 := ((bcell hb2).1 w.heap.size 1 (show _ < w1.heap.size by have := HZ1.out; omega)).trans (show w1.drew.cell? ⟨w.heap.size, 1, none⟩ = _ from k1); have s2 := ((bcell hb2).1 (w.heap.size + 1) 1 (show _ < w1.heap.size by have := HZ1.out; omega)).trans (show w1.drew.cell? ⟨w.heap.size + 1, 1, none⟩ = _ from k2); have J3 := Aside0.mk (own_far hb2 J2.out (Nat.le_refl _)); have HB2 := Aside0.mk (HB1.out.drew.trans (hb2.mono HB1.out.size) : Below w.heap.size w w2); have HZ2 := Aside0.mk (show w.heap.size + 1 + 1 < w2.heap.size from Nat.lt_of_lt_of_le HZ1.out hb2.size); clear hS hp hb2) | (go_at_call 24; refine (wide_any (fun k => (P k ∧ k < w.heap.size) ∨ w.heap.size + 1 + 1 < k) _ _ r _ (HS3.out.mono (far5 HZ1.out)) HP.out.2.1 (by have := HP.out.2.2.2; omega)).mono ?_; rintro e w3 ⟨v3, rfl, hW, hb3⟩; rw [sum_right (b := false) (c := true) rfl HR1.out HR2.out HP.out.1] at hW; obtain ⟨b4, A4, c4, l4, rfl, hS4, hR4, hl4⟩ := hW.shape; have HS4 := Aside0.mk hS4; have HR4 := Aside0.mk hR4; obtain ⟨m0, m1, mf0, mf1⟩ := struct_at (own_far hb3 J3.out (Nat.le_refl _)); have hz3 : w.heap.size + 1 + 1 < w3.heap.size := Nat.lt_of_lt_of_le HZ2.out hb3.size; have q0 := ((bcell hb3).1 _ _ (by have := HZ2.out; omega)).trans s0; have q1 := ((bcell hb3).1 w.heap.size 1 (by have := HZ2.out; omega)).trans s1; have q2 := ((bcell hb3).1 (w.heap.size + 1) 1 (by have := HZ2.out; omega)).trans s2; have HB3 := Aside0.mk (HB2.out.trans (hb3.mono HB2.out.size) : Below w.heap.size w w3); clear hS4 hR4 hW hb3))
  go_wp2_with fail
  refine bodyPost_ret (v := .agg #[.bool b4, .slice A4 l4.length c4]) (by simp [results, Tryz.results25, go_sem, m0, m1, hz3]) rfl ?_
  refine ⟨_, rfl, IsW.mk (((HS4.out.far (p := ⟨w.heap.size + 1 + 1, 0, none⟩) (far4 HZ2.out) _).far (p := ⟨w.heap.size + 1 + 1, 1, none⟩) (far4 HZ2.out) _).mono (new4 HB2.out.size)) HR4.out (by have := HP.out.2.2.2; omega), ?_⟩
  exact (HB3.out.setCell (by show w.heap.size ≤ w.heap.size + 1 + 1; omega) _).setCell (by show w.heap.size ≤ w.heap.size + 1 + 1; omega) _

set_option maxRecDepth 100000 in
set_option maxHeartbeats 4000000 in
theorem add_tge (P : Nat → Prop) (A1 A2 : Option Addr) (c1 c2 : Nat) (l1 l2 : List Int) (x y : Int) (B : Nat) (w : World) (hS1 : Sl P w (.slice A1 l1.length c1) l1) (hS2 : Sl P w (.slice A2 l2.length c2) l2) (hR1 : Rep true l1 x) (hR2 : Rep false l2 y) (hl1 : l1.length ≤ B) (hl2 : l2.length ≤ B) (hB : B ≤ 100000) (hle : mag l2 ≤ mag l1) :
    Calls Tryz.prog 25 #[.agg #[.bool true, .slice A1 l1.length c1], .agg #[.bool false, .slice A2 l2.length c2]] w (RetW P w (x + y) (B + 1)) := by
  have HS1 := Aside0.mk hS1.old
  have HS2 := Aside0.mk hS2.old
  have HR1 := Aside0.mk hR1
  have HR2 := Aside0.mk hR2
  have HB0 := Aside0.mk (Below.refl w.heap.size w)
  have HLE := Aside0.mk (show mag l2 ≤ mag l1 by omega)
  obtain ⟨q, hq, hqs⟩ : ∃ q : Int, cmpI (mag l1) (mag l2) = q ∧ 0 ≤ q := ⟨_, rfl, by unfold cmpI; rw [if_neg (by omega)]; split <;> omega⟩
  have HCM := Aside0.mk hq
  clear hS1 hS2 hR1 hR2 hle hq
  have T := Aside0.mk (three w (.cells #[.bool true, .slice A1 l1.length c1] 27) (.cells #[.bool false, .slice A2 l2.length c2] 27) (.cells #[.bool false, .slice none 0 0] 27))
  go_enter Tryz.func25, Tryz.ntmps25
  go_wp2_with (go_at_call 27; refine (magCmp_any _ _ _ l1 l2 _ (HS1.out.below (by repeat (first | (with_reducible first | exact HB0.out | apply below_alloc | apply pw_below_drewN | apply below_drew1) | exact HB0.out))) (HS2.out.below (by repeat (first | (with_reducible first | exact HB0.out | apply below_alloc | apply pw_below_drewN | apply below_drew1) | exact HB0.out))) HR1.out.dig HR2.out.dig HR1.out.nrm HR2.out.nrm (by omega)).mono ?_; rintro e w1 ⟨rfl, hb⟩; rw [HCM.out]; obtain ⟨k0, k1, _, _⟩ := struct_at (own_far hb T.out.1 (Nat.le_refl _)); obtain ⟨k3, k2, _, _⟩ := struct_at (own_far hb T.out.2.1 (Nat.le_refl _)); have J2 := Aside0.mk (own_far hb T.out.2.2 (Nat.le_refl _)); have HB1 := Aside0.mk (((by repeat (first | (with_reducible first | exact HB0.out | apply below_alloc | apply pw_below_drewN | apply below_drew1) | exact HB0.out)) : Below w.heap.size w _).trans (hb.mono (by simp <;> omega)) : Below w.heap.size w w1); have HZ1 := Aside0.mk (show w.heap.size + 1 + 1 < w1.heap.size by have := hb.size; simp at this; omega); clear hb)
  go_region_held3 (fun w' => w'.cell? ⟨w.heap.size, 0, none⟩ = some (.bool true) ∧ w'.cell? ⟨w.heap.size, 1, none⟩ = some (.slice A1 l1.length c1) ∧ w'.cell? ⟨w.heap.size + 1, 1, none⟩ = some (.slice A2 l2.length c2)) (first | exact ⟨k0, k1, k2⟩ | exact ⟨s0, s1, s2⟩ | exact ⟨q0, q1, q2⟩ | exact keep3 q0 q1 q2 | (go_keep; done)) (first | (go_at_call 50; refine (magSub_any (fun k => P k ∧ k < w.heap.size) _ _ l1 l2 _ (HS1.out.below HB1.out.drew) (HS2.out.below HB1.out.drew) HR1.out.dig HR2.out.dig HR2.out.nrm (by omega) HLE.out).mono ?_; rintro e w2 ⟨v2, r, rfl, hS, hp, hb2⟩; obtain ⟨A3, c3, rfl, hc3, _⟩ := hS.shape; have HS3 := Aside0.mk hS; have HP := Aside0.mk hp; have s0 := ((bcell hb2).1 _ _ (show _ < w1.heap.size by have := HZ1.out; omega)).trans (show w1.drew.cell? ⟨w.heap.size, 0, none⟩ = _ from k0); have s1 := ((bcell hb2).1 w.heap.size 1 (show _ < w1.heap.size by have := HZ1.out; omega)).trans (show w1.drew.cell? ⟨w.heap.size, 1, none⟩ = _ from k1); have s2 := ((bcell hb2).1 (w.heap.size + 1) 1 (show _ < w1.heap.size by have := HZ1.out; omega)).trans (show w1.drew.cell? ⟨w.heap.size + 1, 1, none⟩ = _ from k2); have J3 := Aside0.mk (own_far hb2 J2.out (Nat.le_refl _)); have HB2 := Aside0.mk (HB1.out.drew.trans (hb2.mono HB1.out.size) : Below w.heap.size w w2); have HZ2 := Aside0.mk (show w.heap.size + 1 + 1 < w2.heap.size from Nat.lt_of_lt_of_le HZ1.out hb2.size); clear hS hp hb2) | (go_at_call 24; refine (wide_any (fun k => (P k ∧ k < w.heap.size) ∨ w.heap.size + 1 + 1 < k) _ _ r _ (HS3.out.mono (far5 HZ1.out)) HP.out.2.1 (by have := HP.out.2.2.2; omega)).mono ?_; rintro e w3 ⟨v3, rfl, hW, hb3⟩; rw [sum_left (b := true) (c := false) rfl HR1.out HR2.out HP.out.1] at hW; obtain ⟨b4, A4, c4, l4, rfl, hS4, hR4, hl4⟩ := hW.shape; have HS4 := Aside0.mk hS4; have HR4 := Aside0.mk hR4; obtain ⟨m0, m1, mf0, mf1⟩ := struct_at (own_far hb3 J3.out (Nat.le_refl _)); have hz3 : w.heap.size + 1 + 1 < w3.heap.size := Nat.lt_of_lt_of_le HZ2.out hb3.size; have q0 := ((bcell hb3).1 _ _ (by have := HZ2.out; omega)).trans s0; have q1 := ((bcell hb3).1 w.heap.size 1 (by have := HZ2.out; omega)).trans s1; have q2 := ((bcell hb3).1 (w.heap.size + 1) 1 (by have := HZ2.out; omega)).trans s2; have HB3 := Aside0.mk (HB2.out.trans (hb3.mono HB2.out.size) : Below w.heap.size w w3); clear hS4 hR4 hW hb3))
  go_wp2_with fail
  refine bodyPost_ret (v := .agg #[.bool b4, .slice A4 l4.length c4]) (by simp [results, Tryz.results25, go_sem, m0, m1, hz3]) rfl ?_
  refine ⟨_, rfl, IsW.mk (((HS4.out.far (p := ⟨w.heap.size + 1 + 1, 0, none⟩) (far4 HZ2.out) _).far (p := ⟨w.heap.size + 1 + 1, 1, none⟩) (far4 HZ2.out) _).mono (new4 HB2.out.size)) HR4.out (by have := HP.out.2.2.2; omega), ?_⟩
  exact (HB3.out.setCell (by show w.heap.size ≤ w.heap.size + 1 + 1; omega) _).setCell (by show w.heap.size ≤ w.heap.size + 1 + 1; omega) _

set_option maxRecDepth 100000 in
set_option maxHeartbeats 4000000 in
theorem add_tlt (P : Nat → Prop) (A1 A2 : Option Addr) (c1 c2 : Nat) (l1 l2 : List Int) (x y : Int) (B : Nat) (w : World) (hS1 : Sl P w (.slice A1 l1.length c1) l1) (hS2 : Sl P w (.slice A2 l2.length c2) l2) (hR1 : Rep true l1 x) (hR2 : Rep false l2 y) (hl1 : l1.length ≤ B) (hl2 : l2.length ≤ B) (hB : B ≤ 100000) (hle : mag l1 < mag l2) :
    Calls Tryz.prog 25 #[.agg #[.bool true, .slice A1 l1.length c1], .agg #[.bool false, .slice A2 l2.length c2]] w (RetW P w (x + y) (B + 1)) := by
  have HS1 := Aside0.mk hS1.old
  have HS2 := Aside0.mk hS2.old
  have HR1 := Aside0.mk hR1
  have HR2 := Aside0.mk hR2
  have HB0 := Aside0.mk (Below.refl w.heap.size w)
  have HLE := Aside0.mk (show mag l1 ≤ mag l2 by omega)
  obtain ⟨q, hq, hqs⟩ : ∃ q : Int, cmpI (mag l1) (mag l2) = q ∧ q < 0 := ⟨_, rfl, by unfold cmpI; rw [if_pos (by omega)]; omega⟩
  have HCM := Aside0.mk hq
  clear hS1 hS2 hR1 hR2 hle hq
  have T := Aside0.mk (three w (.cells #[.bool true, .slice A1 l1.length c1] 27) (.cells #[.bool false, .slice A2 l2.length c2] 27) (.cells #[.bool false, .slice none 0 0] 27))
  go_enter Tryz.func25, Tryz.ntmps25
  go_wp2_with (go_at_call 27; refine (magCmp_any _ _ _ l1 l2 _ (HS1.out.below (by repeat (first | (with_reducible first | exact HB0.out | apply below_alloc | apply pw_below_drewN | apply below_drew1) | exact HB0.out))) (HS2.out.below (by repeat (first | (with_reducible first | exact HB0.out | apply below_alloc | apply pw_below_drewN | apply below_drew1) | exact HB0.out))) HR1.out.dig HR2.out.dig HR1.out.nrm HR2.out.nrm (by omega)).mono ?_; rintro e w1 ⟨rfl, hb⟩; rw [HCM.out]; obtain ⟨k0, k1, _, _⟩ := struct_at (own_far hb T.out.1 (Nat.le_refl _)); obtain ⟨k3, k2, _, _⟩ := struct_at (own_far hb T.out.2.1 (Nat.le_refl _)); have J2 := Aside0.mk (own_far hb T.out.2.2 (Nat.le_refl _)); have HB1 := Aside0.mk (((by repeat (first | (with_reducible first | exact HB0.out | apply below_alloc | apply pw_below_drewN | apply below_drew1) | exact HB0.out)) : Below w.heap.size w _).trans (hb.mono (by simp <;> omega)) : Below w.heap.size w w1); have HZ1 := Aside0.mk (show w.heap.size + 1 + 1 < w1.heap.size by have := hb.size; simp at this; omega); clear hb)
  go_region_held3 (fun w' => w'.cell? ⟨w.heap.size + 1, 0, none⟩ = some (.bool false) ∧ w'.cell? ⟨w.heap.size, 1, none⟩ = some (.slice A1 l1.length c1) ∧ w'.cell? ⟨w.heap.size + 1, 1, none⟩ = some (.slice A2 l2.length c2)) (first | exact ⟨k3, k1, k2⟩ | exact ⟨s0, s1, s2⟩ | exact ⟨q0, q1, q2⟩ | exact keep4 q0 q1 q2 | (go_keep; done)) (first | (go_at_call 50; refine (magSub_any (fun k => P k ∧ k < w.heap.size) _ _ l2 l1 _ (HS2.out.below HB1.out.drew) (HS1.out.below HB1.out.drew) HR2.out.dig HR1.out.dig HR1.out.nrm (by omega) HLE.out).mono ?_; rintro e w2 ⟨v2, r, rfl, hS, hp, hb2⟩; obtain ⟨A3, c3, rfl, hc3, _⟩ := hS.shape; have HS3 := Aside0.mk hS; have HP := Aside0.mk hp; have s0 := ((bcell hb2).1 _ _ (show _ < w1.heap.size by have := HZ1.out; omega)).trans (show w1.drew.cell? ⟨w.heap.size + 1, 0, none⟩ = _ from k3); have s1 := ((bcell hb2).1 w.heap.size 1 (show _ < w1.heap.size by have := HZ1.out; omega)).trans (show w1.drew.cell? ⟨w.heap.size, 1, none⟩ = _ from k1); have s2 := ((bcell hb2).1 (w.heap.size + 1) 1 (show _ < w1.heap.size by have := HZ1.out; omega)).trans (show w1.drew.cell? ⟨w.heap.size + 1, 1, none⟩ = _ from k2); have J3 := Aside0.mk (own_far hb2 J2.out (Nat.le_refl _)); have HB2 := Aside0.mk (HB1.out.drew.trans (hb2.mono HB1.out.size) : Below w.heap.size w w2); have HZ2 := Aside0.mk (show w.heap.size + 1 + 1 < w2.heap.size from Nat.lt_of_lt_of_le HZ1.out hb2.size); clear hS hp hb2) | (go_at_call 24; refine (wide_any (fun k => (P k ∧ k < w.heap.size) ∨ w.heap.size + 1 + 1 < k) _ _ r _ (HS3.out.mono (far5 HZ1.out)) HP.out.2.1 (by have := HP.out.2.2.2; omega)).mono ?_; rintro e w3 ⟨v3, rfl, hW, hb3⟩; rw [sum_right (b := true) (c := false) rfl HR1.out HR2.out HP.out.1] at hW; obtain ⟨b4, A4, c4, l4, rfl, hS4, hR4, hl4⟩ := hW.shape; have HS4 := Aside0.mk hS4; have HR4 := Aside0.mk hR4; obtain ⟨m0, m1, mf0, mf1⟩ := struct_at (own_far hb3 J3.out (Nat.le_refl _)); have hz3 : w.heap.size + 1 + 1 < w3.heap.size := Nat.lt_of_lt_of_le HZ2.out hb3.size; have q0 := ((bcell hb3).1 _ _ (by have := HZ2.out; omega)).trans s0; have q1 := ((bcell hb3).1 w.heap.size 1 (by have := HZ2.out; omega)).trans s1; have q2 := ((bcell hb3).1 (w.heap.size + 1) 1 (by have := HZ2.out; omega)).trans s2; have HB3 := Aside0.mk (HB2.out.trans (hb3.mono HB2.out.size) : Below w.heap.size w w3); clear hS4 hR4 hW hb3))
  go_wp2_with fail
  refine bodyPost_ret (v := .agg #[.bool b4, .slice A4 l4.length c4]) (by simp [results, Tryz.results25, go_sem, m0, m1, hz3]) rfl ?_
  refine ⟨_, rfl, IsW.mk (((HS4.out.far (p := ⟨w.heap.size + 1 + 1, 0, none⟩) (far4 HZ2.out) _).far (p := ⟨w.heap.size + 1 + 1, 1, none⟩) (far4 HZ2.out) _).mono (new4 HB2.out.size)) HR4.out (by have := HP.out.2.2.2; omega), ?_⟩
  exact (HB3.out.setCell (by show w.heap.size ≤ w.heap.size + 1 + 1; omega) _).setCell (by show w.heap.size ≤ w.heap.size + 1 + 1; omega) _

theorem WideAdd_any (P : Nat → Prop) (v1 v2 : Value) (x y : Int) (B : Nat) (w : World) (h1 : IsW P w v1 x B) (h2 : IsW P w v2 y B) (hB : B ≤ 100000) :
    Calls Tryz.prog 25 #[v1, v2] w (RetW P w (x + y) (B + 1)) := by
  obtain ⟨b1, A1, c1, l1, rfl, hS1, hR1, hl1⟩ := h1.shape
  obtain ⟨b2, A2, c2, l2, rfl, hS2, hR2, hl2⟩ := h2.shape
  cases b1 <;> cases b2
  · exact add_same P false A1 A2 c1 c2 l1 l2 x y B w hS1 hS2 hR1 hR2 hl1 hl2 hB
  · rcases Int.lt_or_le (mag l1) (mag l2) with h | h
    · exact add_flt P A1 A2 c1 c2 l1 l2 x y B w hS1 hS2 hR1 hR2 hl1 hl2 hB h
    · exact add_fge P A1 A2 c1 c2 l1 l2 x y B w hS1 hS2 hR1 hR2 hl1 hl2 hB h
  · rcases Int.lt_or_le (mag l1) (mag l2) with h | h
    · exact add_tlt P A1 A2 c1 c2 l1 l2 x y B w hS1 hS2 hR1 hR2 hl1 hl2 hB h
    · exact add_tge P A1 A2 c1 c2 l1 l2 x y B w hS1 hS2 hR1 hR2 hl1 hl2 hB h
  · exact add_same P true A1 A2 c1 c2 l1 l2 x y B w hS1 hS2 hR1 hR2 hl1 hl2 hB

end Go.Proofs.YtlhfmbpijcniaaaGreat.WidemagDiv
