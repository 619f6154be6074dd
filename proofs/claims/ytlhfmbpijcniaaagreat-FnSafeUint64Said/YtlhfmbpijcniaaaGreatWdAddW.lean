/- Sums and differences of integers of any size: the walks. No condition beyond small lengths. -/
import Derived.Test.YtlhfmbpijcniaaaGreatWdSub
import Derived.Deep.RegionHeld3
namespace Go.Proofs.YtlhfmbpijcniaaaGreat.WidemagDiv
open Go.RowKit Go.Proofs.YtlhfmbpijcniaaaGreat.PmagDiv Go.Proofs.YtlhfmbpijcniaaaGreatW.PrintWords Go.Proofs.YtlhfmbpijcniaaaGreatW.PrintLast Go.Proofs.YtlhfmbpijcniaaaGreatW.PrintMore
set_option linter.unusedVariables false
set_option linter.unusedSimpArgs false

theorem sum_same {b : Bool} {l1 l2 r : List Int} {x y : Int} (h1 : Rep b l1 x) (h2 : Rep b l2 y) (hr : mag r = mag l1 + mag l2) : (if b = true then - mag r else mag r) = x + y := by
  cases b with
  | true => have := (h1.neg rfl).1; have := (h2.neg rfl).1; rw [if_pos rfl]; omega
  | false => have := h1.pos rfl; have := h2.pos rfl; rw [if_neg (by simp)]; omega
theorem sum_left {b c : Bool} {l1 l2 r : List Int} {x y : Int} (hc : c = !b) (h1 : Rep b l1 x) (h2 : Rep c l2 y) (hr : mag r = mag l1 - mag l2) : (if b = true then - mag r else mag r) = x + y := by
  subst hc
  cases b with
  | true => have := (h1.neg rfl).1; have := h2.pos rfl; rw [if_pos rfl]; omega
  | false => have := h1.pos rfl; have := (h2.neg rfl).1; rw [if_neg (by simp)]; omega
theorem sum_right {b c : Bool} {l1 l2 r : List Int} {x y : Int} (hc : c = !b) (h1 : Rep b l1 x) (h2 : Rep c l2 y) (hr : mag r = mag l2 - mag l1) : (if c = true then - mag r else mag r) = x + y := by
  subst hc
  cases b with
  | true => have := (h1.neg rfl).1; have := h2.pos rfl; rw [if_neg (by simp)]; omega
  | false => have := h1.pos rfl; have := (h2.neg rfl).1; simp; omega
theorem own_far {w w1 : World} {g : Nat} {o : Obj} {N : Nat} (hb : Below N w w1) (h : w.heap[g]? = some o) (hN : w.heap.size ≤ N) : w1.heap[g]? = some o := (hb.block g (Nat.lt_of_lt_of_le (Array.getElem?_eq_some_iff.1 h).1 hN)).trans h
theorem three (w : World) (o1 o2 o3 : Obj) : (((w.alloc o1).alloc o2).alloc o3).heap[w.heap.size]? = some o1 ∧ (((w.alloc o1).alloc o2).alloc o3).heap[w.heap.size + 1]? = some o2 ∧ (((w.alloc o1).alloc o2).alloc o3).heap[w.heap.size + 1 + 1]? = some o3 := by
  have h1 := heap_alloc_new w o1
  have h2 := heap_alloc_new (w.alloc o1) o2
  have h3 := heap_alloc_new ((w.alloc o1).alloc o2) o3
  have e1 := Below.heap_alloc (w.alloc o1) o2 w.heap.size (by simp)
  have e2 := Below.heap_alloc ((w.alloc o1).alloc o2) o3 w.heap.size (by simp; omega)
  have e3 := Below.heap_alloc ((w.alloc o1).alloc o2) o3 (w.heap.size + 1) (by simp)
  refine ⟨e2.trans (e1.trans h1), ?_, ?_⟩
  · rw [e3]; simpa using h2
  · simpa using h3
theorem keep3 {w2 : World} {n : Nat} {x y z u v : Value} (q0 : w2.cell? ⟨n, 0, none⟩ = some x) (q1 : w2.cell? ⟨n, 1, none⟩ = some y) (q2 : w2.cell? ⟨n + 1, 1, none⟩ = some z) :
    ((w2.setCell ⟨n + 1 + 1, 0, none⟩ u).setCell ⟨n + 1 + 1, 1, none⟩ v).cell? ⟨n, 0, none⟩ = some x ∧ ((w2.setCell ⟨n + 1 + 1, 0, none⟩ u).setCell ⟨n + 1 + 1, 1, none⟩ v).cell? ⟨n, 1, none⟩ = some y ∧ ((w2.setCell ⟨n + 1 + 1, 0, none⟩ u).setCell ⟨n + 1 + 1, 1, none⟩ v).cell? ⟨n + 1, 1, none⟩ = some z := by
  refine ⟨?_, ?_, ?_⟩
  · rw [World.cell?_setCell_other _ _ _ _ (by simp), World.cell?_setCell_other _ _ _ _ (by simp)]; exact q0
  · rw [World.cell?_setCell_other _ _ _ _ (by simp), World.cell?_setCell_other _ _ _ _ (by simp)]; exact q1
  · rw [World.cell?_setCell_other _ _ _ _ (by simp), World.cell?_setCell_other _ _ _ _ (by simp)]; exact q2
theorem near3 {P : Nat → Prop} {w : World} {o1 o2 o3 : Obj} : ∀ k, ((P k ∧ k < w.heap.size) ∨ (((w.alloc o1).alloc o2).alloc o3).heap.size ≤ k) → (P k ∧ k < w.heap.size) ∨ w.heap.size + 1 + 1 < k := by
  rintro k (h | h)
  · exact .inl h
  · simp at h; exact .inr (by omega)
theorem far4 {P : Nat → Prop} {n m : Nat} (hm : n + 1 + 1 < m) : ∀ k, (((P k ∧ k < n) ∨ n + 1 + 1 < k) ∨ m ≤ k) → k ≠ n + 1 + 1 := by
  rintro k ((⟨_, h⟩ | h) | h) <;> omega
theorem new4 {P : Nat → Prop} {n m : Nat} (hm : n ≤ m) : ∀ k, (((P k ∧ k < n) ∨ n + 1 + 1 < k) ∨ m ≤ k) → P k ∨ n ≤ k := by
  rintro k ((⟨h, _⟩ | h) | h)
  · exact .inl h
  · exact .inr (by omega)
  · exact .inr (by omega)
set_option maxRecDepth 100000 in
set_option maxHeartbeats 4000000 in
theorem add_same (P : Nat → Prop) (b : Bool) (A1 A2 : Option Addr) (c1 c2 : Nat) (l1 l2 : List Int) (x y : Int) (B : Nat) (w : World) (hS1 : Sl P w (.slice A1 l1.length c1) l1) (hS2 : Sl P w (.slice A2 l2.length c2) l2) (hR1 : Rep b l1 x) (hR2 : Rep b l2 y) (hl1 : l1.length ≤ B) (hl2 : l2.length ≤ B) (hB : B ≤ 100000) :
    Calls Tryz.prog 25 #[.agg #[.bool b, .slice A1 l1.length c1], .agg #[.bool b, .slice A2 l2.length c2]] w (RetW P w (x + y) (B + 1)) := by
  have HS1 := Aside0.mk hS1.old
  have HS2 := Aside0.mk hS2.old
  have HR1 := Aside0.mk hR1
  have HR2 := Aside0.mk hR2
  have HB0 := Aside0.mk (Below.refl w.heap.size w)
  clear hS1 hS2 hR1 hR2
  have T := Aside0.mk (three w (.cells #[.bool b, .slice A1 l1.length c1] 27) (.cells #[.bool b, .slice A2 l2.length c2] 27) (.cells #[.bool false, .slice none 0 0] 27))
  cases b
  · go_enter Tryz.func25, Tryz.ntmps25
    go_wp2_with fail
    go_region_held3 (fun w' => w'.cell? ⟨w.heap.size, 0, none⟩ = some (.bool false) ∧ w'.cell? ⟨w.heap.size, 1, none⟩ = some (.slice A1 l1.length c1) ∧ w'.cell? ⟨w.heap.size + 1, 1, none⟩ = some (.slice A2 l2.length c2)) (first | exact ⟨k0, k1, k2⟩ | exact ⟨q0, q1, q2⟩ | exact keep3 q0 q1 q2 | (go_keep; done)) (first | (go_at_call 49; refine (magAdd_any (fun k => P k ∧ k < w.heap.size) B _ _ l1 l2 _ (HS1.out.below (by repeat (first | (with_reducible first | exact HB0.out | apply below_alloc | apply pw_below_drewN | apply below_drew1) | exact HB0.out))) (HS2.out.below (by repeat (first | (with_reducible first | exact HB0.out | apply below_alloc | apply pw_below_drewN | apply below_drew1) | exact HB0.out))) HR1.out.dig HR2.out.dig hl1 hl2 (by omega)).mono ?_; rintro e w1 ⟨v1, r, rfl, hS, hp, hb⟩; obtain ⟨A3, c3, rfl, hc3, _⟩ := hS.shape; have HS3 := Aside0.mk hS; have HP := Aside0.mk hp; obtain ⟨k0, k1, _, _⟩ := struct_at (own_far hb T.out.1 (Nat.le_refl _)); obtain ⟨_, k2, _, _⟩ := struct_at (own_far hb T.out.2.1 (Nat.le_refl _)); have J2 := Aside0.mk (own_far hb T.out.2.2 (Nat.le_refl _)); have HB1 := Aside0.mk (((by repeat (first | (with_reducible first | exact HB0.out | apply below_alloc | apply pw_below_drewN | apply below_drew1) | exact HB0.out)) : Below w.heap.size w _).trans (hb.mono (by simp <;> omega)) : Below w.heap.size w w1); have HZ1 := Aside0.mk (show w.heap.size + 1 + 1 < w1.heap.size by have := hb.size; simp at this; omega); clear hS hp hb) | (go_at_call 24; refine (wide_any (fun k => (P k ∧ k < w.heap.size) ∨ w.heap.size + 1 + 1 < k) _ _ r _ (HS3.out.mono near3) HP.out.2.1 (by have := HP.out.2.2; omega)).mono ?_; rintro e w2 ⟨v2, rfl, hW, hb2⟩; rw [sum_same HR1.out HR2.out HP.out.1] at hW; obtain ⟨b4, A4, c4, l4, rfl, hS4, hR4, hl4⟩ := hW.shape; have HS4 := Aside0.mk hS4; have HR4 := Aside0.mk hR4; obtain ⟨m0, m1, mf0, mf1⟩ := struct_at (own_far hb2 J2.out (Nat.le_refl _)); have hz2 : w.heap.size + 1 + 1 < w2.heap.size := Nat.lt_of_lt_of_le HZ1.out hb2.size; have q0 := ((bcell hb2).1 w.heap.size 0 (by have := HZ1.out; omega)).trans k0; have q1 := ((bcell hb2).1 w.heap.size 1 (by have := HZ1.out; omega)).trans k1; have q2 := ((bcell hb2).1 (w.heap.size + 1) 1 (by have := HZ1.out; omega)).trans k2; have HB2 := Aside0.mk (HB1.out.trans (hb2.mono HB1.out.size) : Below w.heap.size w w2); have HZW := Aside0.mk hb2.size; clear hS4 hR4 hW hb2))
    go_wp2_with fail
    refine bodyPost_ret (v := .agg #[.bool b4, .slice A4 l4.length c4]) (by simp [results, Tryz.results25, go_sem, m0, m1, hz2]) rfl ?_
    refine ⟨_, rfl, IsW.mk (((HS4.out.far (p := ⟨w.heap.size + 1 + 1, 0, none⟩) (far4 HZ1.out) _).far (p := ⟨w.heap.size + 1 + 1, 1, none⟩) (far4 HZ1.out) _).mono (new4 HB1.out.size)) HR4.out (by have := HP.out.2.2; omega), ?_⟩
    exact (HB2.out.setCell (by show w.heap.size ≤ w.heap.size + 1 + 1; omega) _).setCell (by show w.heap.size ≤ w.heap.size + 1 + 1; omega) _
  · go_enter Tryz.func25, Tryz.ntmps25
    go_wp2_with fail
    go_region_held3 (fun w' => w'.cell? ⟨w.heap.size, 0, none⟩ = some (.bool true) ∧ w'.cell? ⟨w.heap.size, 1, none⟩ = some (.slice A1 l1.length c1) ∧ w'.cell? ⟨w.heap.size + 1, 1, none⟩ = some (.slice A2 l2.length c2)) (first | exact ⟨k0, k1, k2⟩ | exact ⟨q0, q1, q2⟩ | exact keep3 q0 q1 q2 | (go_keep; done)) (first | (go_at_call 49; refine (magAdd_any (fun k => P k ∧ k < w.heap.size) B _ _ l1 l2 _ (HS1.out.below (by repeat (first | (with_reducible first | exact HB0.out | apply below_alloc | apply pw_below_drewN | apply below_drew1) | exact HB0.out))) (HS2.out.below (by repeat (first | (with_reducible first | exact HB0.out | apply below_alloc | apply pw_below_drewN | apply below_drew1) | exact HB0.out))) HR1.out.dig HR2.out.dig hl1 hl2 (by omega)).mono ?_; rintro e w1 ⟨v1, r, rfl, hS, hp, hb⟩; obtain ⟨A3, c3, rfl, hc3, _⟩ := hS.shape; have HS3 := Aside0.mk hS; have HP := Aside0.mk hp; obtain ⟨k0, k1, _, _⟩ := struct_at (own_far hb T.out.1 (Nat.le_refl _)); obtain ⟨_, k2, _, _⟩ := struct_at (own_far hb T.out.2.1 (Nat.le_refl _)); have J2 := Aside0.mk (own_far hb T.out.2.2 (Nat.le_refl _)); have HB1 := Aside0.mk (((by repeat (first | (with_reducible first | exact HB0.out | apply below_alloc | apply pw_below_drewN | apply below_drew1) | exact HB0.out)) : Below w.heap.size w _).trans (hb.mono (by simp <;> omega)) : Below w.heap.size w w1); have HZ1 := Aside0.mk (show w.heap.size + 1 + 1 < w1.heap.size by have := hb.size; simp at this; omega); clear hS hp hb) | (go_at_call 24; refine (wide_any (fun k => (P k ∧ k < w.heap.size) ∨ w.heap.size + 1 + 1 < k) _ _ r _ (HS3.out.mono near3) HP.out.2.1 (by have := HP.out.2.2; omega)).mono ?_; rintro e w2 ⟨v2, rfl, hW, hb2⟩; rw [sum_same HR1.out HR2.out HP.out.1] at hW; obtain ⟨b4, A4, c4, l4, rfl, hS4, hR4, hl4⟩ := hW.shape; have HS4 := Aside0.mk hS4; have HR4 := Aside0.mk hR4; obtain ⟨m0, m1, mf0, mf1⟩ := struct_at (own_far hb2 J2.out (Nat.le_refl _)); have hz2 : w.heap.size + 1 + 1 < w2.heap.size := Nat.lt_of_lt_of_le HZ1.out hb2.size; have q0 := ((bcell hb2).1 w.heap.size 0 (by have := HZ1.out; omega)).trans k0; have q1 := ((bcell hb2).1 w.heap.size 1 (by have := HZ1.out; omega)).trans k1; have q2 := ((bcell hb2).1 (w.heap.size + 1) 1 (by have := HZ1.out; omega)).trans k2; have HB2 := Aside0.mk (HB1.out.trans (hb2.mono HB1.out.size) : Below w.heap.size w w2); have HZW := Aside0.mk hb2.size; clear hS4 hR4 hW hb2))
    go_wp2_with fail
    refine bodyPost_ret (v := .agg #[.bool b4, .slice A4 l4.length c4]) (by simp [results, Tryz.results25, go_sem, m0, m1, hz2]) rfl ?_
    refine ⟨_, rfl, IsW.mk (((HS4.out.far (p := ⟨w.heap.size + 1 + 1, 0, none⟩) (far4 HZ1.out) _).far (p := ⟨w.heap.size + 1 + 1, 1, none⟩) (far4 HZ1.out) _).mono (new4 HB1.out.size)) HR4.out (by have := HP.out.2.2; omega), ?_⟩
    exact (HB2.out.setCell (by show w.heap.size ≤ w.heap.size + 1 + 1; omega) _).setCell (by show w.heap.size ≤ w.heap.size + 1 + 1; omega) _

end Go.Proofs.YtlhfmbpijcniaaaGreat.WidemagDiv
