/- Integers divided by integers where the first is negative and the second is not: what is left. -/
import Derived.Test.YtipnmcnacgmmnaaWdDiv
namespace Go.Proofs.Ytipnmcnacgmmnaa.WidemagDiv
open Go.RowKit Go.Proofs.Ytipnmcnacgmmnaa.PmagDiv Go.Proofs.YtipnmcnacgmmnaaW.PrintWords Go.Proofs.YtipnmcnacgmmnaaW.PrintLast Go.Proofs.YtipnmcnacgmmnaaW.PrintMore
set_option linter.unusedVariables false
set_option linter.unusedSimpArgs false

theorem four (w : World) (o1 o2 o3 o4 : Obj) : ((((w.alloc o1).alloc o2).alloc o3).alloc o4).heap[w.heap.size]? = some o1 ∧ ((((w.alloc o1).alloc o2).alloc o3).alloc o4).heap[w.heap.size + 1]? = some o2 ∧ ((((w.alloc o1).alloc o2).alloc o3).alloc o4).heap[w.heap.size + 1 + 1]? = some o3 ∧ ((((w.alloc o1).alloc o2).alloc o3).alloc o4).heap[w.heap.size + 1 + 1 + 1]? = some o4 := by
  obtain ⟨h1, h2, h3⟩ := three w o1 o2 o3
  have h4 := heap_alloc_new (((w.alloc o1).alloc o2).alloc o3) o4
  have e1 := Below.heap_alloc (((w.alloc o1).alloc o2).alloc o3) o4 w.heap.size (by simp <;> omega)
  have e2 := Below.heap_alloc (((w.alloc o1).alloc o2).alloc o3) o4 (w.heap.size + 1) (by simp <;> omega)
  have e3 := Below.heap_alloc (((w.alloc o1).alloc o2).alloc o3) o4 (w.heap.size + 1 + 1) (by simp)
  exact ⟨e1.trans h1, e2.trans h2, e3.trans h3, by simpa using h4⟩
def RetDiv (P : Nat → Prop) (w : World) (z : Int) (B : Nat) (e : Ending) (w' : World) : Prop :=
  ∃ v1 v2 b A c n, e = .returned (.tuple #[v1, v2]) ∧ v1 = .agg #[.bool b, .slice A n c] ∧ IsW (fun k => P k ∨ w.heap.size ≤ k) w' v2 z B ∧ Below w.heap.size w w'
theorem neg_left {l1 l2 r : List Int} {x y : Int} (h1 : Rep true l1 x) (h2 : Rep false l2 y) (hr : mag r = mag l1 % mag l2) : (if true = true then - mag r else mag r) = -((-x) % y) := by
  have p1 := (h1.neg rfl).1
  have p2 := h2.pos rfl
  rw [if_pos rfl, hr, p2, p1]
  simp
theorem keep_st {w : World} {g h : Nat} {x u v : Value} (hne : g ≠ h) (q : w.cell? ⟨g, 0, none⟩ = some x) : ((w.setCell ⟨h, 0, none⟩ u).setCell ⟨h, 1, none⟩ v).cell? ⟨g, 0, none⟩ = some x := by
  rw [World.cell?_setCell_other _ _ _ _ (by simp <;> omega), World.cell?_setCell_other _ _ _ _ (by simp <;> omega)]
  exact q
def PF (P : Nat → Prop) (n k : Nat) : Prop := (P k ∧ k < n) ∨ n + 1 + 1 + 1 < k
theorem pf_new {P : Nat → Prop} {n m : Nat} (h : n + 1 + 1 + 1 < m) : ∀ k, (PF P n k ∨ m ≤ k) → PF P n k := by
  rintro k (h1 | h1)
  · exact h1
  · exact .inr (by omega)
theorem pf_ne {P : Nat → Prop} {n g : Nat} (h0 : n ≤ g) (h : g ≤ n + 1 + 1 + 1) : ∀ k, PF P n k → k ≠ g := by
  rintro k (⟨_, h1⟩ | h1) <;> omega
theorem pf_old {P : Nat → Prop} {n : Nat} : ∀ k, PF P n k → P k ∨ n ≤ k := by
  rintro k (⟨h, _⟩ | h)
  · exact .inl h
  · exact .inr (by omega)

set_option maxRecDepth 100000 in
set_option maxHeartbeats 4000000 in
theorem WideDiv_neg (P : Nat → Prop) (va vb : Value) (x y : Int) (B : Nat) (w : World) (ha : IsW P w va x B) (hb : IsW P w vb y B) (hx : x < 0) (hy : 0 < y) (hB : B ≤ 1000) :
    Calls Try.prog 31 #[va, vb] w (RetDiv P w (-((-x) % y)) B) := by
  obtain ⟨b1, A1, c1, l1, rfl, hS1, hR1, hl1⟩ := ha.shape
  obtain ⟨b2, A2, c2, l2, rfl, hS2, hR2, hl2⟩ := hb.shape
  obtain rfl : b1 = true := by
    cases b1 with
    | true => rfl
    | false => have := hR1.pos_le rfl; omega
  obtain rfl : b2 = false := by
    cases b2 with
    | false => rfl
    | true => have := hR2.neg_lt rfl; omega
  have HS1 := Aside0.mk (hS1.old.mono (Q := PF P w.heap.size) fun _ h => .inl h)
  have HS2 := Aside0.mk (hS2.old.mono (Q := PF P w.heap.size) fun _ h => .inl h)
  have HR1 := Aside0.mk hR1
  have HR2 := Aside0.mk hR2
  have HY := Aside0.mk (show 0 < mag l2 by have := hR2.pos rfl; omega)
  have HB0 := Aside0.mk (Below.refl w.heap.size w)
  clear hS1 hS2 hR1 hR2 ha hb
  have T := Aside0.mk (four w (.cells #[.bool true, .slice A1 l1.length c1] 25) (.cells #[.bool false, .slice A2 l2.length c2] 25) (.cells #[.bool false, .slice none 0 0] 25) (.cells #[.bool false, .slice none 0 0] 25))
  go_enter Try.func31, Try.ntmps31
  go_wp2_with (go_at_call 37; refine (magDiv_any (PF P w.heap.size) _ _ _ _ l1 l2 _ (HS1.out.below (by repeat (first | (with_reducible first | exact HB0.out | apply below_alloc | apply pw_below_drewN | apply below_drew1) | exact HB0.out))) (HS2.out.below (by repeat (first | (with_reducible first | exact HB0.out | apply below_alloc | apply pw_below_drewN | apply below_drew1) | exact HB0.out))) HR1.out.dig HR2.out.dig HR2.out.nrm HY.out (by omega) (by omega)).mono ?_; rintro e w1 ⟨v1, v2, q, r, rfl, hSq, hSr, hq, hr, hb⟩; obtain ⟨A3, c3, rfl, hc3, _⟩ := hSq.shape; obtain ⟨A4, c4, rfl, hc4, _⟩ := hSr.shape; have HSQ := Aside0.mk (hSq.mono (pf_new (by simp <;> omega))); have HSR := Aside0.mk (hSr.mono (pf_new (by simp <;> omega))); have HQ := Aside0.mk hq; have HR := Aside0.mk hr; obtain ⟨k0, k1, _, _⟩ := struct_at (own_far hb T.out.1 (Nat.le_refl _)); obtain ⟨k2, k3, _, _⟩ := struct_at (own_far hb T.out.2.1 (Nat.le_refl _)); have J2 := Aside0.mk (own_far hb T.out.2.2.1 (Nat.le_refl _)); have J3 := Aside0.mk (own_far hb T.out.2.2.2 (Nat.le_refl _)); have HB1 := Aside0.mk (((by repeat (first | (with_reducible first | exact HB0.out | apply below_alloc | apply pw_below_drewN | apply below_drew1) | exact HB0.out)) : Below w.heap.size w _).trans (hb.mono (by simp <;> omega)) : Below w.heap.size w w1); have HZ1 := Aside0.mk (show w.heap.size + 1 + 1 + 1 < w1.heap.size by have := hb.size; simp at this; omega); clear hSq hSr hq hr hb)
  go_region_held3 (fun w' => w'.cell? ⟨w.heap.size, 0, none⟩ = some (.bool true) ∧ w'.cell? ⟨w.heap.size + 1, 0, none⟩ = some (.bool false)) (first | exact ⟨k0, k2⟩ | exact ⟨q0, q1⟩ | exact ⟨s0, s1⟩ | exact ⟨keep_st (by omega) s0, keep_st (by omega) s1⟩ | exact ⟨keep_st (by omega) (keep_st (by omega) s0), keep_st (by omega) (keep_st (by omega) s1)⟩ | (go_keep; done)) (first
    | (go_at_call 22; have hj := J2.out; refine (wide_any (PF P w.heap.size) true _ q _ (HSQ.out.below (Below.refl _ _).drew) HQ.out.1 (by have := HQ.out.2; omega)).mono ?_; rintro e w2 ⟨v3, rfl, hW, hb2⟩; obtain ⟨b5, A5, c5, l5, rfl, hS5, hR5, hl5⟩ := hW.shape; have HSR2 := Aside0.mk (HSR.out.below ((Below.refl _ _).drew.trans hb2)); have q0 := ((bcell hb2).1 w.heap.size 0 (show _ < w1.heap.size by have := HZ1.out; omega)).trans (show w1.drew.cell? ⟨w.heap.size, 0, none⟩ = _ from k0); have q1 := ((bcell hb2).1 (w.heap.size + 1) 0 (show _ < w1.heap.size by have := HZ1.out; omega)).trans (show w1.drew.cell? ⟨w.heap.size + 1, 0, none⟩ = _ from k2); have I2 := Aside0.mk (own_far hb2 J2.out (Nat.le_refl _)); have I3 := Aside0.mk (own_far hb2 J3.out (Nat.le_refl _)); have HB2 := Aside0.mk (HB1.out.drew.trans (hb2.mono HB1.out.size) : Below w.heap.size w w2); have HZ2 := Aside0.mk (show w.heap.size + 1 + 1 + 1 < w2.heap.size from Nat.lt_of_lt_of_le HZ1.out hb2.size); clear hS5 hR5 hW hb2 hj J2 J3 HSR)
    | (go_at_call 22; refine (wide_any (PF P w.heap.size) true _ r _ HSR2.out HR.out.1 (by have := HR.out.2.2.2; omega)).mono ?_; rintro e w3 ⟨v4, rfl, hW, hb3⟩; rw [neg_left HR1.out HR2.out HR.out.2.2.1] at hW; obtain ⟨b6, A6, c6, l6, rfl, hS6, hR6, hl6⟩ := hW.shape; have HS6 := Aside0.mk (hS6.mono (pf_new HZ2.out)); have HR6 := Aside0.mk hR6; have s0 := ((bcell hb3).1 w.heap.size 0 (show _ < w2.heap.size by have := HZ2.out; omega)).trans q0; have s1 := ((bcell hb3).1 (w.heap.size + 1) 0 (show _ < w2.heap.size by have := HZ2.out; omega)).trans q1; obtain ⟨m0, m1, mf0, mf1⟩ := struct_at (own_far hb3 I2.out (Nat.le_refl _)); obtain ⟨n0, n1, nf0, nf1⟩ := struct_at (own_far hb3 I3.out (Nat.le_refl _)); have HB3 := Aside0.mk (HB2.out.trans (hb3.mono HB2.out.size) : Below w.heap.size w w3); have hz3 : w.heap.size + 1 + 1 + 1 < w3.heap.size := Nat.lt_of_lt_of_le HZ2.out hb3.size; clear hS6 hR6 hW hb3))
  go_wp2_with fail
  refine bodyPost_ret (v := .tuple #[.agg #[.bool b5, .slice A5 l5.length c5], .agg #[.bool b6, .slice A6 l6.length c6]]) (by simp [results, Try.results31, go_sem, m0, m1, n0, n1, hz3]) rfl ?_
  refine ⟨_, _, b5, A5, c5, l5.length, rfl, rfl, IsW.mk (((((HS6.out.far (p := ⟨w.heap.size + 1 + 1, 0, none⟩) (pf_ne (by simp; omega) (by simp)) _).far (p := ⟨w.heap.size + 1 + 1, 1, none⟩) (pf_ne (by simp; omega) (by simp)) _).far (p := ⟨w.heap.size + 1 + 1 + 1, 0, none⟩) (pf_ne (by simp; omega) (by simp)) _).far (p := ⟨w.heap.size + 1 + 1 + 1, 1, none⟩) (pf_ne (by simp; omega) (by simp)) _).mono pf_old) HR6.out (by have := HR.out.2.2.2; omega), ?_⟩
  exact (((HB3.out.setCell (by show w.heap.size ≤ w.heap.size + 1 + 1; omega) _).setCell (by show w.heap.size ≤ w.heap.size + 1 + 1; omega) _).setCell (by show w.heap.size ≤ w.heap.size + 1 + 1 + 1; omega) _).setCell (by show w.heap.size ≤ w.heap.size + 1 + 1 + 1; omega) _

end Go.Proofs.Ytipnmcnacgmmnaa.WidemagDiv
