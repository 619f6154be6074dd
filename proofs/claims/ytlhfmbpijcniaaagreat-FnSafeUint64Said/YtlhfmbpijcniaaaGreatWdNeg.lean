/- The opposite of an integer: the walk. No condition beyond small lengths. -/
import Derived.Test.YtlhfmbpijcniaaaGreatWdSm
namespace Go.Proofs.YtlhfmbpijcniaaaGreat.WidemagDiv
open Go.RowKit Go.Proofs.YtlhfmbpijcniaaaGreat.PmagDiv Go.Proofs.YtlhfmbpijcniaaaGreatW.PrintWords Go.Proofs.YtlhfmbpijcniaaaGreatW.PrintLast Go.Proofs.YtlhfmbpijcniaaaGreatW.PrintMore
set_option linter.unusedVariables false
set_option linter.unusedSimpArgs false

theorem ne_mid {P : Nat → Prop} {n m g : Nat} (h1 : n ≤ g) (h2 : g < m) : ∀ k, ((P k ∧ k < n) ∨ m ≤ k) → k ≠ g := by
  rintro k (⟨_, h⟩ | h) <;> omega
theorem mid_new {P : Nat → Prop} {n m : Nat} (h : n ≤ m) : ∀ k, ((P k ∧ k < n) ∨ m ≤ k) → P k ∨ n ≤ k := by
  rintro k (⟨h1, _⟩ | h1)
  · exact .inl h1
  · exact .inr (by omega)
theorem own_at1 {w w1 : World} {o1 o2 : Obj} {N : Nat} (hb : Below N ((w.alloc o1).alloc o2) w1) (hN : w.heap.size + 1 < N) : w1.heap[w.heap.size + 1]? = some o2 :=
  (hb.block _ hN).trans (heap_new2 w o1 o2)
theorem heap_new3 (w : World) (o1 o2 o3 : Obj) : (((w.alloc o1).alloc o2).alloc o3).heap[w.heap.size + 2]? = some o3 := by
  have h := heap_alloc_new ((w.alloc o1).alloc o2) o3
  simpa using h
theorem heap_old (w : World) (o : Obj) {g : Nat} {x : Obj} (h : w.heap[g]? = some x) : (w.alloc o).heap[g]? = some x := (Below.heap_alloc w o g (Array.getElem?_eq_some_iff.1 h).1).trans h
theorem Rep.opp {b : Bool} {l : List Int} {z : Int} (h : Rep b l z) : (if (!b) = true then - mag l else mag l) = -z := by
  cases b with
  | true => have := (h.neg rfl).1; simp; omega
  | false => have := h.pos rfl; simp; omega

set_option maxRecDepth 100000 in
theorem Negated_any (P : Nat → Prop) (v : Value) (z : Int) (B : Nat) (w : World) (hv : IsW P w v z B) (hB : B ≤ 1000000) :
    Calls Tryz.prog 14 #[v] w (RetW P w (-z) B) := by
  obtain ⟨b, A, c, l, rfl, hS, hR, hl⟩ := hv.shape
  have HS := Aside0.mk hS.old
  have HR := Aside0.mk hR
  clear hS hR hv
  go_enter Tryz.func14, Tryz.ntmps14
  go_wp2_with (go_at_call 24; refine (wide_any _ _ _ l _ (HS.out.below (((Below.refl _ _).alloc (Nat.le_refl _) _).alloc (by simp) _)) HR.out.dig (by omega)).mono ?_; rintro e w1 ⟨v1, rfl, hW1, hb1⟩; rw [HR.out.opp] at hW1; obtain ⟨b1, A1, c1, l1, rfl, hS1, hR1, hB1⟩ := hW1.shape; have HS1 := Aside0.mk hS1; have HR1 := Aside0.mk hR1; clear hS1 hR1 hW1; obtain ⟨hc0, hc1, hf0, hf1⟩ := struct_at (own_at1 hb1 (by simp <;> omega)); have hz1 : w.heap.size + 1 < w1.heap.size := by have := hb1.size; simp at this; omega)
  refine bodyPost_ret (v := .agg #[.bool b1, .slice A1 l1.length c1]) (by simp [results, Tryz.results14, go_sem, hc0, hc1, hz1]) rfl ?_
  refine ⟨_, rfl, IsW.mk (((HS1.out.far (p := ⟨w.heap.size + 1, 0, none⟩) (ne_mid (Nat.le_succ _) (by simp <;> omega)) _).far (p := ⟨w.heap.size + 1, 1, none⟩) (ne_mid (Nat.le_succ _) (by simp <;> omega)) _).mono (mid_new (by simp <;> omega))) HR1.out (Nat.le_trans hB1 hl), ?_⟩
  exact (((((Below.refl _ _).alloc (Nat.le_refl _) _).alloc (by simp) _).trans (hb1.mono (by simp <;> omega))).setCell (by simp) _).setCell (by simp) _

theorem cmpI_range (x y : Int) : -1 ≤ cmpI x y ∧ cmpI x y ≤ 1 := by unfold cmpI; split <;> (try split) <;> omega
theorem cmpI_lt {x y : Int} (h : x < y) : cmpI x y = -1 := by simp [cmpI, h]
theorem cmpI_gt {x y : Int} (h : y < x) : cmpI x y = 1 := by
  have h2 : ¬ x < y := by omega
  simp [cmpI, h, h2]
theorem cmpI_opp (x y : Int) : cmpI (-x) (-y) = -(cmpI x y) := by
  rcases Int.lt_trichotomy x y with h | h | h
  · rw [cmpI_lt h, cmpI_gt (by omega)]; rfl
  · subst h; simp [cmpI]
  · rw [cmpI_gt h, cmpI_lt (by omega)]
set_option maxRecDepth 100000 in
theorem WideCmp_any (P : Nat → Prop) (v1 v2 : Value) (x y : Int) (B : Nat) (w : World) (h1 : IsW P w v1 x B) (h2 : IsW P w v2 y B) (hB : B ≤ 1000000) :
    Calls Tryz.prog 18 #[v1, v2] w fun e w' => e = .returned (.int .i64 (cmpI x y)) ∧ Below w.heap.size w w' := by
  obtain ⟨b1, A1, c1, l1, rfl, hS1, hR1, hl1⟩ := h1.shape
  obtain ⟨b2, A2, c2, l2, rfl, hS2, hR2, hl2⟩ := h2.shape
  have HS1 := Aside0.mk hS1
  have HS2 := Aside0.mk hS2
  have HR1 := Aside0.mk hR1
  have HR2 := Aside0.mk hR2
  clear hS1 hS2 hR1 hR2 h1 h2
  obtain ⟨hm1, hm2⟩ := cmpI_range (mag l1) (mag l2)
  cases b1 <;> cases b2
  · have HE := Aside0.mk (show cmpI x y = cmpI (mag l1) (mag l2) by rw [HR1.out.pos rfl, HR2.out.pos rfl])
    go_enter Tryz.func18, Tryz.ntmps18
    go_wp2_with (go_at_call 27; refine (magCmp_any _ _ _ l1 l2 _ (HS1.out.below (((Below.refl _ _).alloc (Nat.le_refl _) _).alloc (by simp) _)) (HS2.out.below (((Below.refl _ _).alloc (Nat.le_refl _) _).alloc (by simp) _)) HR1.out.dig HR2.out.dig HR1.out.nrm HR2.out.nrm (by omega)).mono ?_; rintro e w1 ⟨rfl, hb1⟩)
    go_ret
    exact ⟨by rw [HE.out]; rfl, (((Below.refl _ _).alloc (Nat.le_refl _) _).alloc (by simp) _).trans (hb1.mono (by simp <;> omega))⟩
  · have HE := Aside0.mk (show cmpI x y = 1 from cmpI_gt (by have := HR1.out.pos_le rfl; have := HR2.out.neg_lt rfl; omega))
    go_enter Tryz.func18, Tryz.ntmps18
    go_wp2_with fail
    go_ret
    exact ⟨by rw [HE.out]; rfl, ((Below.refl _ _).alloc (Nat.le_refl _) _).alloc (by simp) _⟩
  · have HE := Aside0.mk (show cmpI x y = -1 from cmpI_lt (by have := HR1.out.neg_lt rfl; have := HR2.out.pos_le rfl; omega))
    go_enter Tryz.func18, Tryz.ntmps18
    go_wp2_with fail
    go_ret
    exact ⟨by rw [HE.out]; rfl, ((Below.refl _ _).alloc (Nat.le_refl _) _).alloc (by simp) _⟩
  · have HE := Aside0.mk (show cmpI x y = -(cmpI (mag l1) (mag l2)) by rw [(HR1.out.neg rfl).1, (HR2.out.neg rfl).1, cmpI_opp])
    go_enter Tryz.func18, Tryz.ntmps18
    go_wp2_with (go_at_call 27; refine (magCmp_any _ _ _ l1 l2 _ (HS1.out.below (((Below.refl _ _).alloc (Nat.le_refl _) _).alloc (by simp) _)) (HS2.out.below (((Below.refl _ _).alloc (Nat.le_refl _) _).alloc (by simp) _)) HR1.out.dig HR2.out.dig HR1.out.nrm HR2.out.nrm (by omega)).mono ?_; rintro e w1 ⟨rfl, hb1⟩)
    go_ret
    exact ⟨by rw [HE.out]; rfl, (((Below.refl _ _).alloc (Nat.le_refl _) _).alloc (by simp) _).trans (hb1.mono (by simp <;> omega))⟩

end Go.Proofs.YtlhfmbpijcniaaaGreat.WidemagDiv
