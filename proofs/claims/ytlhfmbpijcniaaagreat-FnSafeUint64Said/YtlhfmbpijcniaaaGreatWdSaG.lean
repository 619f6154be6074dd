/- The greater and the smaller one of two integers: the walks. -/
import Derived.Test.YtlhfmbpijcniaaaGreatWdFit
namespace Go.Proofs.YtlhfmbpijcniaaaGreat.WidemagDiv
open Go.RowKit Go.Proofs.YtlhfmbpijcniaaaGreat.PmagDiv Go.Proofs.YtlhfmbpijcniaaaGreatW.PrintWords Go.Proofs.YtlhfmbpijcniaaaGreatW.PrintLast Go.Proofs.YtlhfmbpijcniaaaGreatW.PrintMore
set_option linter.unusedVariables false
set_option linter.unusedSimpArgs false
theorem lt_ne3 {P : Nat → Prop} {n m : Nat} (h : n ≤ m) : ∀ k, (P k ∧ k < n) → k ≠ m := by omega

set_option maxRecDepth 100000 in
theorem greater_left (P : Nat → Prop) (va vb : Value) (x y : Int) (B : Nat) (w : World) (ha : IsW P w va x B) (hb : IsW P w vb y B) (hB : B ≤ 1000000) (h : y ≤ x) :
    Calls Tryz.prog 8 #[va, vb] w (RetW P w x B) := by
  obtain ⟨b1, A1, c1, l1, rfl, hS1, hR1, hl1⟩ := ha.shape
  obtain ⟨b2, A2, c2, l2, rfl, hS2, hR2, hl2⟩ := hb.shape
  have HA := Aside0.mk ha
  have HBV := Aside0.mk hb
  have HS := Aside0.mk hS1.old
  have HR := Aside0.mk hR1
  have HL := Aside0.mk hl1
  clear hS1 hS2 hR1 hR2 ha hb
  obtain ⟨q, HQ, hq⟩ : ∃ q : Int, Aside0 (cmpI x y = q) ∧ (q = 0 ∨ q = 1) := by
    rcases Int.lt_trichotomy x y with h1 | h1 | h1
    · first | omega | exact ⟨-1, ⟨cmpI_lt h1⟩, by simp⟩
    · first | omega | exact ⟨0, ⟨by rw [h1]; simp [cmpI]⟩, by simp⟩
    · first | omega | exact ⟨1, ⟨cmpI_gt h1⟩, by simp⟩
  have T := Aside0.mk (three w (.cells #[.bool b1, .slice A1 l1.length c1] 27) (.cells #[.bool b2, .slice A2 l2.length c2] 27) (.cells #[.bool false, .slice none 0 0] 27))
  have HB0 := Aside0.mk (show Below w.heap.size w _ from (((Below.refl _ _).alloc (Nat.le_refl _) (.cells #[.bool b1, .slice A1 l1.length c1] 27)).alloc (by simp) (.cells #[.bool b2, .slice A2 l2.length c2] 27)).alloc (by simp <;> omega) (.cells #[.bool false, .slice none 0 0] 27))
  rcases hq with rfl | rfl
  all_goals
    go_enter Tryz.func8, Tryz.ntmps8
    go_wp2_with (go_at_call 18; refine (WideCmp_any P _ _ x y B _ (HA.out.below HB0.out) (HBV.out.below HB0.out) hB).mono ?_; rintro e w1 ⟨rfl, hb⟩; rw [HQ.out]; obtain ⟨k0, k1, _, _⟩ := struct_at (own_far hb T.out.1 (Nat.le_refl _)); obtain ⟨k2, k3, _, _⟩ := struct_at (own_far hb T.out.2.1 (Nat.le_refl _)); obtain ⟨m0, m1, mf0, mf1⟩ := struct_at (own_far hb T.out.2.2 (Nat.le_refl _)); have HB1 := Aside0.mk (HB0.out.trans (hb.mono HB0.out.size) : Below w.heap.size w w1); have hz := Nat.lt_of_lt_of_le (Array.getElem?_eq_some_iff.1 T.out.2.2).1 hb.size; clear hb)
    refine bodyPost_ret (v := .agg #[.bool b1, .slice A1 l1.length c1]) (by simp [results, Tryz.results8, go_sem, m0, m1, hz]) rfl ?_
    exact ⟨_, rfl, IsW.mk ((((HS.out.below HB1.out).far (p := ⟨w.heap.size + 1 + 1, 0, none⟩) (lt_ne3 (show w.heap.size ≤ w.heap.size + 1 + 1 by omega)) _).far (p := ⟨w.heap.size + 1 + 1, 1, none⟩) (lt_ne3 (show w.heap.size ≤ w.heap.size + 1 + 1 by omega)) _).mono (fun k hk => .inl hk.1)) HR.out HL.out, (HB1.out.setCell (by simp <;> omega) _).setCell (by simp <;> omega) _⟩

set_option maxRecDepth 100000 in
theorem greater_right (P : Nat → Prop) (va vb : Value) (x y : Int) (B : Nat) (w : World) (ha : IsW P w va x B) (hb : IsW P w vb y B) (hB : B ≤ 1000000) (h : x < y) :
    Calls Tryz.prog 8 #[va, vb] w (RetW P w y B) := by
  obtain ⟨b1, A1, c1, l1, rfl, hS1, hR1, hl1⟩ := ha.shape
  obtain ⟨b2, A2, c2, l2, rfl, hS2, hR2, hl2⟩ := hb.shape
  have HA := Aside0.mk ha
  have HBV := Aside0.mk hb
  have HS := Aside0.mk hS2.old
  have HR := Aside0.mk hR2
  have HL := Aside0.mk hl2
  clear hS1 hS2 hR1 hR2 ha hb
  obtain ⟨q, HQ, hq⟩ : ∃ q : Int, Aside0 (cmpI x y = q) ∧ (q = -1) := by
    rcases Int.lt_trichotomy x y with h1 | h1 | h1
    · first | omega | exact ⟨-1, ⟨cmpI_lt h1⟩, by simp⟩
    · first | omega | exact ⟨0, ⟨by rw [h1]; simp [cmpI]⟩, by simp⟩
    · first | omega | exact ⟨1, ⟨cmpI_gt h1⟩, by simp⟩
  have T := Aside0.mk (three w (.cells #[.bool b1, .slice A1 l1.length c1] 27) (.cells #[.bool b2, .slice A2 l2.length c2] 27) (.cells #[.bool false, .slice none 0 0] 27))
  have HB0 := Aside0.mk (show Below w.heap.size w _ from (((Below.refl _ _).alloc (Nat.le_refl _) (.cells #[.bool b1, .slice A1 l1.length c1] 27)).alloc (by simp) (.cells #[.bool b2, .slice A2 l2.length c2] 27)).alloc (by simp <;> omega) (.cells #[.bool false, .slice none 0 0] 27))
  subst hq
  all_goals
    go_enter Tryz.func8, Tryz.ntmps8
    go_wp2_with (go_at_call 18; refine (WideCmp_any P _ _ x y B _ (HA.out.below HB0.out) (HBV.out.below HB0.out) hB).mono ?_; rintro e w1 ⟨rfl, hb⟩; rw [HQ.out]; obtain ⟨k0, k1, _, _⟩ := struct_at (own_far hb T.out.1 (Nat.le_refl _)); obtain ⟨k2, k3, _, _⟩ := struct_at (own_far hb T.out.2.1 (Nat.le_refl _)); obtain ⟨m0, m1, mf0, mf1⟩ := struct_at (own_far hb T.out.2.2 (Nat.le_refl _)); have HB1 := Aside0.mk (HB0.out.trans (hb.mono HB0.out.size) : Below w.heap.size w w1); have hz := Nat.lt_of_lt_of_le (Array.getElem?_eq_some_iff.1 T.out.2.2).1 hb.size; clear hb)
    refine bodyPost_ret (v := .agg #[.bool b2, .slice A2 l2.length c2]) (by simp [results, Tryz.results8, go_sem, m0, m1, hz]) rfl ?_
    exact ⟨_, rfl, IsW.mk ((((HS.out.below HB1.out).far (p := ⟨w.heap.size + 1 + 1, 0, none⟩) (lt_ne3 (show w.heap.size ≤ w.heap.size + 1 + 1 by omega)) _).far (p := ⟨w.heap.size + 1 + 1, 1, none⟩) (lt_ne3 (show w.heap.size ≤ w.heap.size + 1 + 1 by omega)) _).mono (fun k hk => .inl hk.1)) HR.out HL.out, (HB1.out.setCell (by simp <;> omega) _).setCell (by simp <;> omega) _⟩

set_option maxRecDepth 100000 in
theorem smaller_left (P : Nat → Prop) (va vb : Value) (x y : Int) (B : Nat) (w : World) (ha : IsW P w va x B) (hb : IsW P w vb y B) (hB : B ≤ 1000000) (h : x ≤ y) :
    Calls Tryz.prog 9 #[va, vb] w (RetW P w x B) := by
  obtain ⟨b1, A1, c1, l1, rfl, hS1, hR1, hl1⟩ := ha.shape
  obtain ⟨b2, A2, c2, l2, rfl, hS2, hR2, hl2⟩ := hb.shape
  have HA := Aside0.mk ha
  have HBV := Aside0.mk hb
  have HS := Aside0.mk hS1.old
  have HR := Aside0.mk hR1
  have HL := Aside0.mk hl1
  clear hS1 hS2 hR1 hR2 ha hb
  obtain ⟨q, HQ, hq⟩ : ∃ q : Int, Aside0 (cmpI x y = q) ∧ (q = 0 ∨ q = -1) := by
    rcases Int.lt_trichotomy x y with h1 | h1 | h1
    · first | omega | exact ⟨-1, ⟨cmpI_lt h1⟩, by simp⟩
    · first | omega | exact ⟨0, ⟨by rw [h1]; simp [cmpI]⟩, by simp⟩
    · first | omega | exact ⟨1, ⟨cmpI_gt h1⟩, by simp⟩
  have T := Aside0.mk (three w (.cells #[.bool b1, .slice A1 l1.length c1] 27) (.cells #[.bool b2, .slice A2 l2.length c2] 27) (.cells #[.bool false, .slice none 0 0] 27))
  have HB0 := Aside0.mk (show Below w.heap.size w _ from (((Below.refl _ _).alloc (Nat.le_refl _) (.cells #[.bool b1, .slice A1 l1.length c1] 27)).alloc (by simp) (.cells #[.bool b2, .slice A2 l2.length c2] 27)).alloc (by simp <;> omega) (.cells #[.bool false, .slice none 0 0] 27))
  rcases hq with rfl | rfl
  all_goals
    go_enter Tryz.func9, Tryz.ntmps9
    go_wp2_with (go_at_call 18; refine (WideCmp_any P _ _ x y B _ (HA.out.below HB0.out) (HBV.out.below HB0.out) hB).mono ?_; rintro e w1 ⟨rfl, hb⟩; rw [HQ.out]; obtain ⟨k0, k1, _, _⟩ := struct_at (own_far hb T.out.1 (Nat.le_refl _)); obtain ⟨k2, k3, _, _⟩ := struct_at (own_far hb T.out.2.1 (Nat.le_refl _)); obtain ⟨m0, m1, mf0, mf1⟩ := struct_at (own_far hb T.out.2.2 (Nat.le_refl _)); have HB1 := Aside0.mk (HB0.out.trans (hb.mono HB0.out.size) : Below w.heap.size w w1); have hz := Nat.lt_of_lt_of_le (Array.getElem?_eq_some_iff.1 T.out.2.2).1 hb.size; clear hb)
    refine bodyPost_ret (v := .agg #[.bool b1, .slice A1 l1.length c1]) (by simp [results, Tryz.results9, go_sem, m0, m1, hz]) rfl ?_
    exact ⟨_, rfl, IsW.mk ((((HS.out.below HB1.out).far (p := ⟨w.heap.size + 1 + 1, 0, none⟩) (lt_ne3 (show w.heap.size ≤ w.heap.size + 1 + 1 by omega)) _).far (p := ⟨w.heap.size + 1 + 1, 1, none⟩) (lt_ne3 (show w.heap.size ≤ w.heap.size + 1 + 1 by omega)) _).mono (fun k hk => .inl hk.1)) HR.out HL.out, (HB1.out.setCell (by simp <;> omega) _).setCell (by simp <;> omega) _⟩

set_option maxRecDepth 100000 in
theorem smaller_right (P : Nat → Prop) (va vb : Value) (x y : Int) (B : Nat) (w : World) (ha : IsW P w va x B) (hb : IsW P w vb y B) (hB : B ≤ 1000000) (h : y < x) :
    Calls Tryz.prog 9 #[va, vb] w (RetW P w y B) := by
  obtain ⟨b1, A1, c1, l1, rfl, hS1, hR1, hl1⟩ := ha.shape
  obtain ⟨b2, A2, c2, l2, rfl, hS2, hR2, hl2⟩ := hb.shape
  have HA := Aside0.mk ha
  have HBV := Aside0.mk hb
  have HS := Aside0.mk hS2.old
  have HR := Aside0.mk hR2
  have HL := Aside0.mk hl2
  clear hS1 hS2 hR1 hR2 ha hb
  obtain ⟨q, HQ, hq⟩ : ∃ q : Int, Aside0 (cmpI x y = q) ∧ (q = 1) := by
    rcases Int.lt_trichotomy x y with h1 | h1 | h1
    · first | omega | exact ⟨-1, ⟨cmpI_lt h1⟩, by simp⟩
    · first | omega | exact ⟨0, ⟨by rw [h1]; simp [cmpI]⟩, by simp⟩
    · first | omega | exact ⟨1, ⟨cmpI_gt h1⟩, by simp⟩
  have T := Aside0.mk (three w (.cells #[.bool b1, .slice A1 l1.length c1] 27) (.cells #[.bool b2, .slice A2 l2.length c2] 27) (.cells #[.bool false, .slice none 0 0] 27))
  have HB0 := Aside0.mk (show Below w.heap.size w _ from (((Below.refl _ _).alloc (Nat.le_refl _) (.cells #[.bool b1, .slice A1 l1.length c1] 27)).alloc (by simp) (.cells #[.bool b2, .slice A2 l2.length c2] 27)).alloc (by simp <;> omega) (.cells #[.bool false, .slice none 0 0] 27))
  subst hq
  all_goals
    go_enter Tryz.func9, Tryz.ntmps9
    go_wp2_with (go_at_call 18; refine (WideCmp_any P _ _ x y B _ (HA.out.below HB0.out) (HBV.out.below HB0.out) hB).mono ?_; rintro e w1 ⟨rfl, hb⟩; rw [HQ.out]; obtain ⟨k0, k1, _, _⟩ := struct_at (own_far hb T.out.1 (Nat.le_refl _)); obtain ⟨k2, k3, _, _⟩ := struct_at (own_far hb T.out.2.1 (Nat.le_refl _)); obtain ⟨m0, m1, mf0, mf1⟩ := struct_at (own_far hb T.out.2.2 (Nat.le_refl _)); have HB1 := Aside0.mk (HB0.out.trans (hb.mono HB0.out.size) : Below w.heap.size w w1); have hz := Nat.lt_of_lt_of_le (Array.getElem?_eq_some_iff.1 T.out.2.2).1 hb.size; clear hb)
    refine bodyPost_ret (v := .agg #[.bool b2, .slice A2 l2.length c2]) (by simp [results, Tryz.results9, go_sem, m0, m1, hz]) rfl ?_
    exact ⟨_, rfl, IsW.mk ((((HS.out.below HB1.out).far (p := ⟨w.heap.size + 1 + 1, 0, none⟩) (lt_ne3 (show w.heap.size ≤ w.heap.size + 1 + 1 by omega)) _).far (p := ⟨w.heap.size + 1 + 1, 1, none⟩) (lt_ne3 (show w.heap.size ≤ w.heap.size + 1 + 1 by omega)) _).mono (fun k hk => .inl hk.1)) HR.out HL.out, (HB1.out.setCell (by simp <;> omega) _).setCell (by simp <;> omega) _⟩


end Go.Proofs.YtlhfmbpijcniaaaGreat.WidemagDiv
