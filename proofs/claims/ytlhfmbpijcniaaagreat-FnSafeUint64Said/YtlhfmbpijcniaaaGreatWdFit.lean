/- An integer as a number of 64 bits, and whether it lies between two others: the walk. -/
import Derived.Test.YtlhfmbpijcniaaaGreatWdTow
namespace Go.Proofs.YtlhfmbpijcniaaaGreat.WidemagDiv
open Go.RowKit Go.Proofs.YtlhfmbpijcniaaaGreat.PmagDiv Go.Proofs.YtlhfmbpijcniaaaGreatW.PrintWords Go.Proofs.YtlhfmbpijcniaaaGreatW.PrintLast Go.Proofs.YtlhfmbpijcniaaaGreatW.PrintMore
set_option linter.unusedVariables false
set_option linter.unusedSimpArgs false

theorem word_at {w : World} {g t : Nat} {a : Value} (h : w.heap[g]? = some (.cells #[a] t (0, 0))) : w.cell? ⟨g, 0, none⟩ = some a := by
  rw [cell_of_row w g 0 _ t (0, 0) h]; rfl
theorem fit_dec {x y z : Int} (h : x ≤ z) : decide (cmpI z y ≤ 0) = decide (x ≤ z ∧ z ≤ y) := by
  apply decide_eq_decide.2
  rcases Int.lt_trichotomy z y with h1 | h1 | h1
  · rw [cmpI_lt h1]; omega
  · subst h1; simp [cmpI]; exact h
  · rw [cmpI_gt h1]; omega
def FitPost (w : World) (z x y : Int) (e : Ending) (w' : World) : Prop := e = .returned (.tuple #[.int .u64 (z % 18446744073709551616), .bool (decide (x ≤ z ∧ z ≤ y))]) ∧ Below w.heap.size w w'
set_option maxRecDepth 100000 in
set_option maxHeartbeats 4000000 in
theorem fitted_pos (P : Nat → Prop) (v vx vy : Value) (z x y : Int) (B : Nat) (w : World) (hv : IsW P w v z B) (hx : IsW P w vx x B) (hy : IsW P w vy y B) (hz : 0 ≤ z) (hxz : x ≤ z) (hB : B ≤ 100000) :
    Calls Tryz.prog 7 #[v, vx, vy] w (FitPost w z x y) := by
  obtain ⟨b, A, c, l, rfl, hS, hR, hl⟩ := hv.shape
  obtain ⟨b1, A1, c1, l1, rfl, hS1, hR1, hl1⟩ := hx.shape
  obtain ⟨b2, A2, c2, l2, rfl, hS2, hR2, hl2⟩ := hy.shape
  have HV := Aside0.mk hv
  have HX := Aside0.mk hx
  have HY := Aside0.mk hy
  clear hS hS1 hS2 hR hR1 hR2 hv hx hy
  have HB0 := Aside0.mk (Below.refl w.heap.size w)
  have T := Aside0.mk (three w (.cells #[.bool b, .slice A l.length c] 27) (.cells #[.bool b1, .slice A1 l1.length c1] 27) (.cells #[.bool b2, .slice A2 l2.length c2] 27))
  go_enter Tryz.func7, Tryz.ntmps7
  go_wp2_with (go_at_call 17; refine (ToWords_pos P _ z B _ (HV.out.below (by repeat (first | (with_reducible first | exact HB0.out | apply below_alloc | apply pw_below_drewN | apply below_drew1) | exact HB0.out))) hz hB).mono ?_; rintro e w1 ⟨g, bw, rfl, hg, hcell, hb⟩; obtain ⟨k0, k1, _, _⟩ := struct_at (own_far hb T.out.1 (Nat.le_refl _)); obtain ⟨k2, k3, _, _⟩ := struct_at (own_far hb T.out.2.1 (Nat.le_refl _)); obtain ⟨k4, k5, _, _⟩ := struct_at (own_far hb T.out.2.2 (Nat.le_refl _)); have J0 := Aside0.mk (own_far hb T.out.1 (Nat.le_refl _)); have J1 := Aside0.mk (own_far hb T.out.2.1 (Nat.le_refl _)); have J2 := Aside0.mk (own_far hb T.out.2.2 (Nat.le_refl _)); have HB1 := Aside0.mk (((by repeat (first | (with_reducible first | exact HB0.out | apply below_alloc | apply pw_below_drewN | apply below_drew1) | exact HB0.out)) : Below w.heap.size w _).trans (hb.mono (by simp <;> omega)) : Below w.heap.size w w1); have HZ1 := Aside0.mk (show w.heap.size + 1 + 1 < w1.heap.size by have := hb.size; simp at this; omega); have k6 := word_at hcell; have JG := Aside0.mk hcell; clear hb hcell)
  obtain ⟨q, HCM, hq⟩ : ∃ q : Int, Aside0 (cmpI z x = q) ∧ (q = 0 ∨ q = 1) := by
    rcases Int.lt_or_eq_of_le hxz with h | h
    · exact ⟨1, ⟨cmpI_gt h⟩, .inr rfl⟩
    · exact ⟨0, ⟨by rw [h]; simp [cmpI]⟩, .inl rfl⟩
  have HPR := Aside0.mk (show decide (cmpI z y ≤ 0) = decide (x ≤ z ∧ z ≤ y) from fit_dec hxz)
  generalize hqy : cmpI z y = qy at HPR
  have HCY := Aside0.mk hqy
  clear hqy
  rcases hq with rfl | rfl
  all_goals
    go_wp2_with fail
    go_region_held3 (fun w' => w'.cell? ⟨w.heap.size, 0, none⟩ = some (.bool b) ∧ w'.cell? ⟨w.heap.size, 1, none⟩ = some (.slice A l.length c) ∧ w'.cell? ⟨w.heap.size + 1, 0, none⟩ = some (.bool b1) ∧ w'.cell? ⟨w.heap.size + 1, 1, none⟩ = some (.slice A1 l1.length c1) ∧ w'.cell? ⟨w.heap.size + 1 + 1, 0, none⟩ = some (.bool b2) ∧ w'.cell? ⟨w.heap.size + 1 + 1, 1, none⟩ = some (.slice A2 l2.length c2) ∧ w'.cell? ⟨g, 0, none⟩ = some (.int .u64 (z % 18446744073709551616))) (first | exact ⟨k0, k1, k2, k3, k4, k5, k6⟩ | exact ⟨q0, q1, q2, q3, q4, q5, q6⟩ | exact ⟨r0, r1, r2, r3, r4, r5, r6⟩ | (go_keep; done)) (first | (go_at_call 18; refine (WideCmp_any P _ _ z x B _ (HV.out.below HB1.out.drew) (HX.out.below HB1.out.drew) (by omega)).mono ?_; rintro e w2 ⟨rfl, hb⟩; rw [HCM.out]; have I0 := Aside0.mk (own_far hb J0.out (Nat.le_refl _)); have I1 := Aside0.mk (own_far hb J1.out (Nat.le_refl _)); have I2 := Aside0.mk (own_far hb J2.out (Nat.le_refl _)); have IG := Aside0.mk (own_far hb JG.out (Nat.le_refl _)); obtain ⟨q0, q1, _, _⟩ := struct_at I0.out; obtain ⟨q2, q3, _, _⟩ := struct_at I1.out; obtain ⟨q4, q5, _, _⟩ := struct_at I2.out; have q6 := word_at IG.out; have HB2 := Aside0.mk (HB1.out.drew.trans (hb.mono HB1.out.size) : Below w.heap.size w w2); clear hb HB1) | (go_at_call 18; refine (WideCmp_any P _ _ z y B _ (HV.out.below HB2.out) (HY.out.below HB2.out) (by omega)).mono ?_; rintro e w3 ⟨rfl, hb⟩; rw [HCY.out]; obtain ⟨r0, r1, _, _⟩ := struct_at (own_far hb I0.out (Nat.le_refl _)); obtain ⟨r2, r3, _, _⟩ := struct_at (own_far hb I1.out (Nat.le_refl _)); obtain ⟨r4, r5, _, _⟩ := struct_at (own_far hb I2.out (Nat.le_refl _)); have r6 := word_at (own_far hb IG.out (Nat.le_refl _)); have HB3 := Aside0.mk (HB2.out.trans (hb.mono HB2.out.size) : Below w.heap.size w w3); clear hb))
    go_wp2_with fail
    refine bodyPost_ret (v := .tuple #[.int .u64 (z % 18446744073709551616), .bool (decide (qy ≤ 0))]) (by simp [results, Tryz.results7, go_sem]) rfl ?_
    exact ⟨by rw [HPR.out], HB3.out⟩

/-- A number that fits, or an error. -/
def TellPost (k : IntKind) (w : World) (x lo hi : Int) (e : Ending) (w' : World) : Prop := Below w.heap.size w w' ∧ (((lo ≤ x ∧ x ≤ hi) ∧ e = .returned (.tuple #[.int k x, .nilIface])) ∨ (¬ (lo ≤ x ∧ x ≤ hi) ∧ ∃ y t v, e = .returned (.tuple #[.int k y, .iface t v])))
/-- A number that fits, or word that it does not. -/
def ToldPost (k : IntKind) (w : World) (x lo hi : Int) (e : Ending) (w' : World) : Prop := Below w.heap.size w w' ∧ ∃ y, e = .returned (.tuple #[.int k y, .bool (decide (lo ≤ x ∧ x ≤ hi))]) ∧ ((lo ≤ x ∧ x ≤ hi) → y = x)

end Go.Proofs.YtlhfmbpijcniaaaGreat.WidemagDiv
