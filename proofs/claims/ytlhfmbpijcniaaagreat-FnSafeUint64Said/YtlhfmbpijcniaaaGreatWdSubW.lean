/- Differences of integers of any size, and the least and greatest integer of a width: the walks. No condition beyond small lengths. -/
import Derived.Test.YtlhfmbpijcniaaaGreatWdAddX
namespace Go.Proofs.YtlhfmbpijcniaaaGreat.WidemagDiv
open Go.RowKit Go.Proofs.YtlhfmbpijcniaaaGreat.PmagDiv Go.Proofs.YtlhfmbpijcniaaaGreatW.PrintWords Go.Proofs.YtlhfmbpijcniaaaGreatW.PrintLast Go.Proofs.YtlhfmbpijcniaaaGreatW.PrintMore
set_option linter.unusedVariables false
set_option linter.unusedSimpArgs false
theorem keep5 {w2 : World} {n : Nat} {x y z t u v : Value} (q0 : w2.cell? ⟨n, 0, none⟩ = some x) (q1 : w2.cell? ⟨n, 1, none⟩ = some y) (q3 : w2.cell? ⟨n + 1, 0, none⟩ = some t) (q2 : w2.cell? ⟨n + 1, 1, none⟩ = some z) :
    ((w2.setCell ⟨n + 1 + 1, 0, none⟩ u).setCell ⟨n + 1 + 1, 1, none⟩ v).cell? ⟨n, 0, none⟩ = some x ∧ ((w2.setCell ⟨n + 1 + 1, 0, none⟩ u).setCell ⟨n + 1 + 1, 1, none⟩ v).cell? ⟨n, 1, none⟩ = some y ∧ ((w2.setCell ⟨n + 1 + 1, 0, none⟩ u).setCell ⟨n + 1 + 1, 1, none⟩ v).cell? ⟨n + 1, 0, none⟩ = some t ∧ ((w2.setCell ⟨n + 1 + 1, 0, none⟩ u).setCell ⟨n + 1 + 1, 1, none⟩ v).cell? ⟨n + 1, 1, none⟩ = some z := by
  refine ⟨?_, ?_, ?_, ?_⟩
  · rw [World.cell?_setCell_other _ _ _ _ (by simp), World.cell?_setCell_other _ _ _ _ (by simp)]; exact q0
  · rw [World.cell?_setCell_other _ _ _ _ (by simp), World.cell?_setCell_other _ _ _ _ (by simp)]; exact q1
  · rw [World.cell?_setCell_other _ _ _ _ (by simp), World.cell?_setCell_other _ _ _ _ (by simp)]; exact q3
  · rw [World.cell?_setCell_other _ _ _ _ (by simp), World.cell?_setCell_other _ _ _ _ (by simp)]; exact q2

set_option maxRecDepth 100000 in
set_option maxHeartbeats 4000000 in
theorem WideSub_any (P : Nat → Prop) (v1 v2 : Value) (x y : Int) (B : Nat) (w : World) (h1 : IsW P w v1 x B) (h2 : IsW P w v2 y B) (hB : B ≤ 100000) :
    Calls Tryz.prog 15 #[v1, v2] w (RetW P w (x - y) (B + 1)) := by
  obtain ⟨b1, A1, c1, l1, rfl, hS1, hR1, hl1⟩ := h1.shape
  obtain ⟨b2, A2, c2, l2, rfl, hS2, hR2, hl2⟩ := h2.shape
  have HS1 := Aside0.mk hS1.old
  have HS2 := Aside0.mk hS2.old
  have HR1 := Aside0.mk hR1
  have HR2 := Aside0.mk hR2
  have HB0 := Aside0.mk (Below.refl w.heap.size w)
  clear hS1 hS2 hR1 hR2 h1 h2
  have T := Aside0.mk (three w (.cells #[.bool b1, .slice A1 l1.length c1] 27) (.cells #[.bool b2, .slice A2 l2.length c2] 27) (.cells #[.bool false, .slice none 0 0] 27))
  rw [Int.sub_eq_add_neg]
  go_enter Tryz.func15, Tryz.ntmps15
  go_wp2_with fail
  go_region_held3 (fun w' => w'.cell? ⟨w.heap.size, 0, none⟩ = some (.bool b1) ∧ w'.cell? ⟨w.heap.size, 1, none⟩ = some (.slice A1 l1.length c1) ∧ w'.cell? ⟨w.heap.size + 1, 0, none⟩ = some (.bool b2) ∧ w'.cell? ⟨w.heap.size + 1, 1, none⟩ = some (.slice A2 l2.length c2)) (first | exact ⟨k0, k1, k3, k2⟩ | exact ⟨q0, q1, q3, q2⟩ | exact keep5 q0 q1 q3 q2 | (go_keep; done)) (first | (go_at_call 14; refine (Negated_any (fun k => P k ∧ k < w.heap.size) _ y B _ (IsW.mk (HS2.out.below (by repeat (first | (with_reducible first | exact HB0.out | apply below_alloc | apply pw_below_drewN | apply below_drew1) | exact HB0.out))) HR2.out hl2) (by omega)).mono ?_; rintro e w1 ⟨v1, rfl, hW, hb⟩; have HW1 := Aside0.mk hW; obtain ⟨k0, k1, _, _⟩ := struct_at (own_far hb T.out.1 (Nat.le_refl _)); obtain ⟨k3, k2, _, _⟩ := struct_at (own_far hb T.out.2.1 (Nat.le_refl _)); have J2 := Aside0.mk (own_far hb T.out.2.2 (Nat.le_refl _)); have HB1 := Aside0.mk (((by repeat (first | (with_reducible first | exact HB0.out | apply below_alloc | apply pw_below_drewN | apply below_drew1) | exact HB0.out)) : Below w.heap.size w _).trans (hb.mono (by simp <;> omega)) : Below w.heap.size w w1); have HZ1 := Aside0.mk (show w.heap.size + 1 + 1 < w1.heap.size by have := hb.size; simp at this; omega); clear hb hW) | (go_at_call 25; refine (WideAdd_any (fun k => (P k ∧ k < w.heap.size) ∨ w.heap.size + 1 + 1 < k) _ _ x (-y) B _ (IsW.mk ((HS1.out.below HB1.out).mono fun _ h => .inl h) HR1.out hl1) (HW1.out.mono near3) hB).mono ?_; rintro e w2 ⟨v2, rfl, hW2, hb2⟩; obtain ⟨b4, A4, c4, l4, rfl, hS4, hR4, hl4⟩ := hW2.shape; have HS4 := Aside0.mk hS4; have HR4 := Aside0.mk hR4; obtain ⟨m0, m1, mf0, mf1⟩ := struct_at (own_far hb2 J2.out (Nat.le_refl _)); have hz2 : w.heap.size + 1 + 1 < w2.heap.size := Nat.lt_of_lt_of_le HZ1.out hb2.size; have q0 := ((bcell hb2).1 w.heap.size 0 (by have := HZ1.out; omega)).trans k0; have q1 := ((bcell hb2).1 w.heap.size 1 (by have := HZ1.out; omega)).trans k1; have q2 := ((bcell hb2).1 (w.heap.size + 1) 1 (by have := HZ1.out; omega)).trans k2; have q3 := ((bcell hb2).1 (w.heap.size + 1) 0 (by have := HZ1.out; omega)).trans k3; have HB2 := Aside0.mk (HB1.out.trans (hb2.mono HB1.out.size) : Below w.heap.size w w2); clear hS4 hR4 hW2 hb2))
  go_wp2_with fail
  refine bodyPost_ret (v := .agg #[.bool b4, .slice A4 l4.length c4]) (by simp [results, Tryz.results15, go_sem, m0, m1, hz2]) rfl ?_
  refine ⟨_, rfl, IsW.mk (((HS4.out.far (p := ⟨w.heap.size + 1 + 1, 0, none⟩) (far4 HZ1.out) _).far (p := ⟨w.heap.size + 1 + 1, 1, none⟩) (far4 HZ1.out) _).mono (new4 HB1.out.size)) HR4.out (by omega), ?_⟩
  exact (HB2.out.setCell (by show w.heap.size ≤ w.heap.size + 1 + 1; omega) _).setCell (by show w.heap.size ≤ w.heap.size + 1 + 1; omega) _

/-! ### the least and the greatest integer of a width -/
theorem two_blocks (w : World) (o1 o2 : Obj) : ((w.alloc o1).alloc o2).heap[w.heap.size]? = some o1 ∧ ((w.alloc o1).alloc o2).heap[w.heap.size + 1]? = some o2 := by
  have h1 := heap_alloc_new w o1
  have h2 := heap_alloc_new (w.alloc o1) o2
  have e1 := Below.heap_alloc (w.alloc o1) o2 w.heap.size (by simp)
  exact ⟨e1.trans h1, by simpa using h2⟩
theorem new_only {n m : Nat} (h : n + 1 < m) : ∀ k, (n + 1 < k ∨ m ≤ k) → n + 1 < k := by omega
theorem ne_two {n g : Nat} (h : g ≤ n + 1) : ∀ k, n + 1 < k → k ≠ g := by omega
def RetWW (P : Nat → Prop) (w : World) (x y : Int) (B : Nat) (e : Ending) (w' : World) : Prop :=
  ∃ v1 v2, e = .returned (.tuple #[v1, v2]) ∧ IsW (fun k => P k ∨ w.heap.size ≤ k) w' v1 x B ∧ IsW (fun k => P k ∨ w.heap.size ≤ k) w' v2 y B ∧ Below w.heap.size w w'
theorem pow_len (n : Nat) (hn : n ≤ 1000) : n / 32 + 1 ≤ 40 := by omega

set_option maxRecDepth 100000 in
set_option maxHeartbeats 4000000 in
theorem bounds_unsigned (P : Nat → Prop) (n : Nat) (w : World) (hn : n ≤ 1000) :
    Calls Tryz.prog 6 #[.int .i64 n, .bool false] w (RetWW P w 0 (2 ^ n - 1) 41) := by
  have J0_0 := Aside0.mk (two_blocks w (.cells #[.bool false, .slice none 0 0] 27) (.cells #[.bool false, .slice none 0 0] 27)).1
  have J1_0 := Aside0.mk (two_blocks w (.cells #[.bool false, .slice none 0 0] 27) (.cells #[.bool false, .slice none 0 0] 27)).2
  have HB0 := Aside0.mk (show Below w.heap.size w ((w.alloc (.cells #[.bool false, .slice none 0 0] 27)).alloc (.cells #[.bool false, .slice none 0 0] 27)) from ((Below.refl _ _).alloc (Nat.le_refl _) _).alloc (by simp) _)
  have HZ0 := Aside0.mk (show w.heap.size + 1 < ((w.alloc (.cells #[.bool false, .slice none 0 0] 27)).alloc (.cells #[.bool false, .slice none 0 0] 27)).heap.size by simp)
  go_enter Tryz.func6, Tryz.ntmps6
  go_wp2_with fail
  go_at_call 13; refine (Two_any (fun k => w.heap.size + 1 < k) n _ hn).mono ?_; rintro e w1 ⟨v1, rfl, hW, hb⟩; have HW1 := Aside0.mk (hW.mono (new_only (by have := HZ0.out; omega))); have J0_1 := Aside0.mk (own_far hb J0_0.out (Nat.le_refl _)); have J1_1 := Aside0.mk (own_far hb J1_0.out (Nat.le_refl _)); have HB1 := Aside0.mk (HB0.out.trans (hb.mono HB0.out.size) : Below w.heap.size w w1); have HZ1 := Aside0.mk (show w.heap.size + 1 < w1.heap.size from Nat.lt_of_lt_of_le HZ0.out hb.size); clear hW hb
  go_wp2_with fail
  go_at_call 16; refine (WideInt_any (fun k => w.heap.size + 1 < k) 1 _ (by omega)).mono ?_; rintro e w2 ⟨v2, rfl, hW, hb⟩; have HW2 := Aside0.mk (hW.mono (new_only (by have := HZ1.out; omega))); have HW1_2 := Aside0.mk (HW1.out.below hb); have J0_2 := Aside0.mk (own_far hb J0_1.out (Nat.le_refl _)); have J1_2 := Aside0.mk (own_far hb J1_1.out (Nat.le_refl _)); have HB2 := Aside0.mk (HB1.out.trans (hb.mono HB1.out.size) : Below w.heap.size w w2); have HZ2 := Aside0.mk (show w.heap.size + 1 < w2.heap.size from Nat.lt_of_lt_of_le HZ1.out hb.size); clear hW hb
  go_wp2_with fail
  go_at_call 15; refine (WideSub_any (fun k => w.heap.size + 1 < k) _ _ (2 ^ n) 1 40 _ (HW1_2.out.more (pow_len n hn)) (HW2.out.more (by omega)) (by omega)).mono ?_; rintro e w3 ⟨v3, rfl, hW, hb⟩; have HW3 := Aside0.mk (hW.mono (new_only (by have := HZ2.out; omega))); have J0_3 := Aside0.mk (own_far hb J0_2.out (Nat.le_refl _)); have J1_3 := Aside0.mk (own_far hb J1_2.out (Nat.le_refl _)); have HB3 := Aside0.mk (HB2.out.trans (hb.mono HB2.out.size) : Below w.heap.size w w3); have HZ3 := Aside0.mk (show w.heap.size + 1 < w3.heap.size from Nat.lt_of_lt_of_le HZ2.out hb.size); clear hW hb
  obtain ⟨b4, A4, c4, l4, rfl, hS4, hR4, hl4⟩ := HW3.out.shape
  have HS4 := Aside0.mk hS4
  have HR4 := Aside0.mk hR4
  clear hS4 hR4
  obtain ⟨m0, m1, mf0, mf1⟩ := struct_at J0_3.out
  obtain ⟨r0, r1, rf0, rf1⟩ := struct_at J1_3.out
  have hz := HZ3.out
  go_wp2_with fail
  refine bodyPost_ret (v := .tuple #[.agg #[.bool false, .slice none 0 0], .agg #[.bool b4, .slice A4 l4.length c4]]) (by simp [results, Tryz.results6, go_sem, m0, m1, r0, r1, hz]) rfl ?_
  refine ⟨_, _, rfl, IsW.mk (Sl.nil _) ⟨Dig.nil, .inl rfl, (fun h => by cases h), fun _ => rfl⟩ (by simp), IsW.mk (((((HS4.out.far (p := ⟨w.heap.size, 0, none⟩) (ne_two (by simp)) _).far (p := ⟨w.heap.size, 1, none⟩) (ne_two (by simp)) _).far (p := ⟨w.heap.size + 1, 0, none⟩) (ne_two (by simp)) _).far (p := ⟨w.heap.size + 1, 1, none⟩) (ne_two (by simp)) _).mono (fun k hk => .inr (by omega))) HR4.out hl4, ?_⟩
  exact (((HB3.out.setCell (Nat.le_refl _) _).setCell (Nat.le_refl _) _).setCell (Nat.le_succ _) _).setCell (Nat.le_succ _) _

set_option maxRecDepth 100000 in
set_option maxHeartbeats 4000000 in
theorem bounds_signed (P : Nat → Prop) (n : Nat) (z : Int) (hz : z = (n : Int) + 1) (w : World) (hn : n ≤ 1000) :
    Calls Tryz.prog 6 #[.int .i64 z, .bool true] w (RetWW P w (-(2 ^ n)) (2 ^ n - 1) 41) := by
  subst hz
  have J0_0 := Aside0.mk (two_blocks w (.cells #[.bool false, .slice none 0 0] 27) (.cells #[.bool false, .slice none 0 0] 27)).1
  have J1_0 := Aside0.mk (two_blocks w (.cells #[.bool false, .slice none 0 0] 27) (.cells #[.bool false, .slice none 0 0] 27)).2
  have HB0 := Aside0.mk (show Below w.heap.size w ((w.alloc (.cells #[.bool false, .slice none 0 0] 27)).alloc (.cells #[.bool false, .slice none 0 0] 27)) from ((Below.refl _ _).alloc (Nat.le_refl _) _).alloc (by simp) _)
  have HZ0 := Aside0.mk (show w.heap.size + 1 < ((w.alloc (.cells #[.bool false, .slice none 0 0] 27)).alloc (.cells #[.bool false, .slice none 0 0] 27)).heap.size by simp)
  go_enter Tryz.func6, Tryz.ntmps6
  go_wp2_with fail
  go_at_call 13; refine (Two_any (fun k => w.heap.size + 1 < k) n _ hn).mono ?_; rintro e w1 ⟨v1, rfl, hW, hb⟩; have HW1 := Aside0.mk (hW.mono (new_only (by have := HZ0.out; omega))); have J0_1 := Aside0.mk (own_far hb J0_0.out (Nat.le_refl _)); have J1_1 := Aside0.mk (own_far hb J1_0.out (Nat.le_refl _)); have HB1 := Aside0.mk (HB0.out.trans (hb.mono HB0.out.size) : Below w.heap.size w w1); have HZ1 := Aside0.mk (show w.heap.size + 1 < w1.heap.size from Nat.lt_of_lt_of_le HZ0.out hb.size); clear hW hb
  go_wp2_with fail
  go_at_call 14; refine (Negated_any (fun k => w.heap.size + 1 < k) _ (2 ^ n) 40 _ (HW1.out.more (pow_len n hn)) (by omega)).mono ?_; rintro e w2 ⟨v2, rfl, hW, hb⟩; have HW2 := Aside0.mk (hW.mono (new_only (by have := HZ1.out; omega))); have J0_2 := Aside0.mk (own_far hb J0_1.out (Nat.le_refl _)); have J1_2 := Aside0.mk (own_far hb J1_1.out (Nat.le_refl _)); have HB2 := Aside0.mk (HB1.out.trans (hb.mono HB1.out.size) : Below w.heap.size w w2); have HZ2 := Aside0.mk (show w.heap.size + 1 < w2.heap.size from Nat.lt_of_lt_of_le HZ1.out hb.size); clear hW hb
  go_wp2_with fail
  go_at_call 13; refine (Two_any (fun k => w.heap.size + 1 < k) n _ hn).mono ?_; rintro e w3 ⟨v3, rfl, hW, hb⟩; have HW3 := Aside0.mk (hW.mono (new_only (by have := HZ2.out; omega))); have HW2_3 := Aside0.mk (HW2.out.below hb); have J0_3 := Aside0.mk (own_far hb J0_2.out (Nat.le_refl _)); have J1_3 := Aside0.mk (own_far hb J1_2.out (Nat.le_refl _)); have HB3 := Aside0.mk (HB2.out.trans (hb.mono HB2.out.size) : Below w.heap.size w w3); have HZ3 := Aside0.mk (show w.heap.size + 1 < w3.heap.size from Nat.lt_of_lt_of_le HZ2.out hb.size); clear hW hb
  go_wp2_with fail
  go_at_call 16; refine (WideInt_any (fun k => w.heap.size + 1 < k) 1 _ (by omega)).mono ?_; rintro e w4 ⟨v4, rfl, hW, hb⟩; have HW4 := Aside0.mk (hW.mono (new_only (by have := HZ3.out; omega))); have HW2_4 := Aside0.mk (HW2_3.out.below hb); have HW3_4 := Aside0.mk (HW3.out.below hb); have J0_4 := Aside0.mk (own_far hb J0_3.out (Nat.le_refl _)); have J1_4 := Aside0.mk (own_far hb J1_3.out (Nat.le_refl _)); have HB4 := Aside0.mk (HB3.out.trans (hb.mono HB3.out.size) : Below w.heap.size w w4); have HZ4 := Aside0.mk (show w.heap.size + 1 < w4.heap.size from Nat.lt_of_lt_of_le HZ3.out hb.size); clear hW hb
  go_wp2_with fail
  go_at_call 15; refine (WideSub_any (fun k => w.heap.size + 1 < k) _ _ (2 ^ n) 1 40 _ (HW3_4.out.more (pow_len n hn)) (HW4.out.more (by omega)) (by omega)).mono ?_; rintro e w5 ⟨v5, rfl, hW, hb⟩; have HW5 := Aside0.mk (hW.mono (new_only (by have := HZ4.out; omega))); have HW2_5 := Aside0.mk (HW2_4.out.below hb); have J0_5 := Aside0.mk (own_far hb J0_4.out (Nat.le_refl _)); have J1_5 := Aside0.mk (own_far hb J1_4.out (Nat.le_refl _)); have HB5 := Aside0.mk (HB4.out.trans (hb.mono HB4.out.size) : Below w.heap.size w w5); have HZ5 := Aside0.mk (show w.heap.size + 1 < w5.heap.size from Nat.lt_of_lt_of_le HZ4.out hb.size); clear hW hb
  obtain ⟨b3, A3, c3, l3, rfl, hS3, hR3, hl3⟩ := HW2_5.out.shape
  obtain ⟨b4, A4, c4, l4, rfl, hS4, hR4, hl4⟩ := HW5.out.shape
  have HS3 := Aside0.mk hS3
  have HR3 := Aside0.mk hR3
  have HS4 := Aside0.mk hS4
  have HR4 := Aside0.mk hR4
  clear hS4 hR4 hS3 hR3
  obtain ⟨m0, m1, mf0, mf1⟩ := struct_at J0_5.out
  obtain ⟨r0, r1, rf0, rf1⟩ := struct_at J1_5.out
  have hz := HZ5.out
  go_wp2_with fail
  refine bodyPost_ret (v := .tuple #[.agg #[.bool b3, .slice A3 l3.length c3], .agg #[.bool b4, .slice A4 l4.length c4]]) (by simp [results, Tryz.results6, go_sem, m0, m1, r0, r1, hz]) rfl ?_
  refine ⟨_, _, rfl, IsW.mk (((((HS3.out.far (p := ⟨w.heap.size, 0, none⟩) (ne_two (by simp)) _).far (p := ⟨w.heap.size, 1, none⟩) (ne_two (by simp)) _).far (p := ⟨w.heap.size + 1, 0, none⟩) (ne_two (by simp)) _).far (p := ⟨w.heap.size + 1, 1, none⟩) (ne_two (by simp)) _).mono (fun k hk => .inr (by omega))) HR3.out (by omega), IsW.mk (((((HS4.out.far (p := ⟨w.heap.size, 0, none⟩) (ne_two (by simp)) _).far (p := ⟨w.heap.size, 1, none⟩) (ne_two (by simp)) _).far (p := ⟨w.heap.size + 1, 0, none⟩) (ne_two (by simp)) _).far (p := ⟨w.heap.size + 1, 1, none⟩) (ne_two (by simp)) _).mono (fun k hk => .inr (by omega))) HR4.out hl4, ?_⟩
  exact (((HB5.out.setCell (Nat.le_refl _) _).setCell (Nat.le_refl _) _).setCell (Nat.le_succ _) _).setCell (Nat.le_succ _) _

end Go.Proofs.YtlhfmbpijcniaaaGreat.WidemagDiv
