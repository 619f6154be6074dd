/- A negative integer as a word of 64 bits: the walk. No condition beyond small lengths. -/
import Derived.Test.YtipnmcnacgmmnaaWdDivW
import Derived.Deep.DeepCutAuto
import Derived.Deep.Light
namespace Go.Proofs.Ytipnmcnacgmmnaa.WidemagDiv
open Go.RowKit Go.Proofs.Ytipnmcnacgmmnaa.PmagDiv Go.Proofs.YtipnmcnacgmmnaaW.PrintWords Go.Proofs.YtipnmcnacgmmnaaW.PrintLast Go.Proofs.YtipnmcnacgmmnaaW.PrintMore
set_option linter.unusedVariables false
set_option linter.unusedSimpArgs false

theorem keep_al {w : World} {g k : Nat} {x : Value} {o : Obj} (q : w.cell? ⟨g, k, none⟩ = some x) : (w.alloc o).cell? ⟨g, k, none⟩ = some x :=
  (World.cell?_alloc_some w _ o (by rw [q]; rfl)).trans q
theorem keep_dr {w : World} {g k : Nat} {x : Value} (q : w.cell? ⟨g, k, none⟩ = some x) : w.drew.cell? ⟨g, k, none⟩ = some x := q
theorem keep_set {w : World} {g k h j : Nat} {x u : Value} (hne : g ≠ h) (q : w.cell? ⟨g, k, none⟩ = some x) : (w.setCell ⟨h, j, none⟩ u).cell? ⟨g, k, none⟩ = some x := by
  rw [World.cell?_setCell_other _ _ _ _ (by simp [hne])]
  exact q
theorem set2_here {w : World} {g t : Nat} {f : Nat × Nat} {x y : Value} (h : w.heap[g]? = some (.cells #[.bool false, .slice none 0 0] t f)) : ((w.setCell ⟨g, 0, none⟩ x).setCell ⟨g, 1, none⟩ y).heap[g]? = some (.cells #[x, y] t f) := by
  simp only [World.setCell, Array.getElem?_modify, if_pos, h]
  simp
theorem set2_any {w : World} {g t : Nat} {f : Nat × Nat} {a b x y : Value} (h : w.heap[g]? = some (.cells #[a, b] t f)) : ((w.setCell ⟨g, 0, none⟩ x).setCell ⟨g, 1, none⟩ y).heap[g]? = some (.cells #[x, y] t f) := by
  simp only [World.setCell, Array.getElem?_modify, if_pos, h]
  simp
theorem neg_words {b : Bool} {l : List Int} {z : Int} (hz : z < 0) (h : Rep b l (-((-z) % 18446744073709551616) + 18446744073709551616)) : mag (l.take 2) = z % 18446744073709551616 := by
  obtain rfl : b = false := by
    cases b with
    | false => rfl
    | true => have := h.neg_lt rfl; omega
  have hp := h.pos rfl
  rw [mag_low2 h.dig, ← hp]
  omega
theorem set1_skip {w : World} {g h k : Nat} {o : Obj} {x : Value} (hne : h ≠ g) (q : w.heap[g]? = some o) : (w.setCell ⟨h, k, none⟩ x).heap[g]? = some o := by
  simp only [World.setCell, Array.getElem?_modify, if_neg hne, q]
theorem isw_set {P : Nat → Prop} {w : World} {v u : Value} {z : Int} {B g k : Nat} (hne : ∀ j, P j → j ≠ g) (h : IsW P w v z B) : IsW P (w.setCell ⟨g, k, none⟩ u) v z B := h.far (p := ⟨g, k, none⟩) hne u
theorem isw_al {P : Nat → Prop} {w : World} {v : Value} {z : Int} {B : Nat} {o : Obj} (h : IsW P w v z B) : IsW P (w.alloc o) v z B := h.below ((Below.refl _ _).alloc (Nat.le_refl _) o)
theorem bel_set {w w' : World} {N g k : Nat} {u : Value} (hN : N ≤ g) (h : Below N w w') : Below N w (w'.setCell ⟨g, k, none⟩ u) := h.setCell hN u
theorem ne_newer {n m : Nat} (h : n < m) : ∀ k, (k ≠ n ∨ m ≤ k) → k ≠ n := by omega
theorem heap_al {w : World} {g : Nat} {o o' : Obj} (h : w.heap[g]? = some o) : (w.alloc o').heap[g]? = some o := heap_old w o' h
theorem heap_last {w : World} {g : Nat} {o : Obj} (hg : g = w.heap.size) : (w.alloc o).heap[g]? = some o := by
  subst hg
  exact heap_alloc_new w o
theorem bel_al {w w' : World} {o : Obj} (h : Below w.heap.size w w') : Below w.heap.size w (w'.alloc o) := h.alloc h.size _
theorem heap_nw {w : World} {g : Nat} {o o' : Obj} (hg : g = w.heap.size + 1) : ((w.alloc o').alloc o).heap[g]? = some o := by
  subst hg
  have h := heap_alloc_new (w.alloc o') o
  simpa using h
/-- The block of the words, told by its number. -/
def TwN (n : Nat) (w5 : World) (x : Int) (W : World) : Prop := n = w5.heap.size ∧ TwR w5 x W
theorem TwN.set {n : Nat} {w5 W : World} {x : Int} (h : TwN n w5 x W) (y : Int) : TwN n w5 y (W.setCell ⟨n, 0, none⟩ (.int .u64 y)) := by
  obtain ⟨rfl, h⟩ := h
  exact ⟨rfl, h.set y⟩
theorem TwN.drew {n : Nat} {w5 W : World} {x : Int} (h : TwN n w5 x W) : TwN n w5 x W.drew := ⟨h.1, h.2.drew⟩
theorem TwN.cell {n : Nat} {w5 W : World} {x : Int} (h : TwN n w5 x W) : W.cell? ⟨n, 0, none⟩ = some (.int .u64 x) ∧ W.frozen? ⟨n, 0, none⟩ = false := by
  obtain ⟨rfl, h⟩ := h
  exact h.cell
theorem TwN.old {n : Nat} {w5 W : World} {x : Int} (h : TwN n w5 x W) {g : Nat} {o : Obj} (ho : w5.heap[g]? = some o) (hg : g < w5.heap.size) : W.heap[g]? = some o := h.2.old ho hg
theorem TwN.bel {n : Nat} {w5 W : World} {x : Int} (h : TwN n w5 x W) : Below w5.heap.size w5 W := h.2.2
theorem TwN.blk {n : Nat} {w5 W : World} {x : Int} (h : TwN n w5 x W) : W.heap[n]? = some (.cells #[.int .u64 x] 28 (0, 0)) := by
  obtain ⟨rfl, h⟩ := h
  exact h.1
/-- What the division leaves: a struct in a block of the call's own. -/
structure RemAt (w : World) (g : Nat) (r : Int) (x y : Value) (W : World) : Prop where
  blk : ∃ b A c n, W.heap[g]? = some (.cells #[.bool b, .slice A n c] 25 (0, 0)) ∧ IsW (fun k => k ≠ w.heap.size) W (.agg #[.bool b, .slice A n c]) r 903
  old : W.heap[w.heap.size]? = some (.cells #[x, y] 25 (0, 0))
  bel : Below w.heap.size w W
set_option maxRecDepth 100000 in
set_option maxHeartbeats 4000000 in
theorem ToWords_neg (P : Nat → Prop) (v : Value) (z : Int) (B : Nat) (w : World) (hv : IsW P w v z B) (hz : z < 0) (hB : B ≤ 900) :
    Calls Try.prog 20 #[v, .int .i64 1] w (RetWord w (z % 18446744073709551616)) := by
  obtain ⟨b, A, c, l, rfl, hS, hR, hl⟩ := hv.shape
  obtain rfl : b = true := by
    cases b with
    | true => rfl
    | false => have := hR.pos_le rfl; omega
  have HS := Aside0.mk (hS.mono (Q := fun _ => True) fun _ _ => True.intro)
  have HSO := Aside0.mk (hS.old.mono (Q := fun k => k < w.heap.size) fun _ h => h.2)
  have HR := Aside0.mk hR
  have HB0 := Aside0.mk (Below.refl w.heap.size w)
  have T0 := Aside0.mk (heap_alloc_new w (.cells #[.bool true, .slice A l.length c] 25))
  clear hS hR hv
  have hmk := print_make (P := Try.prog) 49 28 .u64 8 Try.underlying49 (by kernel_rfl) (by omega) 1 (by omega)
  rw [show ((1 : Nat) : Int) = 1 from rfl] at hmk
  go_enter Try.func20, Try.ntmps20
  go_wp2_with (go_at_call 17; refine (Two_lit (fun k => w.heap.size < k) 63 _ 9223372036854775808 2 rfl p63 (by omega) _ (by omega)).mono ?_; rintro e w1 ⟨v1, rfl, hW, hb⟩; have HW1 := Aside0.mk (hW.mono (Q := fun _ => True) fun _ _ => True.intro); have J1 := Aside0.mk (own_far hb T0.out (Nat.le_refl _)); have HB1 := Aside0.mk ((((Below.refl _ _).alloc (Nat.le_refl _) _).trans (hb.mono (by simp))) : Below w.heap.size w w1); have HZ1 := Aside0.mk (show w.heap.size < w1.heap.size by have := hb.size; simp at this; omega); obtain ⟨b1, A1, c1, l1, rfl, hS1, hR1, hl1⟩ := HW1.out.shape; have HS1 := Aside0.mk hS1; have HR1 := Aside0.mk hR1; clear hW hb hS1 hR1)
  have JA2 := Aside0.mk (show (w1.alloc (.cells #[.bool b1, .slice A1 l1.length c1] 25)).drew.heap[w.heap.size]? = _ from heap_old w1 _ J1.out)
  have JB2 := Aside0.mk (show (w1.alloc (.cells #[.bool b1, .slice A1 l1.length c1] 25)).drew.heap[w1.heap.size]? = _ from heap_alloc_new w1 _)
  have HBA := Aside0.mk (((Below.refl w1.heap.size w1).alloc (Nat.le_refl _) (.cells #[.bool b1, .slice A1 l1.length c1] 25)).drew)
  have HB2 := Aside0.mk (HB1.out.trans (HBA.out.mono HB1.out.size) : Below w.heap.size w (w1.alloc (.cells #[.bool b1, .slice A1 l1.length c1] 25)).drew)
  have HZ2 := Aside0.mk (Nat.lt_of_lt_of_le HZ1.out HBA.out.size)
  obtain ⟨ka2, kb2, _, _⟩ := struct_at JA2.out
  obtain ⟨kc2, kd2, _, _⟩ := struct_at JB2.out
  have HCM := Aside0.mk (cmpI_lt (show z < 9223372036854775808 by omega))
  generalize hqy : cmpI z (-9223372036854775808) = qy
  have HCN := Aside0.mk hqy
  clear hqy
  go_region_held3 (fun w' => w'.cell? ⟨w.heap.size, 0, none⟩ = some (.bool true) ∧ w'.cell? ⟨w.heap.size, 1, none⟩ = some (.slice A l.length c) ∧ w'.cell? ⟨w1.heap.size, 0, none⟩ = some (.bool b1) ∧ w'.cell? ⟨w1.heap.size, 1, none⟩ = some (.slice A1 l1.length c1)) (first | exact ⟨ka4, kb4, kc4, kd4⟩ | exact ⟨ka5, kb5, kc5, kd5⟩ | exact ⟨ka3, kb3, kc3, kd3⟩ | exact ⟨ka2, kb2, kc2, kd2⟩ | (go_keep; done)) (first | (go_at_call 21; refine (WideCmp_any (fun _ => True) _ _ z 9223372036854775808 (B + 2) _ (IsW.mk (HS.out.below HB2.out) HR.out (by omega)) (IsW.mk (HS1.out.below HBA.out) HR1.out (by omega)) (by omega)).mono ?_; rintro e w3 ⟨rfl, hb⟩; rw [HCM.out]; have JA3 := Aside0.mk (own_far hb JA2.out (Nat.le_refl _)); have JB3 := Aside0.mk (own_far hb JB2.out (Nat.le_refl _)); have HB3 := Aside0.mk (HB2.out.trans (hb.mono HB2.out.size) : Below w.heap.size w w3); have HZ3 := Aside0.mk (Nat.lt_of_lt_of_le HZ2.out hb.size); obtain ⟨ka3, kb3, _, _⟩ := struct_at JA3.out; obtain ⟨kc3, kd3, _, _⟩ := struct_at JB3.out; have HB3b := Aside0.mk (HBA.out.trans (hb.mono (by simp))); clear hb HBA) | (go_at_call 18; refine (Negated_any (fun _ => True) _ 9223372036854775808 2 _ (IsW.mk (HS1.out.below HB3b.out) HR1.out hl1) (by omega)).mono ?_; rintro e w4 ⟨v4, rfl, hW4, hb⟩; have HW4 := Aside0.mk (hW4.mono (Q := fun _ => True) fun _ _ => True.intro); have JA4 := Aside0.mk (own_far hb JA3.out (Nat.le_refl _)); have JB4 := Aside0.mk (own_far hb JB3.out (Nat.le_refl _)); have HB4 := Aside0.mk (HB3.out.trans (hb.mono HB3.out.size) : Below w.heap.size w w4); have HZ4 := Aside0.mk (Nat.lt_of_lt_of_le HZ3.out hb.size); obtain ⟨ka4, kb4, _, _⟩ := struct_at JA4.out; obtain ⟨kc4, kd4, _, _⟩ := struct_at JB4.out; clear hb hW4) | (go_at_call 21; refine (WideCmp_any (fun _ => True) _ _ z (-9223372036854775808) (B + 2) _ (IsW.mk (HS.out.below HB4.out) HR.out (by omega)) (HW4.out.more (by omega)) (by omega)).mono ?_; rintro e w5 ⟨rfl, hb⟩; rw [HCN.out]; have JA5 := Aside0.mk (own_far hb JA4.out (Nat.le_refl _)); have HB5 := Aside0.mk (HB4.out.trans (hb.mono HB4.out.size) : Below w.heap.size w w5); have HZ5 := Aside0.mk (Nat.lt_of_lt_of_le HZ4.out hb.size); obtain ⟨ka5, kb5, _, _⟩ := struct_at JA5.out; obtain ⟨kc5, kd5, _, _⟩ := struct_at (own_far hb JB4.out (Nat.le_refl _)); clear hb))
  have HV5 := Aside0.mk (IsW.mk (HSO.out.below HB5.out) HR.out (show l.length ≤ B + 3 by omega))
  clear HCM HCN JA2 JA3 JA4 JB2 JB3 JB4 HB2 HB3 HB4 HZ2 HZ3 HZ4 ka2 kb2 kc2 kd2 ka3 kb3 kc3 kd3 ka4 kb4 kc4 kd4 HB3b HS1 HR1 HW1 HW4
  go_upto_region 4 with (fail)
  go_cut [9] (fun s9 W => ∃ g : Nat, s9 = .pointer (some ⟨g, 0, none⟩) ∧ w.heap.size < g ∧ Aside0 (RemAt w g (-((-z) % 18446744073709551616)) (.bool true) (.slice A l.length c) W))
  case first =>
    go_region_held3 (fun w' => w'.cell? ⟨w.heap.size, 0, none⟩ = some (.bool true) ∧ w'.cell? ⟨w.heap.size, 1, none⟩ = some (.slice A l.length c)) (with_reducible first | exact ⟨ka5, kb5⟩ | exact ⟨ka6, kb6⟩ | exact ⟨ka7, kb7⟩ | ((refine ⟨?_, ?_⟩ <;> (repeat (first | exact ka7 | exact kb7 | exact ka6 | exact kb6 | exact ka5 | exact kb5 | refine keep_al ?_ | refine keep_dr ?_ | refine keep_set (by omega) ?_))); done)) (first | (go_at_call 17; have HB55 := Aside0.mk (Below.refl w5.heap.size w5); refine (Two_lit (fun _ => False) 64 _ 18446744073709551616 3 rfl p64 (by omega) _ (by omega)).mono ?_; rintro e w6 ⟨v6, rfl, hW, hb⟩; obtain ⟨PT, hPT, hWT⟩ : ∃ PT : Nat → Prop, (∀ k, PT k → _ ≤ k ∧ k < w6.heap.size) ∧ IsW PT w6 v6 18446744073709551616 3 := ⟨_, fun k hk => ⟨hk.1.resolve_left (fun h => h), hk.2⟩, hW.old⟩; have HPT := Aside0.mk hPT; have HW6 := Aside0.mk (hWT.more (show 3 ≤ B + 3 by omega)); clear hPT hWT; have HB56 := Aside0.mk (((by repeat (first | (with_reducible first | exact HB55.out | apply below_alloc | apply pw_below_drewN | apply below_drew1) | exact HB55.out)) : Below w5.heap.size w5 _).trans (hb.mono (by simp <;> omega)) : Below w5.heap.size w5 w6); (first | (have I8 := Aside0.mk (own_far hb (two_blocks w5 _ _).1 (Nat.le_refl _)); have I9 := Aside0.mk (own_far hb (two_blocks w5 _ _).2 (Nat.le_refl _))) | (have I8 := Aside0.mk (own_far hb (heap_alloc_new w5 _) (Nat.le_refl _))) | skip); have JA6 := Aside0.mk (own_far HB56.out JA5.out (Nat.le_refl _)); have HB6 := Aside0.mk (HB5.out.trans (HB56.out.mono HB5.out.size) : Below w.heap.size w w6); have HV6 := Aside0.mk (HV5.out.below HB56.out); have HZ6 := Aside0.mk (Nat.lt_of_lt_of_le HZ5.out HB56.out.size); obtain ⟨ka6, kb6, _, _⟩ := struct_at JA6.out; have hz67 := HZ6.out; have hz55 := HZ5.out; have hz58 := hb.size; (try simp at hz58); clear hW hb) | (go_at_call 31; have HB66 := Aside0.mk (Below.refl w6.heap.size w6); refine (WideDiv_neg (fun k => k < w.heap.size ∨ PT k) _ _ z 18446744073709551616 (B + 3) _ ((HV6.out.mono fun _ h => .inl h).below (by repeat (first | (with_reducible first | exact HB66.out | apply below_alloc | apply pw_below_drewN | apply below_drew1) | exact HB66.out))) ((HW6.out.mono fun _ h => .inr h).below (by repeat (first | (with_reducible first | exact HB66.out | apply below_alloc | apply pw_below_drewN | apply below_drew1) | exact HB66.out))) hz (by omega) (by omega)).mono ?_; rintro e w7 ⟨vq, vr, bq, Aq, cq, nq, rfl, rfl, hWr, hb⟩; obtain ⟨br, Ar, cr, lr, rfl, hSr, hRr, hlr⟩ := hWr.shape; obtain ⟨PR, hPR, hWR⟩ : ∃ PR : Nat → Prop, (∀ k, PR k → ((k < w.heap.size ∨ PT k) ∨ _ ≤ k) ∧ k < w7.heap.size) ∧ IsW PR w7 (.agg #[.bool br, .slice Ar lr.length cr]) (-((-z) % 18446744073709551616)) (B + 3) := ⟨_, fun k hk => hk, hWr.old⟩; have HPR := Aside0.mk hPR; have HVR := Aside0.mk (hWR.more (show B + 3 ≤ 903 by omega)); clear hPR hWR; have HB67 := Aside0.mk (((by repeat (first | (with_reducible first | exact HB66.out | apply below_alloc | apply pw_below_drewN | apply below_drew1) | exact HB66.out)) : Below w6.heap.size w6 _).trans (hb.mono (by simp <;> omega)) : Below w6.heap.size w6 w7); (first | (have KX := Aside0.mk (own_far hb (two_blocks w6 _ _).1 (Nat.le_refl _)); have KY := Aside0.mk (own_far hb (two_blocks w6 _ _).2 (Nat.le_refl _)); obtain ⟨x0, x1, x2, x3⟩ := struct_at (own_far hb (two_blocks w6 _ _).1 (Nat.le_refl _)); obtain ⟨y0, y1, y2, y3⟩ := struct_at (own_far hb (two_blocks w6 _ _).2 (Nat.le_refl _)); have hx7 : w6.heap.size + 1 < w7.heap.size := by have := hb.size; simp at this; omega) | (have KX := Aside0.mk (own_far hb (heap_alloc_new w6 _) (Nat.le_refl _)); obtain ⟨x0, x1, x2, x3⟩ := struct_at (own_far hb (heap_alloc_new w6 _) (Nat.le_refl _)); have hx7 : w6.heap.size < w7.heap.size := by have := hb.size; simp at this; omega) | skip); (first | (have K8 := own_far HB67.out I8.out (Nat.le_refl _); have K9 := own_far HB67.out I9.out (Nat.le_refl _); obtain ⟨u0, u1, u2, u3⟩ := struct_at K8; obtain ⟨t0, t1, t2, t3⟩ := struct_at K9; have hu7 := (Array.getElem?_eq_some_iff.1 K9).1; have KU := Aside0.mk K8; have KT := Aside0.mk K9; clear K8 K9) | (have K8 := own_far HB67.out I8.out (Nat.le_refl _); obtain ⟨u0, u1, u2, u3⟩ := struct_at K8; have hu7 := (Array.getElem?_eq_some_iff.1 K8).1; have hn56 : ¬ w5.heap.size = w6.heap.size := Nat.ne_of_lt (Array.getElem?_eq_some_iff.1 I8.out).1; have hn65 : ¬ w6.heap.size = w5.heap.size := fun h => hn56 h.symm; have KU := Aside0.mk K8; clear K8) | skip); have HZ7 := Aside0.mk (Nat.lt_of_lt_of_le HZ6.out HB67.out.size); have HB7 := Aside0.mk (HB6.out.trans (HB67.out.mono HB6.out.size) : Below w.heap.size w w7); have JA7 := Aside0.mk ((HB67.out.block _ HZ6.out).trans JA6.out); obtain ⟨ka7, kb7, fa7, fb7⟩ := struct_at JA7.out; have hz77 := HZ7.out; have hz56 := HB56.out.size; have hz67 := HB67.out.size; clear hWr hSr hRr))
    all_goals (go_wp2_with fail; go_meet)
    all_goals go_light
    all_goals refine ⟨_, rfl, ?_, ⟨⟨⟨br, Ar, cr, lr.length, ?_, IsW.mono (P := PR) ?_ ?_⟩, ?_, ?_⟩⟩⟩
    all_goals repeat' (with_reducible first | exact KU.out | exact KT.out | exact KX.out | exact KY.out | exact JA7.out | refine set2_here ?_ | refine heap_last ?_ | refine heap_al ?_ | refine set1_skip ?_ ?_ | exact HVR.out | refine isw_al ?_ | refine isw_set ?_ ?_ | exact HB7.out | refine bel_set ?_ ?_ | refine bel_al ?_)
    all_goals first
      | (intro k hk; rcases HPR.out k hk with ⟨(h | h) | h, h'⟩; (omega); (have h3 := (HPT.out k h).1; have h4 := (HPT.out k h).2; (try simp at h3); omega); ((try simp at h); omega))
      | omega
      | (simp; done)
  case rest =>
    obtain ⟨g, rfl, hg, HM⟩ := hcut
    obtain ⟨br, Ar, cr, nr, hbr, hWr⟩ := HM.out.blk
    have HBR := Aside0.mk hbr
    have HWR := Aside0.mk hWr
    have HOL := Aside0.mk HM.out.old
    have HBM := Aside0.mk HM.out.bel
    have HBC := Aside0.mk (Below.refl wc.heap.size wc)
    obtain ⟨r0, r1, rf0, rf1⟩ := struct_at hbr
    obtain ⟨o0, o1, of0, of1⟩ := struct_at HOL.out
    have HOLT := Aside0.mk (show w.heap.size < wc.heap.size from (Array.getElem?_eq_some_iff.1 HOL.out).1)
    clear hbr hWr HM
    go_wp2_with fail
    go_region_held3 (fun w' => w'.cell? ⟨g, 0, none⟩ = some (.bool br) ∧ w'.cell? ⟨g, 1, none⟩ = some (.slice Ar nr cr)) (with_reducible first | exact ⟨r0, r1⟩ | exact ⟨p0, p1⟩ | exact ⟨s0, s1⟩ | ((refine ⟨?_, ?_⟩ <;> (repeat (first | exact s0 | exact s1 | exact p0 | exact p1 | exact r0 | exact r1 | refine keep_al ?_ | refine keep_dr ?_ | refine keep_set hgne ?_))); done)) (first | (go_at_call 17; refine (Two_lit (fun k => k ≠ w.heap.size) 64 _ 18446744073709551616 3 rfl p64 (by omega) _ (by omega)).mono ?_; rintro e w8 ⟨v8, rfl, hW, hb⟩; have HW8 := Aside0.mk ((hW.more (show 3 ≤ 903 by omega)).mono (ne_newer (by simp <;> exact HOLT.out))); have HB8 := Aside0.mk (((by repeat (first | (with_reducible first | exact HBC.out | apply below_alloc | apply pw_below_drewN | apply below_drew1) | exact HBC.out)) : Below wc.heap.size wc _).trans (hb.mono (by simp <;> omega)) : Below wc.heap.size wc w8); obtain ⟨p0, p1, pf0, pf1⟩ := struct_at (own_far HB8.out HBR.out (Nat.le_refl _)); have HWR8 := Aside0.mk (HWR.out.below HB8.out); clear hW hb) | (go_at_call 9; refine (WideAdd_any (fun k => k ≠ w.heap.size) _ _ _ 18446744073709551616 903 _ HWR8.out HW8.out (by omega)).mono ?_; rintro e w9 ⟨v9, rfl, hW, hb⟩; obtain ⟨bn, An, cn, ln, rfl, hSn, hRn, hln⟩ := hW.shape; have HB9 := Aside0.mk (HB8.out.trans (hb.mono HB8.out.size) : Below wc.heap.size wc w9); obtain ⟨s0, s1, sf0, sf1⟩ := struct_at (own_far HB9.out HBR.out (Nat.le_refl _)); have JA9 := own_far HB9.out HOL.out (Nat.le_refl _); obtain ⟨y0, y1, yf0, yf1⟩ := struct_at JA9; have hgne : g ≠ w.heap.size := Nat.ne_of_gt hg;  have HSN := Aside0.mk (hSn.mono (ne_newer (Nat.lt_of_lt_of_le HOLT.out HB8.out.size))); have HRN := Aside0.mk hRn; have HLN := Aside0.mk hln; clear hW hb hSn hRn hln))
    go_wp2_with fail
    have HSL := Aside0.mk (show Sl (fun k => k ≠ w.heap.size) ((w9.setCell ⟨w.heap.size, 0, none⟩ (.bool bn)).setCell ⟨w.heap.size, 1, none⟩ (.slice An ln.length cn)) (.slice An ln.length cn) ln from (HSN.out.far (p := ⟨w.heap.size, 0, none⟩) (fun _ h => h) _).far (p := ⟨w.heap.size, 1, none⟩) (fun _ h => h) _)
    have HBW := Aside0.mk (show Below w.heap.size w ((w9.setCell ⟨w.heap.size, 0, none⟩ (.bool bn)).setCell ⟨w.heap.size, 1, none⟩ (.slice An ln.length cn)) from ((HBM.out.trans (HB9.out.mono HBM.out.size)).setCell (Nat.le_refl _) _).setCell (Nat.le_refl _) _)
    have HJW := Aside0.mk (show ((w9.setCell ⟨w.heap.size, 0, none⟩ (.bool bn)).setCell ⟨w.heap.size, 1, none⟩ (.slice An ln.length cn)).heap[w.heap.size]? = some (.cells #[.bool bn, .slice An ln.length cn] 25 (0, 0)) from set2_any JA9)
    have HSZ := Aside0.mk (show ((w9.setCell ⟨w.heap.size, 0, none⟩ (.bool bn)).setCell ⟨w.heap.size, 1, none⟩ (.slice An ln.length cn)).heap.size = w9.heap.size by simp)
    have HMZ := Aside0.mk (show mag (ln.take 2) = z % 18446744073709551616 from neg_words hz HRN.out)
    generalize (w9.setCell ⟨w.heap.size, 0, none⟩ (.bool bn)).setCell ⟨w.heap.size, 1, none⟩ (.slice An ln.length cn) = w10 at HSL HBW HJW HSZ ⊢
    have HC5 := Aside0.mk HSL.out.digits
    have HZW := Aside0.mk (show w.heap.size < w10.heap.size from (Array.getElem?_eq_some_iff.1 HJW.out).1)
    have HG0 := Aside0.mk (show TwN w9.heap.size w10 (mag (ln.take 0)) (w10.alloc (.cells (madeCells #[.int .u64 0] 1) 28)) from ⟨HSZ.out.symm, (heap_alloc_new w10 _).trans (by rw [made1]; rfl), (Below.refl _ _).alloc (Nat.le_refl _) _⟩)
    go_loopw [47] (fun i W => (i = .int .i64 0 ∧ Aside0 (TwN w9.heap.size w10 (mag (ln.take 0)) W)) ∨ (i = .int .i64 1 ∧ Aside0 (TwN w9.heap.size w10 (mag (ln.take 2)) W))) (fun i _ => 1 - (intOf i).toNat)
    case atStart => exact .inl ⟨rfl, HG0⟩
    case round =>
      rcases hrel with ⟨rfl, HG⟩ | ⟨rfl, HG⟩
      · go_wp2_with fail
        go_loopw [12] (fun kv W => ∃ k : Nat, k ≤ 2 ∧ kv = .int .i64 k ∧ Aside0 (TwN w9.heap.size w10 (mag (ln.take k)) W)) (fun kv _ => 2 - (intOf kv).toNat)
        case atStart => exact ⟨0, by omega, rfl, HG⟩
        case round =>
          clear HG
          obtain ⟨k, hk, rfl, HG⟩ := hrel
          obtain ⟨gc, gf⟩ := HG.out.cell
          obtain ⟨pa, pb, _, _⟩ := struct_at (HG.out.old HJW.out HZW.out)
          by_cases hk2 : k < 2
          · by_cases hkl : k < ln.length
            · obtain ⟨ad, ea, hca⟩ := Kd.at_int (Kd.C_below HC5.out HG.out.bel) (k : Int) (by omega) (by omega)
              subst ea
              rw [Int.toNat_natCast] at hca
              obtain ⟨hd0, hd1⟩ := rd_dig HRN.out.dig k
              generalize hdk : rd ln (k : Int) = dk at hca hd0 hd1
              obtain rfl | rfl : k = 0 ∨ k = 1 := by omega
              · rw [Addr.add_zero'] at hca
                have HV0 := Aside0.mk (show Go.bits .or .u64 (mag (ln.take 0)) dk = mag (ln.take (0 + 1)) by rw [mag_take1 hkl, hdk]; exact or_lo dk ⟨hd0, hd1⟩)
                clear hdk
                go_wp2_with fail
                go_region
                go_wp2_with fail
                go_roundw
                case rel => exact ⟨1, by omega, by go_num, ⟨by rw [← HV0.out]; exact (HG.out.set _).drew⟩⟩
                case measure => simp [intOf]
              · rw [Addr.add_succ'] at hca
                have HV1 := Aside0.mk (show Go.bits .or .u64 (mag (ln.take 1)) (dk * 4294967296) = mag (ln.take (1 + 1)) by rw [mag_take2 hkl, hdk]; exact or_hi _ dk (by rw [mag_take1 (by omega)]; exact rd_dig HRN.out.dig 0) ⟨hd0, hd1⟩)
                clear hdk
                go_wp2_with fail
                go_region
                go_wp2_with fail
                go_roundw
                case rel => exact ⟨2, by omega, by go_num, ⟨by rw [← HV1.out]; exact (HG.out.set _).drew⟩⟩
                case measure => simp [intOf]
            · have HE := Aside0.mk (show mag (ln.take (k + 1)) = mag (ln.take k) by rw [List.take_of_length_le (by omega), List.take_of_length_le (by omega)])
              go_wp2_with fail
              go_roundw
              case rel => exact ⟨k + 1, by omega, by go_num, ⟨by rw [HE.out]; exact HG.out⟩⟩
              case measure => simp [intOf]; omega
          · obtain rfl : k = 2 := by omega
            go_wp2_with fail
            go_roundw
            case rel => exact .inr ⟨rfl, HG⟩
            case measure => simp [intOf]
      · go_wp2_with fail
        refine bodyPost_ret (v := .tuple #[.slice (some ⟨w9.heap.size, 0, none⟩) 1 1, _]) (by simp [results, Try.results20, go_sem]; rfl) rfl ?_
        exact ⟨_, _, rfl, HSZ.out ▸ HBW.out.size, HMZ.out ▸ HG.out.blk, HBW.out.trans (HG.out.bel.mono HBW.out.size)⟩

end Go.Proofs.Ytipnmcnacgmmnaa.WidemagDiv
