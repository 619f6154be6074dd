/- What a value of Go says of an integer of any size: a slice of digits, a struct of a sign and digits; and that trimming, wrapping and comparing them does what it says. No condition beyond small lengths. -/
import Derived.Test.YtlhfmbpijcniaaaGreatWdMag
import Derived.Test.YtlhfmbpijcniaaaGreatWdCmp
import Derived.Test.YtlhfmbpijcniaaaGreatWdAdd
import Derived.WalkKit
import Derived.Outline
namespace Go.Proofs.YtlhfmbpijcniaaaGreat.WidemagDiv
open Go.RowKit Go.Proofs.YtlhfmbpijcniaaaGreat.PmagDiv Go.Proofs.YtlhfmbpijcniaaaGreatW.PrintWords Go.Proofs.YtlhfmbpijcniaaaGreatW.PrintLast Go.Proofs.YtlhfmbpijcniaaaGreatW.PrintMore
set_option linter.unusedVariables false
set_option linter.unusedSimpArgs false

/-- A slice of digits in memory, in blocks that are P. -/
def Sl (P : Nat → Prop) (w : World) (v : Value) (l : List Int) : Prop := Kd.V (Kd.int .u32) 0 w 0 P v l
section
variable {P Q : Nat → Prop} {w w' : World} {v : Value} {l : List Int} {z : Int} {B B' : Nat}
theorem Sl.below (h : Sl P w v l) (hb : Below w.heap.size w w') : Sl P w' v l := Kd.V_below h hb
theorem Sl.mono (h : Sl P w v l) (hP : ∀ k, P k → Q k) : Sl Q w v l := Kd.V_mono h hP
theorem Sl.old (h : Sl P w v l) : Sl (fun k => P k ∧ k < w.heap.size) w v l := Kd.V_bound h
theorem Sl.far (h : Sl P w v l) {p : Addr} (hP : ∀ k, P k → k ≠ p.block) (u : Value) : Sl P (w.setCell p u) v l := Kd.V_far h hP u
theorem Sl.shape (h : Sl P w v l) : ∃ A c, v = .slice A l.length c ∧ l.length ≤ c ∧ Kd.C (Kd.int .u32) w A l.length l := by
  obtain ⟨A, c, rfl⟩ := Kd.V_slice h
  obtain ⟨_, h2, h3⟩ := Kd.V_reads' h
  exact ⟨A, c, rfl, h2, h3⟩
theorem Sl.of_V {e base : Nat} (h : Kd.V (Kd.int .u32) e w base P v l) : Sl P w v l := h
theorem Sl.of_R {e base : Nat} (h : Kd.R (Kd.int .u32) e w base P v l) : Sl (fun k => base ≤ k) w v l := (Kd.V_mono (Kd.R_V (base' := 0) (Kd.R_bound h)) fun _ hk => hk.2.1 : Kd.V (Kd.int .u32) e w 0 _ v l)
theorem Sl.toV (e base : Nat) (h : Sl P w v l) : Kd.V (Kd.int .u32) e w base P v l := h
theorem Sl.nil (w : World) : Sl P w (.slice none 0 0) [] := Kd.V_nil _ _ _ _ _
/-- A struct of a sign and digits: an integer. -/
def IsW (P : Nat → Prop) (w : World) (v : Value) (z : Int) (B : Nat) : Prop := ∃ b s l, v = .agg #[.bool b, s] ∧ Sl P w s l ∧ Rep b l z ∧ l.length ≤ B
theorem IsW.map {B' : Nat} (h : IsW P w v z B) (hS : ∀ s l, Sl P w s l → Sl Q w' s l) (hB : B ≤ B') : IsW Q w' v z B' := by
  obtain ⟨b, s, l, h1, h2, h3, h4⟩ := h
  exact ⟨b, s, l, h1, hS _ _ h2, h3, Nat.le_trans h4 hB⟩
theorem IsW.below (h : IsW P w v z B) (hb : Below w.heap.size w w') : IsW P w' v z B := h.map (fun _ _ hs => hs.below hb) (Nat.le_refl _)
theorem IsW.mono (h : IsW P w v z B) (hP : ∀ k, P k → Q k) : IsW Q w v z B := h.map (fun _ _ hs => hs.mono hP) (Nat.le_refl _)
theorem IsW.old (h : IsW P w v z B) : IsW (fun k => P k ∧ k < w.heap.size) w v z B := h.map (fun _ _ hs => hs.old) (Nat.le_refl _)
theorem IsW.far (h : IsW P w v z B) {p : Addr} (hP : ∀ k, P k → k ≠ p.block) (u : Value) : IsW P (w.setCell p u) v z B := h.map (fun _ _ hs => hs.far hP u) (Nat.le_refl _)
theorem IsW.more (h : IsW P w v z B) (hB : B ≤ B') : IsW P w v z B' := h.map (fun _ _ hs => hs) hB
theorem IsW.shape (h : IsW P w v z B) : ∃ b A c l, v = .agg #[.bool b, .slice A l.length c] ∧ Sl P w (.slice A l.length c) l ∧ Rep b l z ∧ l.length ≤ B := by
  obtain ⟨b, s, l, rfl, h2, h3, h4⟩ := h
  obtain ⟨A, c, rfl, _, _⟩ := h2.shape
  exact ⟨b, A, c, l, rfl, h2, h3, h4⟩
theorem IsW.mk {b : Bool} {s : Value} (hS : Sl P w s l) (hR : Rep b l z) (hB : l.length ≤ B) : IsW P w (.agg #[.bool b, s]) z B := ⟨b, s, l, rfl, hS, hR, hB⟩
end
def RetSl (P : Nat → Prop) (w : World) (p : List Int → Prop) (e : Ending) (w' : World) : Prop := ∃ v l, e = .returned v ∧ Sl (fun k => P k ∨ w.heap.size ≤ k) w' v l ∧ p l ∧ Below w.heap.size w w'
def RetW (P : Nat → Prop) (w : World) (z : Int) (B : Nat) (e : Ending) (w' : World) : Prop := ∃ v, e = .returned v ∧ IsW (fun k => P k ∨ w.heap.size ≤ k) w' v z B ∧ Below w.heap.size w w'

/-- What lies below a world's new blocks reads as before. -/
theorem bcell {W w1 : World} (hb : Below W.heap.size W w1) : (∀ b o, b < W.heap.size → w1.cell? ⟨b, o, none⟩ = W.cell? ⟨b, o, none⟩) ∧ (∀ b o, b < W.heap.size → w1.frozen? ⟨b, o, none⟩ = W.frozen? ⟨b, o, none⟩) :=
  ⟨fun b o h => hb.cell (p := ⟨b, o, none⟩) h, fun b o h => hb.frozen (p := ⟨b, o, none⟩) h⟩

/-- A block that the call made first is none of what came in, nor of what was made behind it. -/
theorem ne_new {P : Nat → Prop} {w : World} (o : Obj) : ∀ k, ((P k ∧ k < w.heap.size) ∨ (w.alloc o).heap.size ≤ k) → k ≠ w.heap.size := by
  rintro k (⟨_, h⟩ | h)
  · omega
  · simp at h; omega
theorem old_new {P : Nat → Prop} {w : World} (o : Obj) : ∀ k, ((P k ∧ k < w.heap.size) ∨ (w.alloc o).heap.size ≤ k) → P k ∨ w.heap.size ≤ k := by
  rintro k (⟨h, _⟩ | h)
  · exact .inl h
  · simp at h; exact .inr (by omega)
theorem rep_false {l r : List Int} (h2 : mag r = mag l) (h3 : Nrm r) (h5 : Dig r) : Rep false r (if false = true then - mag l else mag l) := by
  have h := rep_wide (b := false) h2 h3 h5
  exact h
theorem rep_true {l r : List Int} (h2 : mag r = mag l) (h3 : Nrm r) (h5 : Dig r) : Rep (decide (0 < r.length)) r (if true = true then - mag l else mag l) := by
  have h := rep_wide (b := true) h2 h3 h5
  simpa using h

/-! ### the printed ones, under these words -/
theorem trim_any (P : Nat → Prop) (v : Value) (l : List Int) (w : World) (hS : Sl P w v l) (hl : l.length ≤ 1000000) :
    Calls Tryz.prog 48 #[v] w (RetSl P w fun r => mag r = mag l ∧ Nrm r ∧ r.length ≤ l.length ∧ (Dig l → Dig r)) := by
  obtain ⟨A, c, rfl, hc, hC⟩ := hS.shape
  obtain ⟨r, h1, h2⟩ := trim_f (l.length + 1) l (by omega) (by omega)
  refine (spec_trim.calls _ P A c l r w (hS.toV _ _) h1).mono ?_
  rintro e w' ⟨v', rfl, hV, hb⟩
  exact ⟨v', r, rfl, Sl.of_V hV, h2, hb⟩
theorem magAdd_any (P : Nat → Prop) (M : Nat) (v1 v2 : Value) (l1 l2 : List Int) (w : World) (h1 : Sl P w v1 l1) (h2 : Sl P w v2 l2) (d1 : Dig l1) (d2 : Dig l2) (hl1 : l1.length ≤ M) (hl2 : l2.length ≤ M) (hM : M ≤ 1000000) :
    Calls Tryz.prog 49 #[v1, v2] w (RetSl P w fun r => mag r = mag l1 + mag l2 ∧ Dig r ∧ r.length ≤ M + 1) := by
  obtain ⟨A1, c1, rfl, hc1, hC1⟩ := h1.shape
  obtain ⟨A2, c2, rfl, hc2, hC2⟩ := h2.shape
  obtain ⟨r, e1, e2⟩ := magAdd_f M (2 * M + 5) l1 l2 d1 d2 hl1 hl2 (by omega) (by omega)
  refine (spec_magAdd.calls _ A1 c1 l1 A2 c2 l2 r w hC1 hc1 hC2 hc2 e1).mono ?_
  rintro e w' ⟨v', rfl, hV, hb⟩
  exact ⟨v', r, rfl, (Sl.of_R hV).mono fun _ hk => .inr hk, e2, hb⟩
theorem magCmp_any (P : Nat → Prop) (v1 v2 : Value) (l1 l2 : List Int) (w : World) (h1 : Sl P w v1 l1) (h2 : Sl P w v2 l2) (d1 : Dig l1) (d2 : Dig l2) (n1 : Nrm l1) (n2 : Nrm l2) (hl1 : l1.length ≤ 1000000) :
    Calls Tryz.prog 27 #[v1, v2] w fun e w' => e = .returned (.int .i64 (cmpI (mag l1) (mag l2))) ∧ Below w.heap.size w w' := by
  obtain ⟨A1, c1, rfl, hc1, hC1⟩ := h1.shape
  obtain ⟨A2, c2, rfl, hc2, hC2⟩ := h2.shape
  refine (spec_magCmp.calls _ A1 c1 l1 A2 c2 l2 _ w hC1 hc1 hC2 hc2 (magCmp_f (l1.length + 1) l1 l2 d1 d2 n1 n2 (by omega) (by omega))).mono ?_
  rintro e w' ⟨rfl, hd⟩
  exact ⟨rfl, hd.below⟩

/-! ### wide: a sign and digits -/
set_option maxRecDepth 100000 in
theorem wide_any (P : Nat → Prop) (b : Bool) (v : Value) (l : List Int) (w : World) (hS : Sl P w v l) (hd : Dig l) (hl : l.length ≤ 1000000) :
    Calls Tryz.prog 24 #[.bool b, v] w (RetW P w (if b = true then - mag l else mag l) l.length) := by
  obtain ⟨A, c, rfl, hc, hC⟩ := hS.shape
  have HS := Aside0.mk hS.old
  have HD := Aside0.mk hd
  clear hS hd hC
  cases b
  all_goals
    go_enter Tryz.func24, Tryz.ntmps24
    go_wp2_with (go_at_call 48; refine (trim_any _ _ l _ (HS.out.below ((Below.refl _ _).alloc (Nat.le_refl _) _)) hl).mono ?_; rintro e w1 ⟨v1, r, rfl, hS1, hp, hb⟩; obtain ⟨A1, c1, rfl, hc1, hC1⟩ := hS1.shape; have HS1 := Aside0.mk hS1; have HP := Aside0.mk hp; clear hS1 hp hC1; obtain ⟨hcell, hfroz⟩ := bcell hb; have hz : w.heap.size < w1.heap.size := by have := hb.size; simp at this; omega)
  · refine bodyPost_ret (v := .agg #[.bool false, .slice A1 r.length c1]) (by simp [results, Tryz.results24, go_sem, hcell, hz]) rfl ?_
    refine ⟨_, rfl, IsW.mk (((HS1.out.far (p := ⟨w.heap.size, 0, none⟩) (ne_new _) _).far (p := ⟨w.heap.size, 1, none⟩) (ne_new _) _).mono (old_new _)) (rep_false HP.out.1 HP.out.2.1 (HP.out.2.2.2 HD.out)) HP.out.2.2.1, ?_⟩
    exact ((((Below.refl _ _).alloc (Nat.le_refl _) _).trans (hb.mono (by simp))).setCell (by simp) _).setCell (by simp) _
  · refine bodyPost_ret (v := .agg #[.bool (decide (0 < r.length)), .slice A1 r.length c1]) (by simp [results, Tryz.results24, go_sem, hcell, hz]) rfl ?_
    refine ⟨_, rfl, IsW.mk (((HS1.out.far (p := ⟨w.heap.size, 0, none⟩) (ne_new _) _).far (p := ⟨w.heap.size, 1, none⟩) (ne_new _) _).mono (old_new _)) (rep_true HP.out.1 HP.out.2.1 (HP.out.2.2.2 HD.out)) HP.out.2.2.1, ?_⟩
    exact ((((Below.refl _ _).alloc (Nat.le_refl _) _).trans (hb.mono (by simp))).setCell (by simp) _).setCell (by simp) _

end Go.Proofs.YtlhfmbpijcniaaaGreat.WidemagDiv
