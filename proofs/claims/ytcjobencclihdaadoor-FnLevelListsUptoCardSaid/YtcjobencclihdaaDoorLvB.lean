/- The writer of bits. -/
import Derived.Test.YtcjobencclihdaaDoorLvO
namespace Go.Proofs.YtcjobencclihdaaDoor.Lv
open Go.RowKit Go.Proofs.YtcjobencclihdaaDoorW.PrintWords Go.Proofs.YtcjobencclihdaaDoorW.PrintLast Go.Proofs.YtcjobencclihdaaDoorW.PrintMore
set_option linter.unusedVariables false
set_option linter.unusedSimpArgs false

/-- A writer's block: the bytes it writes to, the places. -/
structure WB (w : World) (b : Nat) (buf : Value) (pos len cur mask off : Int) : Prop where
  blk : w.heap[b]? = some (.cells #[buf, .int .i64 pos, .int .i64 len, .int .u8 cur, .int .u8 mask, .int .i64 off, .int .u8 0, .int .u8 0, .int .u8 0, .int .u8 0, .int .u8 0, .int .u8 0, .int .u8 0, .int .u8 0] 83 (0, 0))
theorem WB.cells {w : World} {b : Nat} {buf : Value} {pos len cur mask off : Int} (h : WB w b buf pos len cur mask off) :
    w.cell? ⟨b, 0, none⟩ = some buf ∧ w.cell? ⟨b, 1, none⟩ = some (.int .i64 pos) ∧ w.cell? ⟨b, 2, none⟩ = some (.int .i64 len) ∧ w.cell? ⟨b, 3, none⟩ = some (.int .u8 cur) ∧ w.cell? ⟨b, 4, none⟩ = some (.int .u8 mask) ∧ w.cell? ⟨b, 5, none⟩ = some (.int .i64 off) :=
  ⟨blk_cell h.blk 0, blk_cell h.blk 1, blk_cell h.blk 2, blk_cell h.blk 3, blk_cell h.blk 4, blk_cell h.blk 5⟩
theorem WB.frozen {w : World} {b : Nat} {buf : Value} {pos len cur mask off : Int} (h : WB w b buf pos len cur mask off) (i : Nat) : w.frozen? ⟨b, i, none⟩ = false := blk_frozen h.blk i
theorem WB.set1 {w : World} {b : Nat} {buf : Value} {pos len cur mask off : Int} (h : WB w b buf pos len cur mask off) (x : Int) : WB (w.setCell ⟨b, 1, none⟩ (.int .i64 x)) b buf x len cur mask off := ⟨by simpa using blk_set h.blk 1 (.int .i64 x)⟩
theorem WB.set3 {w : World} {b : Nat} {buf : Value} {pos len cur mask off : Int} (h : WB w b buf pos len cur mask off) (x : Int) : WB (w.setCell ⟨b, 3, none⟩ (.int .u8 x)) b buf pos len x mask off := ⟨by simpa using blk_set h.blk 3 (.int .u8 x)⟩
theorem WB.set4 {w : World} {b : Nat} {buf : Value} {pos len cur mask off : Int} (h : WB w b buf pos len cur mask off) (x : Int) : WB (w.setCell ⟨b, 4, none⟩ (.int .u8 x)) b buf pos len cur x off := ⟨by simpa using blk_set h.blk 4 (.int .u8 x)⟩
theorem WB.set5 {w : World} {b : Nat} {buf : Value} {pos len cur mask off : Int} (h : WB w b buf pos len cur mask off) (x : Int) : WB (w.setCell ⟨b, 5, none⟩ (.int .i64 x)) b buf pos len cur mask x := ⟨by simpa using blk_set h.blk 5 (.int .i64 x)⟩
theorem WB.far {w : World} {b : Nat} {buf : Value} {pos len cur mask off : Int} (h : WB w b buf pos len cur mask off) {p : Addr} (hp : p.block ≠ b) (u : Value) : WB (w.setCell p u) b buf pos len cur mask off :=
  ⟨(Below.heap_setCell w p u b (fun e => hp e.symm)).trans h.blk⟩
theorem WB.drew {w : World} {b : Nat} {buf : Value} {pos len cur mask off : Int} (h : WB w b buf pos len cur mask off) : WB w.drew b buf pos len cur mask off := ⟨h.blk⟩
set_option maxRecDepth 100000 in
theorem pos_fn (w : World) (b : Nat) (buf : Value) (pos len cur mask off : Int) (h : WB w b buf pos len cur mask off) :
    Calls Tryd.prog 51 #[.pointer (some ⟨b, 0, none⟩)] w (fun e w' => e = .returned (.int .i64 pos) ∧ w' = w) := by
  obtain ⟨c0, c1, c2, c3, c4, c5⟩ := h.cells
  clear h
  go_enter Tryd.func51, Tryd.ntmps51
  go_wp2
  go_ret
  exact ⟨rfl, rfl⟩
set_option maxRecDepth 100000 in
theorem clear_fn (w : World) (b : Nat) : Calls Tryd.prog 48 #[.pointer (some ⟨b, 0, none⟩)] w (fun e w' => e = .returned (.tuple #[]) ∧ w' = w) := by
  go_enter Tryd.func48, Tryd.ntmps48
  go_wp2
  go_end0
  exact ⟨rfl, rfl⟩
/-- The writer's block alone turned. -/
def Wrote (w : World) (b : Nat) (buf : Value) (pos len cur mask off : Int) (e : Ending) (w' : World) : Prop := e = .returned (.tuple #[]) ∧ WB w' b buf pos len cur mask off ∧ w.grownBy w' (some b)
set_option maxRecDepth 100000 in
theorem set_fn (w : World) (b : Nat) (buf : Value) (pos len cur mask off : Int) (h : WB w b buf pos len cur mask off) :
    Calls Tryd.prog 53 #[.pointer (some ⟨b, 0, none⟩)] w (Wrote w b buf pos len (bits .or .u8 cur mask) mask off) := by
  have c := h.cells
  obtain ⟨c0, c1, c2, c3, c4, c5⟩ := c
  have f3 := h.frozen 3
  have H0 := Aside0.mk h
  clear h
  go_enter Tryd.func53, Tryd.ntmps53
  go_wp2_with fail
  go_still_tail 9, (by kernel_rfl)
  go_wp2_with fail
  go_end0
  exact ⟨rfl, (H0.out.set3 _).drew, gb_drew (gb_set (p := ⟨b, 3, none⟩) (World.grownBy.refl _ _) (.inl rfl) _)⟩
theorem mask_next (r : Nat) (h : r < 8) : ((2 ^ r : Nat) : Int) * 2 % 256 = if r < 7 then ((2 ^ (r + 1) : Nat) : Int) else 0 := by
  rcases (show r = 0 ∨ r = 1 ∨ r = 2 ∨ r = 3 ∨ r = 4 ∨ r = 5 ∨ r = 6 ∨ r = 7 by omega) with rfl | rfl | rfl | rfl | rfl | rfl | rfl | rfl <;> decide
set_option maxRecDepth 100000 in
theorem next_low (w : World) (b : Nat) (buf : Value) (pos len cur mask mask' off : Int) (h : WB w b buf pos len cur mask off) (hm : mask * 2 % 256 = mask') (hm0 : mask' ≠ 0) (hp : 0 ≤ pos ∧ pos < 1000000000) :
    Calls Tryd.prog 50 #[.pointer (some ⟨b, 0, none⟩)] w (Wrote w b buf (pos + 1) len cur mask' off) := by
  obtain ⟨c0, c1, c2, c3, c4, c5⟩ := h.cells
  have f4 := h.frozen 4
  have h4 := h.set4 mask'
  obtain ⟨d0, d1, d2, d3, d4, d5⟩ := h4.cells
  have f1 := h4.frozen 1
  have h5 := h4.set1 (pos + 1)
  obtain ⟨e0, e1, e2, e3, e4, e5⟩ := h5.cells
  have H0 := Aside0.mk h5
  have hz : (mask' == 0) = false := by simpa using hm0
  clear h h4 h5
  go_enter Tryd.func50, Tryd.ntmps50
  go_wp2_with fail
  go_end0
  exact ⟨rfl, H0.out, gb_set (p := ⟨b, 1, none⟩) (gb_set (p := ⟨b, 4, none⟩) (World.grownBy.refl _ _) (.inl rfl) _) (.inl rfl) _⟩
def W8 (w : World) (g : Nat) (T : TypeId) (rest : List Value) (bs : List Int) : Prop := w.heap[g]? = some (.cells (bs.map (Value.int .u8) ++ rest).toArray T (0, 0))
theorem W8.cell {w : World} {g : Nat} {T : TypeId} {rest : List Value} {bs : List Int} (h : W8 w g T rest bs) (i : Nat) (hi : i < bs.length) : w.cell? ⟨g, i, none⟩ = some (.int .u8 (bs.getD i 0)) := by
  rw [blk_cell h]
  rw [List.getElem?_toArray, List.getElem?_append_left (by simpa using hi)]
  simp [List.getD_eq_getElem?_getD, List.getElem?_eq_getElem hi]
theorem W8.frozen {w : World} {g : Nat} {T : TypeId} {rest : List Value} {bs : List Int} (h : W8 w g T rest bs) (i : Nat) : w.frozen? ⟨g, i, none⟩ = false := blk_frozen h i
theorem W8.put {w : World} {g : Nat} {T : TypeId} {rest : List Value} {bs : List Int} (h : W8 w g T rest bs) (i : Nat) (hi : i < bs.length) (x : Int) : W8 (w.setCell ⟨g, i, none⟩ (.int .u8 x)) g T rest (bs.set i x) := by
  unfold W8
  rw [blk_set h]
  simp [List.set_append_left, hi]
theorem W8.far {w : World} {g : Nat} {T : TypeId} {rest : List Value} {bs : List Int} (h : W8 w g T rest bs) {p : Addr} (hp : p.block ≠ g) (u : Value) : W8 (w.setCell p u) g T rest bs := (Below.heap_setCell w p u g (fun e => hp e.symm)).trans h
theorem below_set {base : Nat} {w w1 : World} (h : Below base w w1) {p : Addr} (hp : base ≤ p.block) (u : Value) : Below base w (w1.setCell p u) :=
  ⟨h.os, h.tape, h.output, by simpa [World.setCell] using h.size, fun i hi => (Below.heap_setCell w1 p u i (by intro e; omega)).trans (h.block i hi)⟩
/-- Two blocks alone have turned. -/
structure Two (w w' : World) (b q : Nat) : Prop where
  os : w'.os = w.os
  tape : w'.tape = w.tape
  output : w'.output = w.output
  size : w.heap.size ≤ w'.heap.size
  block : ∀ i, i < w.heap.size → i ≠ b → i ≠ q → w'.heap[i]? = w.heap[i]?
theorem Two.refl (w : World) (b q : Nat) : Two w w b q := ⟨rfl, rfl, rfl, Nat.le_refl _, fun _ _ _ _ => rfl⟩
theorem Two.trans {w w1 w2 : World} {b q : Nat} (h : Two w w1 b q) (k : Two w1 w2 b q) : Two w w2 b q :=
  ⟨k.os.trans h.os, k.tape.trans h.tape, k.output.trans h.output, Nat.le_trans h.size k.size, fun i hi h1 h2 => (k.block i (Nat.lt_of_lt_of_le hi h.size) h1 h2).trans (h.block i hi h1 h2)⟩
theorem Two.set {w w1 : World} {b q : Nat} (h : Two w w1 b q) {p : Addr} (hp : p.block = b ∨ p.block = q) (u : Value) : Two w (w1.setCell p u) b q :=
  ⟨h.os, h.tape, h.output, by simpa [World.setCell] using h.size, fun i hi h1 h2 => (Below.heap_setCell w1 p u i (by rintro rfl; rcases hp with hp | hp; exact h1 hp; exact h2 hp)).trans (h.block i hi h1 h2)⟩
theorem Two.drew {w w1 : World} {b q : Nat} (h : Two w w1 b q) : Two w w1.drew b q := ⟨h.os, h.tape, h.output, h.size, h.block⟩
theorem Two.drewN {w w1 : World} {b q : Nat} (h : Two w w1 b q) (n : Nat) : Two w (w1.drewN n) b q := ⟨h.os, h.tape, h.output, h.size, h.block⟩
theorem Two.of_grown {w w1 : World} {b : Nat} (h : w.grownBy w1 (some b)) (q : Nat) : Two w w1 b q := ⟨h.os, h.tape, h.output, h.size, fun i hi h1 h2 => h.block i hi (by simpa using h1)⟩
theorem Two.below {w w1 : World} {b q base : Nat} (h : Two w w1 b q) (hb : base ≤ b) (hq : base ≤ q) (hs : base ≤ w.heap.size) : Below base w w1 := ⟨h.os, h.tape, h.output, h.size, fun i hi => h.block i (by omega) (by omega) (by omega)⟩
/-- The writer goes on to the next byte. -/
def Over (w : World) (b q : Nat) (buf : Value) (pos len cur mask off : Int) (rest : List Value) (bs : List Int) (e : Ending) (w' : World) : Prop := e = .returned (.tuple #[]) ∧ WB w' b buf pos len cur mask off ∧ W8 w' q 5 rest bs ∧ Two w w' b q
set_option maxRecDepth 100000 in
set_option maxHeartbeats 2000000 in
theorem next_high (w : World) (b q n c o : Nat) (pos len cur mask : Int) (rest : List Value) (bs : List Int) (h : WB w b (.slice (some ⟨q, 0, none⟩) n c) pos len cur mask o) (hw : W8 w q 5 rest bs) (hn : n ≤ bs.length) (ho : o < n) (hs : n ≤ 1048576)
    (hm : mask * 2 % 256 = 0) (hp : 0 ≤ pos ∧ pos < 1000000000) :
    Calls Tryd.prog 50 #[.pointer (some ⟨b, 0, none⟩)] w (Over w b q (.slice (some ⟨q, 0, none⟩) n c) (pos + 1) len 0 1 ((o : Int) + 1) rest (bs.set o cur)) := by
  have hne : q ≠ b := fun e => by have h1 := h.blk; have h2 : w.heap[q]? = _ := hw; rw [e, h1] at h2; simp at h2
  obtain ⟨c0, c1, c2, c3, c4, c5⟩ := h.cells
  have f4 := h.frozen 4
  have h1 := h.set4 0
  have w1 := hw.far (p := ⟨b, 4, none⟩) (Ne.symm hne) (.int .u8 0)
  obtain ⟨d0, d1, d2, d3, d4, d5⟩ := h1.cells
  have f1 := h1.frozen 1
  have h2 := h1.set1 (pos + 1)
  have w2 := w1.far (p := ⟨b, 1, none⟩) (Ne.symm hne) (.int .i64 (pos + 1))
  obtain ⟨e0, e1, e2, e3, e4, e5⟩ := h2.cells
  have g4 := h2.frozen 4
  have h3 := h2.set4 1
  have w3 := w2.far (p := ⟨b, 4, none⟩) (Ne.symm hne) (.int .u8 1)
  obtain ⟨i0, i1, i2, i3, i4, i5⟩ := h3.cells
  have fq := w3.frozen o
  have cq := w3.cell o (by omega)
  have h4 := h3.far (p := ⟨q, o, none⟩) hne (.int .u8 cur)
  have w4 := w3.put o (by omega) cur
  obtain ⟨j0, j1, j2, j3, j4, j5⟩ := h4.cells
  have f5 := h4.frozen 5
  have h5 := h4.set5 ((o : Int) + 1)
  have w5 := w4.far (p := ⟨b, 5, none⟩) (Ne.symm hne) (.int .i64 ((o : Int) + 1))
  obtain ⟨k0, k1, k2, k3, k4, k5⟩ := h5.cells
  have f3 := h5.frozen 3
  have h6 := h5.set3 0
  have w6 := w5.far (p := ⟨b, 3, none⟩) (Ne.symm hne) (.int .u8 0)
  have HF := Aside0.mk (And.intro h6 w6)
  have HB3 := Aside0.mk ((((Two.refl w b q).set (p := ⟨b, 4, none⟩) (.inl rfl) (.int .u8 0)).set (p := ⟨b, 1, none⟩) (.inl rfl) (.int .i64 (pos + 1))).set (p := ⟨b, 4, none⟩) (.inl rfl) (.int .u8 1))
  clear h hw h1 h2 h3 h4 h5 h6 w1 w2 w3 w4 w5 w6 hn
  go_enter Tryd.func50, Tryd.ntmps50
  go_wp2_with fail
  generalize ((w.setCell ⟨b, 4, none⟩ (.int .u8 0)).setCell ⟨b, 1, none⟩ (.int .i64 (pos + 1))).setCell ⟨b, 4, none⟩ (.int .u8 1) = w3 at i0 i1 i2 i3 i4 i5 fq cq j0 j1 j2 j3 j4 j5 f5 k0 k1 k2 k3 k4 k5 f3 HF HB3 ⊢
  clear c0 c1 c2 c3 c4 c5 d0 d1 d2 d3 d4 d5 e0 e1 e2 e3 e4 e5 f4 f1 g4
  go_still_tail 12, (by kernel_rfl)
  go_wp2_with fail
  go_end0
  exact ⟨rfl, HF.out.1.drew, HF.out.2, (((HB3.out.set (p := ⟨q, o, none⟩) (.inr rfl) _).set (p := ⟨b, 5, none⟩) (.inl rfl) _).set (p := ⟨b, 3, none⟩) (.inl rfl) _).drew⟩

end Go.Proofs.YtcjobencclihdaaDoor.Lv
