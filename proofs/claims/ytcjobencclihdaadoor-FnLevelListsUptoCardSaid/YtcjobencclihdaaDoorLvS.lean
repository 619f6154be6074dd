/- The shredder: what it holds; an entry is appended. -/
import Derived.Test.YtcjobencclihdaaDoorLvF
namespace Go.Proofs.YtcjobencclihdaaDoor.Lv
open Go.RowKit Go.Proofs.YtcjobencclihdaaDoorW.PrintWords Go.Proofs.YtcjobencclihdaaDoorW.PrintLast Go.Proofs.YtcjobencclihdaaDoorW.PrintMore
set_option linter.unusedVariables false
set_option linter.unusedSimpArgs false

abbrev kH : Kd Int := Kd.int .i16
/-- A row of int16 that the call itself has made. -/
def HR (W : World) (base : Nat) (v : Value) (xs : List Int) : Prop := kH.R 60 W base (fun _ => True) v xs
theorem HR.step {W W' : World} {base : Nat} {v : Value} {xs : List Int} (h : HR W base v xs) {row : Option Nat} (hg : W.grownBy W' row) (hne : v.ownBlock = none ∨ v.ownBlock ≠ row) : HR W' base v xs :=
  Kd.R_of_own ((Kd.own_of_R h).kept hg hne) (fun _ _ => trivial)
theorem HR.lt {W : World} {base : Nat} {v : Value} {xs : List Int} (h : HR W base v xs) : ∀ k, v.ownBlock = some k → base ≤ k ∧ k < W.heap.size := (Kd.own_of_R h).lt
theorem HR.ne {W : World} {base : Nat} {v : Value} {xs : List Int} (h : HR W base v xs) {g t : Nat} {cells : Array Value} (hb : W.heap[g]? = some (.cells cells t (0, 0))) (ht : 60 ≠ t) : some g ≠ v.ownBlock := Kd.R_ne h hb ht
theorem HR.set {W : World} {base : Nat} {v : Value} {xs : List Int} (h : HR W base v xs) {p : Addr} (hne : some p.block ≠ v.ownBlock) (u : Value) : HR (W.setCell p u) base v xs :=
  Kd.R_of_own (own_setCell (Kd.own_of_R h) hne u) (fun _ _ => trivial)
theorem HR.nil (W : World) (base : Nat) : HR W base (.slice none 0 0) [] := Kd.R_nil _ _ _ _ _
theorem info60 : (Tryd.prog.info? 60).map (fun i => (i.zero, i.size, i.bytes)) = some (some (.int .i16 0), 1, 2) := by kernel_rfl
theorem one_lit {W : World} {b : Nat} {y : Int} (h : W.heap[b]? = some (.cells #[.int .i16 y] 60 (0, 0))) : Kd.C kH W (some ⟨b, 0, none⟩) 1 [y] := by
  have ho : W.ownsRow 0 60 1 (.slice (some ⟨b, 0, none⟩) 1 1) ([y] : List Int).length (encs (Value.int .i16) [y]) := ⟨rfl, .inr ⟨b, 1, _, rfl, Nat.zero_le _, h, Nat.le_refl _, by decide, rfl, rfl⟩⟩
  have hr : kH.R 60 W 0 (fun _ => True) (.slice (some ⟨b, 0, none⟩) 1 1) [y] := Kd.R_of_own ho (fun _ _ => trivial)
  obtain ⟨A, c, e, _, hC⟩ := Kd.R_reads hr
  cases e
  exact hC
section
variable {ops : Array Oper} {o : Oper} {a : Act} {Q : Exit → Act → World → Prop} {Kc : Act → World → Prop}
theorem appH {w0 W : World} (base : Nat) (N : Option Tmp) (hN : o.dst = N) (hw : Region.wanted o (yielded ops a.tmps) = true) (s x : Operand)
    (ho : o.op = .call { callee := .builtin .append, args := #[s, x], argTypes := #[24, 24] })
    (v : Value) (xs : List Int) (b : Nat) (y : Int) (hs : a.eval s = v) (hx : a.eval x = .slice (some ⟨b, 0, none⟩) 1 1) (hb : W.heap[b]? = some (.cells #[.int .i16 y] 60 (0, 0)))
    (HO : HR W base v xs) (HB : Below base w0 W) (hbase : base ≤ W.heap.size) (hl : xs.length ≤ 1099511627776)
    (h : ∀ v1 w1, HR w1 base v1 (xs ++ [y]) → Below base w0 w1 → W.grownBy w1 v.ownBlock → (v1.ownBlock = v.ownBlock ∨ ∃ b, v1.ownBlock = some b ∧ W.heap.size ≤ b) → Kc (a.put N v1) w1) :
    if Region.wanted o (yielded ops a.tmps) = true then Oper.wp Tryd.prog o a W Kc Q else Kc (a.put N undef) W := by
  subst hN
  exact Kd.R_append_rows_step kH base hw s x 24 60 (.int .i16 0) 2 ho Tryd.underlying24 info60 rfl (by decide) (by omega) v xs [y] (some ⟨b, 0, none⟩) 1 1 (fun _ => True) (fun _ => False) hs hx HO (one_lit hb) (fun _ _ h => h) (fun _ hk => hk.elim) (fun _ _ => trivial) HB hbase (by omega) h
end
/-- The shredder's state: its block g, the two rows. -/
structure Sh (w0 W : World) (base g : Nat) (D R : Value) (ds rs : List Int) : Prop where
  blk : W.heap[g]? = some (.cells #[D, R] 50 (0, 0))
  hg : base ≤ g
  d : HR W base D ds
  r : HR W base R rs
  ne : D.ownBlock = none ∨ D.ownBlock ≠ R.ownBlock
  bel : Below base w0 W
  base_le : base ≤ W.heap.size
/-- Both rows have got an entry; the block is as before. -/
structure Sh2 (w0 W : World) (base g : Nat) (D R D1 R1 : Value) (ds rs : List Int) : Prop where
  blk : W.heap[g]? = some (.cells #[D, R] 50 (0, 0))
  hg : base ≤ g
  d : HR W base D1 ds
  r : HR W base R1 rs
  ne : D1.ownBlock = none ∨ D1.ownBlock ≠ R1.ownBlock
  bel : Below base w0 W
  base_le : base ≤ W.heap.size
theorem Sh2.done {w0 W : World} {base g : Nat} {D R D1 R1 : Value} {ds rs : List Int} (h : Sh2 w0 W base g D R D1 R1 ds rs) :
    Sh w0 ((W.setCell ⟨g, 0, none⟩ D1).setCell ⟨g, 1, none⟩ R1) base g D1 R1 ds rs := by
  have hd := h.d.ne h.blk (by decide)
  have hr := h.r.ne h.blk (by decide)
  refine ⟨?_, h.hg, (h.d.set hd _).set hd _, (h.r.set hr _).set hr _, h.ne, ?_, by simpa [World.setCell] using h.base_le⟩
  · have := blk_set (blk_set h.blk 0 D1) 1 R1
    simpa using this
  · exact ⟨h.bel.os, h.bel.tape, h.bel.output, by simpa [World.setCell] using h.bel.size, fun i hi => (Below.heap_setCell _ _ _ i (by have := h.hg; show i ≠ g; omega)).trans ((Below.heap_setCell _ _ _ i (by have := h.hg; show i ≠ g; omega)).trans (h.bel.block i hi))⟩
theorem Sh.step {w0 W W' : World} {base g : Nat} {D R : Value} {ds rs : List Int} (h : Sh w0 W base g D R ds rs) (hb : Below W.heap.size W W') : Sh w0 W' base g D R ds rs :=
  ⟨(hb.block _ (block_lt h.blk)).trans h.blk, h.hg, h.d.step (grown_of_below hb none) (by cases D.ownBlock <;> simp), h.r.step (grown_of_below hb none) (by cases R.ownBlock <;> simp), h.ne, h.bel.trans (hb.mono h.base_le), Nat.le_trans h.base_le hb.size⟩
theorem i16_small (x : Nat) (h : x < 32768) : IntKind.i16.wrap (x : Int) = (x : Int) := by
  simp [IntKind.wrap, IntKind.bits, IntKind.signed]
  split <;> omega
def Held (g : Nat) (D R : Value) (w' : World) : Prop := w'.cell? ⟨g, 0, none⟩ = some D ∧ w'.cell? ⟨g, 1, none⟩ = some R ∧ w'.frozen? ⟨g, 0, none⟩ = false ∧ w'.frozen? ⟨g, 1, none⟩ = false
theorem held_of {g : Nat} {D R : Value} {w' : World} (h : w'.heap[g]? = some (.cells #[D, R] 50 (0, 0))) : Held g D R w' := ⟨by rw [blk_cell h]; rfl, by rw [blk_cell h]; rfl, blk_frozen h _, blk_frozen h _⟩
/-- Between: the rows that stand in the slots, the literals that are built. -/
structure St (w0 W : World) (base g : Nat) (D R D1 R1 : Value) (ds rs : List Int) (L : Nat → Int → Prop) : Prop where
  blk : W.heap[g]? = some (.cells #[D, R] 50 (0, 0))
  hg : base ≤ g
  d : HR W base D1 ds
  r : HR W base R1 rs
  ne : D1.ownBlock = none ∨ D1.ownBlock ≠ R1.ownBlock
  bel : Below base w0 W
  base_le : base ≤ W.heap.size
  lit : ∀ b y, L b y → W.heap[b]? = some (.cells #[.int .i16 y] 60 (0, 0)) ∧ some b ≠ D1.ownBlock ∧ some b ≠ R1.ownBlock
def noL (_ : Nat) (_ : Int) : Prop := False
def addL (L : Nat → Int → Prop) (b : Nat) (y : Int) (b' : Nat) (y' : Int) : Prop := L b' y' ∨ (b' = b ∧ y' = y)
theorem St.start {w0 W : World} {base g : Nat} {D R : Value} {ds rs : List Int} (h : Sh w0 W base g D R ds rs) : St w0 W base g D R D R ds rs noL := ⟨h.blk, h.hg, h.d, h.r, h.ne, h.bel, h.base_le, fun _ _ h => h.elim⟩
section
variable {w0 W w1 : World} {base g : Nat} {D R D1 R1 v1 : Value} {ds rs : List Int} {L : Nat → Int → Prop}
theorem St.build (h : St w0 W base g D R D1 R1 ds rs L) (y : Int) : St w0 (W.alloc (.cells #[.int .i16 y] 60)) base g D R D1 R1 ds rs (addL L W.heap.size y) := by
  have hb : Below W.heap.size W (W.alloc (.cells #[.int .i16 y] 60)) := (Below.refl _ _).alloc (Nat.le_refl _) _
  refine ⟨(hb.block _ (block_lt h.blk)).trans h.blk, h.hg, h.d.step (grown_of_below hb none) (by cases D1.ownBlock <;> simp), h.r.step (grown_of_below hb none) (by cases R1.ownBlock <;> simp), h.ne, h.bel.trans (hb.mono h.base_le), Nat.le_trans h.base_le hb.size, ?_⟩
  rintro b y' (hl | ⟨rfl, rfl⟩)
  · obtain ⟨h1, h2, h3⟩ := h.lit b y' hl
    exact ⟨(hb.block _ (block_lt h1)).trans h1, h2, h3⟩
  · exact ⟨heap_alloc_new _ _, fun e => Nat.lt_irrefl _ (h.d.lt _ e.symm).2, fun e => Nat.lt_irrefl _ (h.r.lt _ e.symm).2⟩
theorem St.appD (h : St w0 W base g D R D1 R1 ds rs L) {ds' : List Int} (h1 : HR w1 base v1 ds') (h2 : Below base w0 w1) (h3 : W.grownBy w1 D1.ownBlock) (h4 : v1.ownBlock = D1.ownBlock ∨ ∃ b, v1.ownBlock = some b ∧ W.heap.size ≤ b) :
    St w0 w1 base g D R v1 R1 ds' rs L := by
  refine ⟨(h3.block _ (block_lt h.blk) (h.d.ne h.blk (by decide))).trans h.blk, h.hg, h1, h.r.step h3 ?_, ?_, h2, Nat.le_trans h.base_le h3.size, ?_⟩
  · rcases h.ne with h5 | h5
    · rw [h5]
      cases R1.ownBlock <;> simp
    · exact .inr (Ne.symm h5)
  · rcases h4 with h4 | ⟨b, h4, hb⟩
    · rw [h4]
      exact h.ne
    · rw [h4]
      exact .inr (fun e => by have := (h.r.lt b e.symm).2; omega)
  · intro b y hl
    obtain ⟨g1, g2, g3⟩ := h.lit b y hl
    refine ⟨(h3.block _ (block_lt g1) g2).trans g1, ?_, g3⟩
    rcases h4 with h4 | ⟨b', h4, hb⟩
    · rw [h4]
      exact g2
    · rw [h4]
      intro e
      injection e with e
      have := block_lt g1
      omega
theorem St.appR (h : St w0 W base g D R D1 R1 ds rs L) {rs' : List Int} (h1 : HR w1 base v1 rs') (h2 : Below base w0 w1) (h3 : W.grownBy w1 R1.ownBlock) (h4 : v1.ownBlock = R1.ownBlock ∨ ∃ b, v1.ownBlock = some b ∧ W.heap.size ≤ b) :
    St w0 w1 base g D R D1 v1 ds rs' L := by
  refine ⟨(h3.block _ (block_lt h.blk) (h.r.ne h.blk (by decide))).trans h.blk, h.hg, h.d.step h3 h.ne, h1, ?_, h2, Nat.le_trans h.base_le h3.size, ?_⟩
  · rcases h4 with h4 | ⟨b, h4, hb⟩
    · rw [h4]
      exact h.ne
    · rw [h4]
      exact .inr (fun e => by have := (h.d.lt b e).2; omega)
  · intro b y hl
    obtain ⟨g1, g2, g3⟩ := h.lit b y hl
    refine ⟨(h3.block _ (block_lt g1) g3).trans g1, g2, ?_⟩
    rcases h4 with h4 | ⟨b', h4, hb⟩
    · rw [h4]
      exact g3
    · rw [h4]
      intro e
      injection e with e
      have := block_lt g1
      omega
theorem St.two (h : St w0 W base g D R D1 R1 ds rs L) : Sh2 w0 W base g D R D1 R1 ds rs := ⟨h.blk, h.hg, h.d, h.r, h.ne, h.bel, h.base_le⟩
theorem St.held (h : St w0 W base g D R D1 R1 ds rs L) : Held g D R W := held_of h.blk
end

end Go.Proofs.YtcjobencclihdaaDoor.Lv
