/- How a kernel stands: what it has kept, its row of words, the bits that are told so far. -/
import Derived.Test.YtmdmpdbnnegpiaaGreatDoorCmG0
namespace Go.Proofs.YtmdmpdbnnegpiaaGreatDoor.Cmp
open Go.RowKit Go.Proofs.YtmdmpdbnnegpiaaGreatDoorW.PrintWords Go.Proofs.YtmdmpdbnnegpiaaGreatDoorW.PrintLast Go.Proofs.YtmdmpdbnnegpiaaGreatDoorW.PrintMore
set_option linter.unusedVariables false
set_option linter.unusedSimpArgs false

theorem add_at (g p j : Nat) : (⟨g, p, none⟩ : Addr).add j = ⟨g, p + j, none⟩ := by
  unfold Addr.add
  by_cases h : j = 0
  · subst h; rfl
  · rw [if_neg h]
structure KS (w w0 wr : World) (q g nb : Nat) (T : TypeId) (rest : List Value) (us bs : List Int) (lo k : Nat) (f : Nat → Bool) : Prop where
  grow : w.grownBy wr (some g)
  kept : ∀ j, j < w0.heap.size → j ≠ g → j ≠ q → wr.heap[j]? = w0.heap[j]?
  size : w0.heap.size ≤ wr.heap.size
  U : W32 wr q us
  len : us.length = 32
  out : ∃ bs', (0 < nb → W8 wr g T rest bs') ∧ BitsAre bs bs' lo k f
/-- What stands once and for all while a kernel runs. -/
structure KB (w w0 : World) (q g nb : Nat) (bs : List Int) : Prop where
  len : bs.length = nb
  masks : Masks w0
  q0 : w.heap.size ≤ q
  q1 : q < w0.heap.size
  gq : g ≠ q
  g4 : 4 ≤ g
  q4 : 4 ≤ q
section
variable {w w0 wr w' : World} {q g nb : Nat} {T : TypeId} {rest : List Value} {us us' bs : List Int} {lo k : Nat} {f : Nat → Bool}
theorem KS.masks (h : KS w w0 wr q g nb T rest us bs lo k f) (b : KB w w0 q g nb bs) : Masks wr := by
  have hl := b.masks.lt
  have h4 := b.g4
  have h5 := b.q4
  have e2 := h.kept 2 (by omega) (by omega) (by omega)
  have e3 := h.kept 3 (by omega) (by omega) (by omega)
  exact ⟨fun k hk => by rw [← b.masks.1 k hk]; simp [World.cell?, e2], fun k hk => by rw [← b.masks.2 k hk]; simp [World.cell?, e3]⟩
theorem KS.block (h : KS w w0 wr q g nb T rest us bs lo k f) {j : Nat} {o : Obj} (hj : w0.heap[j]? = some o) (h1 : j ≠ g) (h2 : j ≠ q) : wr.heap[j]? = some o := (h.kept j (block_lt hj) h1 h2).trans hj
theorem KS.cell (h : KS w w0 wr q g nb T rest us bs lo k f) {j i : Nat} {v : Value} (hj : w0.cell? ⟨j, i, none⟩ = some v) (h1 : j ≠ g) (h2 : j ≠ q) : wr.cell? ⟨j, i, none⟩ = some v := by
  rw [← hj]
  exact World.cell?_of_block (a := ⟨j, i, none⟩) (h.kept j (cell_lt hj) h1 h2)
/-- The row of words alone turns. -/
theorem KS.after (h : KS w w0 wr q g nb T rest us bs lo k f) (b : KB w w0 q g nb bs) (hg : wr.grownBy w' (some q)) (hU : W32 w' q us') (hl : us'.length = 32) : KS w w0 w' q g nb T rest us' bs lo k f := by
  have hq0 := b.q0
  obtain ⟨bs', hw, hb⟩ := h.out
  refine ⟨⟨hg.os.trans h.grow.os, hg.tape.trans h.grow.tape, hg.output.trans h.grow.output, Nat.le_trans h.grow.size hg.size, fun i hi hne => (hg.block i (Nat.lt_of_lt_of_le hi h.grow.size) (fun e => by injection e; omega)).trans (h.grow.block i hi hne)⟩,
    fun j hj h1 h2 => (hg.block j (Nat.lt_of_lt_of_le hj h.size) (fun e => h2 (Option.some.inj e))).trans (h.kept j hj h1 h2), Nat.le_trans h.size hg.size, hU, hl, bs', fun hn => ?_, hb⟩
  exact (hg.block g (block_lt (hw hn)) (fun e => b.gq (Option.some.inj e))).trans (hw hn)
/-- Bits are told: the bytes alone turn. -/
theorem KS.put (h : KS w w0 wr q g nb T rest us bs lo k f) (b : KB w w0 q g nb bs) {e : Ending} {n : Nat} {f' : Nat → Bool} {bs' : List Int} (hb : BitsAre bs bs' lo k f) (hp : Put wr g T rest bs' (lo + k) n f' e w') (hf : ∀ i, i < n → f' i = f (k + i)) : e = .returned (.tuple #[]) ∧ KS w w0 w' q g nb T rest us bs lo (k + n) f := by
  obtain ⟨he, hg, bs'', hw', hb'⟩ := hp
  refine ⟨he, ⟨hg.os.trans h.grow.os, hg.tape.trans h.grow.tape, hg.output.trans h.grow.output, Nat.le_trans h.grow.size hg.size, fun i hi hne => (hg.block i (Nat.lt_of_lt_of_le hi h.grow.size) hne).trans (h.grow.block i hi hne)⟩,
    fun j hj h1 h2 => (hg.block j (Nat.lt_of_lt_of_le hj h.size) (fun e => h1 (Option.some.inj e))).trans (h.kept j hj h1 h2), Nat.le_trans h.size hg.size, ?_, h.len, bs'', fun _ => hw', hb.trans hb' hf⟩
  exact (hg.block q (Nat.lt_of_lt_of_le b.q1 h.size) (fun e => b.gq (Option.some.inj e).symm)).trans h.U
theorem KS.drew (h : KS w w0 wr q g nb T rest us bs lo k f) : KS w w0 wr.drew q g nb T rest us bs lo k f := ⟨gb_drew h.grow, h.kept, h.size, h.U, h.len, h.out⟩
theorem KS.drewN (h : KS w w0 wr q g nb T rest us bs lo k f) (n : Nat) : KS w w0 (wr.drewN n) q g nb T rest us bs lo k f := ⟨gb_drewN h.grow n, h.kept, h.size, h.U, h.len, h.out⟩
theorem KS.op (h : KS w w0 wr q g nb T rest us bs lo k f) (b : KB w w0 q g nb bs) {N : Nat} {args : Array Value} {m : Nat} {f' : Nat → Bool} (hm : m ≤ 32) (hc : Calls Tryz.prog N args wr (Wrote wr q us m f')) :
    Calls Tryz.prog N args wr (fun e w' => e = .returned (.tuple #[]) ∧ KS w w0 w' q g nb T rest (outs f' m us) bs lo k f) :=
  hc.mono (by
    rintro e w1 ⟨rfl, hg, hU⟩
    exact ⟨rfl, h.after b hg hU (by rw [outs_len _ _ _ (by rw [h.len]; exact hm)]; exact h.len)⟩)
theorem KS.bit (h : KS w w0 wr q g nb T rest us bs lo k f) (b : KB w w0 q g nb bs) (A : Option Addr) (o n c i : Nat) (v : Bool) (hA : 0 < n → A = some ⟨g, o, none⟩) (hn : o + n ≤ nb) (hi : i / 8 < n) (hs : i ≤ 100000) (hk : 8 * o + i = lo + k) (hv : v = f k) :
    Calls Tryz.prog 90 #[.slice A n c, .int .i64 i, .bool v] wr (fun e w' => e = .returned (.tuple #[]) ∧ KS w w0 w' q g nb T rest us bs lo (k + 1) f) := by
  obtain rfl := hA (by omega)
  obtain ⟨bs', hw, hb⟩ := h.out
  have hl := hb.len
  have hl2 := b.len
  refine (setBitTo g o n c i v T rest bs' wr (h.masks b) (hw (by omega)) hb.byt (by omega) hi hs).mono ?_
  intro e w1 hp
  rw [hk] at hp
  exact h.put b hb hp (fun j hj => by rw [hv]; congr 1; omega)
theorem KS.pack (h : KS w w0 wr q g nb T rest us bs lo k f) (b : KB w w0 q g nb bs) (A : Option Addr) (o n c : Nat) (hA : 0 < n → A = some ⟨g, o, none⟩) (hn : o + n ≤ nb) (h4 : 4 ≤ n) (hc : n ≤ c) (hk : 8 * o = lo + k) (hu : ∀ i, i < 32 → us.getD i 0 = b2i (f (k + i))) :
    Calls Tryz.prog 91 #[.agg (us.map (Value.int .u32)).toArray, .slice A n c] wr (fun e w' => e = .returned (.tuple #[]) ∧ KS w w0 w' q g nb T rest us bs lo (k + 32) f) := by
  obtain rfl := hA (by omega)
  obtain ⟨bs', hw, hb⟩ := h.out
  have hl := hb.len
  have hl2 := b.len
  refine (packBits us (fun i => f (k + i)) g o n c T rest bs' wr h.len hu (hw (by omega)) hb.byt (by omega) h4 hc).mono ?_
  intro e w1 hp
  rw [hk] at hp
  exact h.put b hb hp (fun j hj => rfl)
/-- Rows of values, from a place on. -/
theorem KS.rd (h : KS w w0 wr q g nb T rest us bs lo k f) {enc : Int → Value} {ET : TypeId} {q1 : Nat} {xs : List Int} (hX : w0.heap[q1]? = some (.cells (xs.map enc).toArray ET (0, 0))) (h1 : q1 ≠ g) (h2 : q1 ≠ q) (A : Option Addr) (p n : Nat) (hA : 0 < n → A = some ⟨q1, p, none⟩) (hn : p + n ≤ xs.length) (hs : xs.length ≤ 1000) : RdT enc wr q A n ((xs.drop p).take n) := by
  intro W hg
  refine ⟨by rw [List.length_take, List.length_drop]; omega, by omega, fun h0 => ⟨_, hA h0, fun j hj => ?_⟩⟩
  have hb := (hg.block q1 (block_lt (h.block hX h1 h2)) (fun e => h2 (Option.some.inj e))).trans (h.block hX h1 h2)
  rw [add_at, cell_of_row W q1 _ _ ET (0, 0) hb, getD_mid _ _ _ _ _ hj]
  simp [List.getD_eq_getElem?_getD, List.getElem?_eq_getElem (show p + j < xs.length by omega)]
end
theorem b2i_ne (b : Bool) : (b2i b != 0) = b := by cases b <;> rfl
theorem b2i_dec (b : Bool) : decide (b2i b = 0) = !b := by cases b <;> rfl
/-- A slice from a place on, of a row that stands in a block. -/
theorem cutE (t e : TypeId) (h : Tryz.prog.underlying t = some (.slice e)) (hsz : (Tryz.prog.info? e).map (·.size) = some 1) (A : Option Addr) (g p n c m : Nat) (hA : 0 < n → A = some ⟨g, p, none⟩) (hm : m ≤ n) (hc : n ≤ c) :
    ∃ A' : Option Addr, (∀ W : World, (Instr.slice t (.slice A n c) (some (.int .i64 (m : Int))) none none).run Tryz.prog W = .ok (.slice A' (n - m) (c - m)) W) ∧ (0 < n - m → A' = some ⟨g, p + m, none⟩) := by
  obtain ⟨i, hi, hs⟩ := Option.map_eq_some_iff.1 hsz
  exact cutA t e .i64 h hi hs A g p n c m hA hm hc

end Go.Proofs.YtmdmpdbnnegpiaaGreatDoor.Cmp
