/- Levels become a list's bits and offsets: the words. -/
import Derived.Test.YtcjobencclihdaaDoorLvBN
import Derived.Deep.RegionHeld3
import Derived.Laws.Cover3
namespace Go.Proofs.YtcjobencclihdaaDoor.Lv
open Go.RowKit Go.Proofs.YtcjobencclihdaaDoorW.PrintWords Go.Proofs.YtcjobencclihdaaDoorW.PrintLast Go.Proofs.YtcjobencclihdaaDoorW.PrintMore
set_option linter.unusedVariables false
set_option linter.unusedSimpArgs false

/-- A block that holds a row of whole numbers, and more. -/
def WK (k : IntKind) (w : World) (g : Nat) (T : TypeId) (rest : List Value) (bs : List Int) : Prop := w.heap[g]? = some (.cells (bs.map (Value.int k) ++ rest).toArray T (0, 0))
theorem WK.cell {k : IntKind} {w : World} {g : Nat} {T : TypeId} {rest : List Value} {bs : List Int} (h : WK k w g T rest bs) (i : Nat) (hi : i < bs.length) : w.cell? ⟨g, i, none⟩ = some (.int k (bs.getD i 0)) := by
  rw [blk_cell h]
  rw [List.getElem?_toArray, List.getElem?_append_left (by simpa using hi)]
  simp [List.getD_eq_getElem?_getD, List.getElem?_eq_getElem hi]
theorem WK.frozen {k : IntKind} {w : World} {g : Nat} {T : TypeId} {rest : List Value} {bs : List Int} (h : WK k w g T rest bs) (i : Nat) : w.frozen? ⟨g, i, none⟩ = false := blk_frozen h i
theorem WK.put {k : IntKind} {w : World} {g : Nat} {T : TypeId} {rest : List Value} {bs : List Int} (h : WK k w g T rest bs) (i : Nat) (hi : i < bs.length) (x : Int) : WK k (w.setCell ⟨g, i, none⟩ (.int k x)) g T rest (bs.set i x) := by
  unfold WK
  rw [blk_set h]
  simp [List.set_append_left, hi]
/-- The writer's pointer as an interface. -/
abbrev wrV (b : Nat) : Value := .iface 80 (.pointer (some ⟨b, 0, none⟩))
/-- Three blocks of what stood, and the writer's, may turn. -/
structure Tri (w w' : World) (b q o p : Nat) : Prop where
  os : w'.os = w.os
  tape : w'.tape = w.tape
  output : w'.output = w.output
  size : w.heap.size ≤ w'.heap.size
  block : ∀ i, i < w.heap.size → i ≠ b → i ≠ q → i ≠ o → i ≠ p → w'.heap[i]? = w.heap[i]?
theorem Tri.refl (w : World) (b q o p : Nat) : Tri w w b q o p := ⟨rfl, rfl, rfl, Nat.le_refl _, fun _ _ _ _ _ _ => rfl⟩
theorem Tri.trans {w w1 w2 : World} {b q o p : Nat} (h : Tri w w1 b q o p) (k : Tri w1 w2 b q o p) : Tri w w2 b q o p :=
  ⟨k.os.trans h.os, k.tape.trans h.tape, k.output.trans h.output, Nat.le_trans h.size k.size, fun i hi h1 h2 h3 h4 => (k.block i (Nat.lt_of_lt_of_le hi h.size) h1 h2 h3 h4).trans (h.block i hi h1 h2 h3 h4)⟩
theorem Tri.of_two {w w1 : World} {b q : Nat} (h : Two w w1 b q) (o p : Nat) : Tri w w1 b q o p := ⟨h.os, h.tape, h.output, h.size, fun i hi h1 h2 _ _ => h.block i hi h1 h2⟩
theorem Tri.of_below {w w1 : World} (h : Below w.heap.size w w1) (b q o p : Nat) : Tri w w1 b q o p := ⟨h.os, h.tape, h.output, h.size, fun i hi _ _ _ _ => h.block i hi⟩
theorem Tri.set {w w1 : World} {b q o p : Nat} (h : Tri w w1 b q o p) {a : Addr} (ha : a.block = b ∨ a.block = q ∨ a.block = o ∨ a.block = p) (u : Value) : Tri w (w1.setCell a u) b q o p :=
  ⟨h.os, h.tape, h.output, by simpa [World.setCell] using h.size, fun i hi h1 h2 h3 h4 => (Below.heap_setCell w1 a u i (by rintro rfl; rcases ha with ha | ha | ha | ha; exact h1 ha; exact h2 ha; exact h3 ha; exact h4 ha)).trans (h.block i hi h1 h2 h3 h4)⟩
theorem Tri.drewN {w w1 : World} {b q o p : Nat} (h : Tri w w1 b q o p) (n : Nat) : Tri w (w1.drewN n) b q o p := ⟨h.os, h.tape, h.output, h.size, h.block⟩
theorem Tri.drew {w w1 : World} {b q o p : Nat} (h : Tri w w1 b q o p) : Tri w w1.drew b q o p := ⟨h.os, h.tape, h.output, h.size, h.block⟩
theorem Tri.below {w w1 : World} {b q o p base : Nat} (h : Tri w w1 b q o p) (hb : base ≤ b) (hq : base ≤ q) (ho : base ≤ o) (hp : base ≤ p) (hs : base ≤ w.heap.size) : Below base w w1 := ⟨h.os, h.tape, h.output, h.size, fun i hi => h.block i (by omega) (by omega) (by omega) (by omega) (by omega)⟩
/-- The places that the round reads and writes: so the lists of which the offsets tell, pos, S, cur the writer's, nn the nulls, rd what has been read. -/
structure LS (k : IntKind) (T : TypeId) (w0 w wr : World) (b q o p ib nb c N a L : Nat) (rest restp : List Value) (so : List (Bool × Nat)) (pos : Nat) (S : List Bool) (cur : Int) (nn rd : Nat) : Prop where
  wri : ∃ bs, Wr wr b q nb c pos N S cur rest bs ∧ (N = 0 → bs.getD (a / 8) 0 = ((2 ^ (a % 8) - 1 : Nat) : Int))
  out : Out wr o N rd nn (.slice (some ⟨q, 0, none⟩) nb c) a
  off : WK k wr p T restp (offs N so)
  inf : wr.heap[ib]? = some (.cells #[.int .i32 1, .int .i16 ((2 * L : Nat) : Int), .int .i16 (L : Int), .int .i16 ((2 * (L - 1) : Nat) : Int)] 62 (0, 0))
  tri : Tri w wr b q o p
  bel : Below w0.heap.size w0 wr
  base : w0.heap.size ≤ b ∧ w0.heap.size ≤ q ∧ w0.heap.size ≤ o ∧ w0.heap.size ≤ p
  dis : p ≠ q ∧ p ≠ b ∧ p ≠ o ∧ p ≠ ib ∧ q ≠ b ∧ q ≠ o ∧ q ≠ ib ∧ b ≠ o ∧ b ≠ ib ∧ o ≠ ib
section
variable {k : IntKind} {T : TypeId} {w0 w wr : World} {b q o p ib nb c N a L : Nat} {rest restp : List Value} {so : List (Bool × Nat)} {pos : Nat} {S : List Bool} {cur : Int} {nn rd : Nat}
theorem ne_ty {w : World} {i j : Nat} {c1 c2 : Array Value} {t1 t2 : TypeId} (h1 : w.heap[i]? = some (.cells c1 t1 (0, 0))) (h2 : w.heap[j]? = some (.cells c2 t2 (0, 0))) (h : t1 ≠ t2) : i ≠ j := by
  rintro rfl
  rw [h1] at h2
  injection h2 with h2
  injection h2 with h3 h4
  exact h h4
theorem LS.mk_dis (hT : T ≠ 5 ∧ T ≠ 83 ∧ T ≠ 73 ∧ T ≠ 62) (wri : ∃ bs, Wr wr b q nb c pos N S cur rest bs ∧ (N = 0 → bs.getD (a / 8) 0 = ((2 ^ (a % 8) - 1 : Nat) : Int))) (out : Out wr o N rd nn (.slice (some ⟨q, 0, none⟩) nb c) a) (off : WK k wr p T restp (offs N so))
    (inf : wr.heap[ib]? = some (.cells #[.int .i32 1, .int .i16 ((2 * L : Nat) : Int), .int .i16 (L : Int), .int .i16 ((2 * (L - 1) : Nat) : Int)] 62 (0, 0))) (tri : Tri w wr b q o p) (bel : Below w0.heap.size w0 wr) (base : w0.heap.size ≤ b ∧ w0.heap.size ≤ q ∧ w0.heap.size ≤ o ∧ w0.heap.size ≤ p) :
    LS k T w0 w wr b q o p ib nb c N a L rest restp so pos S cur nn rd := by
  refine ⟨wri, out, off, inf, tri, bel, base, ?_⟩
  obtain ⟨bs, hw, hz⟩ := wri
  have h1 := hw.blk.blk
  have h2 : wr.heap[q]? = _ := hw.byt
  have h3 := out.blk
  have h4 : wr.heap[p]? = _ := off
  exact ⟨ne_ty h4 h2 hT.1, ne_ty h4 h1 hT.2.1, ne_ty h4 h3 hT.2.2.1, ne_ty h4 inf hT.2.2.2, ne_ty h2 h1 (by decide), ne_ty h2 h3 (by decide), ne_ty h2 inf (by decide), ne_ty h1 h3 (by decide), ne_ty h1 inf (by decide), ne_ty h3 inf (by decide)⟩
theorem LS.same (h : LS k T w0 w wr b q o p ib nb c N a L rest restp so pos S cur nn rd) {w1 : World} (hh : w1.heap = wr.heap) (h1 : w1.os = wr.os) (h2 : w1.tape = wr.tape) (h3 : w1.output = wr.output) : LS k T w0 w w1 b q o p ib nb c N a L rest restp so pos S cur nn rd := by
  obtain ⟨bs, hw, hz⟩ := h.wri
  refine ⟨⟨bs, hw.step (by rw [hh]) (by rw [hh]), hz⟩, ⟨by rw [hh]; exact h.out.blk⟩, by unfold WK; rw [hh]; exact h.off, by rw [hh]; exact h.inf, ⟨h1.trans h.tri.os, h2.trans h.tri.tape, h3.trans h.tri.output, by rw [hh]; exact h.tri.size, by rw [hh]; exact h.tri.block⟩, ⟨h1.trans h.bel.os, h2.trans h.bel.tape, h3.trans h.bel.output, by rw [hh]; exact h.bel.size, by rw [hh]; exact h.bel.block⟩, h.base, h.dis⟩
theorem LS.drewN (h : LS k T w0 w wr b q o p ib nb c N a L rest restp so pos S cur nn rd) (n : Nat) : LS k T w0 w (wr.drewN n) b q o p ib nb c N a L rest restp so pos S cur nn rd := h.same rfl rfl rfl rfl
theorem LS.setO (h : LS k T w0 w wr b q o p ib nb c N a L rest restp so pos S cur nn rd) (i : Nat) (v : Int) (so' : List (Bool × Nat)) (hi : i < (offs N so).length) (hs : (offs N so).set i v = offs N so') : LS k T w0 w (wr.setCell ⟨p, i, none⟩ (.int k v)) b q o p ib nb c N a L rest restp so' pos S cur nn rd := by
  obtain ⟨d1, d2, d3, d4, d5⟩ := h.dis
  obtain ⟨bs, hw, hz⟩ := h.wri
  have hk : ∀ j, j ≠ p → (wr.setCell ⟨p, i, none⟩ (.int k v)).heap[j]? = wr.heap[j]? := fun j hj => Below.heap_setCell wr _ _ j hj
  exact ⟨⟨bs, hw.step (hk b (Ne.symm d2)) (hk q (Ne.symm d1)), hz⟩, ⟨(hk o (Ne.symm d3)).trans h.out.blk⟩, by rw [← hs]; exact h.off.put i hi v, (hk ib (Ne.symm d4)).trans h.inf, h.tri.set (a := ⟨p, i, none⟩) (.inr (.inr (.inr rfl))) _, below_set h.bel (p := ⟨p, i, none⟩) h.base.2.2.2 _, h.base, h.dis⟩
theorem LS.setN (h : LS k T w0 w wr b q o p ib nb c N a L rest restp so pos S cur nn rd) : LS k T w0 w (wr.setCell ⟨o, 2, none⟩ (.int .i64 ((nn + 1 : Nat) : Int))) b q o p ib nb c N a L rest restp so pos S cur (nn + 1) rd := by
  obtain ⟨d1, d2, d3, d4, d5, d6, d7, d8, d9, d10⟩ := h.dis
  obtain ⟨bs, hw, hz⟩ := h.wri
  have hk : ∀ j, j ≠ o → (wr.setCell ⟨o, 2, none⟩ (.int .i64 ((nn + 1 : Nat) : Int))).heap[j]? = wr.heap[j]? := fun j hj => Below.heap_setCell wr _ _ j hj
  exact ⟨⟨bs, hw.step (hk b d8) (hk q d6), hz⟩, ⟨by simpa using blk_set h.out.blk 2 (.int .i64 ((nn + 1 : Nat) : Int))⟩, (hk p d3).trans h.off, (hk ib (Ne.symm d10)).trans h.inf, h.tri.set (a := ⟨o, 2, none⟩) (.inr (.inr (.inl rfl))) _, below_set h.bel (p := ⟨o, 2, none⟩) h.base.2.2.1 _, h.base, h.dis⟩
theorem LS.setR (h : LS k T w0 w wr b q o p ib nb c N a L rest restp so pos S cur nn rd) (m : Nat) : LS k T w0 w (wr.setCell ⟨o, 1, none⟩ (.int .i64 (m : Int))) b q o p ib nb c N a L rest restp so pos S cur nn m := by
  obtain ⟨d1, d2, d3, d4, d5, d6, d7, d8, d9, d10⟩ := h.dis
  obtain ⟨bs, hw, hz⟩ := h.wri
  have hk : ∀ j, j ≠ o → (wr.setCell ⟨o, 1, none⟩ (.int .i64 (m : Int))).heap[j]? = wr.heap[j]? := fun j hj => Below.heap_setCell wr _ _ j hj
  exact ⟨⟨bs, hw.step (hk b d8) (hk q d6), hz⟩, ⟨by simpa using blk_set h.out.blk 1 (.int .i64 (m : Int))⟩, (hk p d3).trans h.off, (hk ib (Ne.symm d10)).trans h.inf, h.tri.set (a := ⟨o, 1, none⟩) (.inr (.inr (.inl rfl))) _, below_set h.bel (p := ⟨o, 1, none⟩) h.base.2.2.1 _, h.base, h.dis⟩
theorem LS.turn (h : LS k T w0 w wr b q o p ib nb c N a L rest restp so pos S cur nn rd) {w1 : World} (hw : Two wr w1 b q) (hN : N ≠ 0) {pos' : Nat} {S' : List Bool} {cur' : Int} (hn : ∃ bs, Wr w1 b q nb c pos' N S' cur' rest bs) : LS k T w0 w w1 b q o p ib nb c N a L rest restp so pos' S' cur' nn rd := by
  obtain ⟨d1, d2, d3, d4, d5, d6, d7, d8, d9, d10⟩ := h.dis
  have hs := hw.size
  have h4 : wr.heap[p]? = _ := h.off
  exact ⟨let ⟨bs, h1⟩ := hn; ⟨bs, h1, fun h0 => absurd h0 hN⟩, ⟨(hw.block o (block_lt h.out.blk) (Ne.symm d8) (Ne.symm d6)).trans h.out.blk⟩, (hw.block p (block_lt h4) d2 d1).trans h4, (hw.block ib (block_lt h.inf) (Ne.symm d9) (Ne.symm d7)).trans h.inf, h.tri.trans (Tri.of_two hw o p), h.bel.trans (hw.below h.base.1 h.base.2.1 h.bel.size), h.base, h.dis⟩
end
theorem below_undrew {B : Nat} {w w' : World} (h : Below B w.drew w') : Below B w w' := ⟨h.os, h.tape, h.output, h.size, h.block⟩
theorem at_H {w : World} {A : Option Addr} {n : Nat} {xs : List Int} (h : Kd.C kH w A n xs) (k : Nat) (h1 : k < n) :
    ∃ ad, A = some ad ∧ w.cell? (ad.add k) = some (.int .i16 (xs.getD k 0)) := by
  obtain ⟨ad, c, e, _, hK, hc0⟩ := Kd.C_get h 0 (k : Int) (by omega) (by omega)
  have hc : ∀ j u, c[j]? = some u → w.cell? (ad.add (k * 1 + j)) = some u := hc0
  have hK : c = [.int .i16 (xs.getD k 0)] := hK
  subst hK
  exact ⟨ad, e, by have := hc 0 _ rfl; simpa using this⟩
theorem eD_at (es : List (Nat × Nat)) (i : Nat) (h : i < es.length) : (eD es).getD i 0 = ((es.getD i (0, 0)).1 : Int) := by
  simp [eD, List.getD_eq_getElem?_getD, List.getElem?_eq_getElem h]
theorem eR_at (es : List (Nat × Nat)) (i : Nat) (h : i < es.length) : (eR es).getD i 0 = ((es.getD i (0, 0)).2 : Int) := by
  simp [eR, List.getD_eq_getElem?_getD, List.getElem?_eq_getElem h]
theorem run_equalIn_iface_nil {P : Program} (w : World) (d : Nat) (t : TypeId) {ms} (T : TypeId) (v : Value) (h : P.underlying t = some (.interface ms)) : (Op.equalIn (d + 1) t (.iface T v) .nilIface).run P w = .ok false w := by
  simp [Op.equalIn, run_underlying h]
theorem run_equal_iface_nil {P : Program} (w : World) (t : TypeId) {ms} (T : TypeId) (v : Value) (h : P.underlying t = some (.interface ms)) : (Op.equal t (.iface T v) .nilIface).run P w = .ok false w := run_equalIn_iface_nil w 9999 t T v h
theorem run_neq_iface_nil {P : Program} (w : World) (t : TypeId) {ms} (T : TypeId) (v : Value) (h : P.underlying t = some (.interface ms)) : (binOp .neq t (.iface T v) .nilIface).run P w = .ok (.bool true) w := by
  simp only [binOp]
  simp [run_equal_iface_nil w t T v h]
theorem run_equalIn_nil_nil {P : Program} (w : World) (d : Nat) (t : TypeId) {ms} (h : P.underlying t = some (.interface ms)) : (Op.equalIn (d + 1) t .nilIface .nilIface).run P w = .ok true w := by
  simp [Op.equalIn, run_underlying h]
theorem run_equal_nil_nil {P : Program} (w : World) (t : TypeId) {ms} (h : P.underlying t = some (.interface ms)) : (Op.equal t .nilIface .nilIface).run P w = .ok true w := run_equalIn_nil_nil w 9999 t h
theorem run_neq_nil_nil {P : Program} (w : World) (t : TypeId) {ms} (h : P.underlying t = some (.interface ms)) : (binOp .neq t .nilIface .nilIface).run P w = .ok (.bool false) w := by
  simp only [binOp]
  simp [run_equal_nil_nil w t h]
theorem step_push (L : Nat) (st : List (Bool × Nat)) (d r : Nat) (h0 : ¬ (d < 2 * (L - 1) ∨ L < r)) (h1 : r ≠ L) : step L st (d, r) = st ++ [(decide (2 * L - 1 ≤ d), if 2 * L ≤ d then 1 else 0)] := by
  unfold step
  rw [if_neg h0, if_neg h1]
theorem nil_pos (a : Addr) (w : World) : (nilAhead 254 80 (.pointer (some a)) "Pos").run Tryd.prog w = .ok (some false) w := by kernel_rfl
theorem method_pos (a : Addr) (w : World) : (method 254 80 (.pointer (some a)) "Pos").run Tryd.prog w = .ok (51, .pointer (some a)) w := by kernel_rfl
theorem fin_invoke (a : Addr) (w : World) : (invoke (.fn (.method "Finish") #[]) #[.iface 80 (.pointer (some a))]).run Tryd.prog w = .ok (.enter 49 #[.pointer (some a)]) w := by kernel_rfl
theorem LS.fin {k : IntKind} {T : TypeId} {w0 w wr w' : World} {b q o p ib nb c N a L : Nat} {rest restp : List Value} {so : List (Bool × Nat)} {pos : Nat} {S : List Bool} {cur : Int} {nn rd : Nat} (h : LS k T w0 w wr b q o p ib nb c N a L rest restp so pos S cur nn rd) (ht : Two wr w' b q) :
    Out w' o N rd nn (.slice (some ⟨q, 0, none⟩) nb c) a ∧ WK k w' p T restp (offs N so) ∧ Below w0.heap.size w0 w' := by
  obtain ⟨d1, d2, d3, d4, d5, d6, d7, d8, d9, d10⟩ := h.dis
  have h4 : wr.heap[p]? = _ := h.off
  exact ⟨⟨(ht.block o (block_lt h.out.blk) (Ne.symm d8) (Ne.symm d6)).trans h.out.blk⟩, (ht.block p (block_lt h4) d2 d1).trans h4, h.bel.trans (ht.below h.base.1 h.base.2.1 h.bel.size)⟩
def infV (L : Nat) : Value := .agg #[.int .i32 1, .int .i16 ((2 * L : Nat) : Int), .int .i16 (L : Int), .int .i16 ((2 * (L - 1) : Nat) : Int)]
def infC (L : Nat) : Array Value := #[.int .i32 1, .int .i16 ((2 * L : Nat) : Int), .int .i16 (L : Int), .int .i16 ((2 * (L - 1) : Nat) : Int)]
/-- What is left: bits, offsets, how many. -/
def RetList (k : IntKind) (T : TypeId) (w0 w : World) (q o p nb c N a : Nat) (st : List (Bool × Nat)) (rest restp : List Value) (e : Ending) (w' : World) : Prop := e = .returned .nilIface ∧
  (∃ bs', W8 w' q 5 rest bs' ∧ bs'.length = nb ∧ (∀ i, i < a + N → bitAt bs' i = (bitsOf a st).getD i false)) ∧ Out w' o N N (nuls st) (.slice (some ⟨q, 0, none⟩) nb c) a ∧ WK k w' p T restp (offs N st) ∧ Below w0.heap.size w0 w'

end Go.Proofs.YtcjobencclihdaaDoor.Lv
