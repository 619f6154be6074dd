/- Words of this proof: values, rows that are appended to, blocks; trees of values. -/
import Derived.Test.YtcjobencclihdaaDoorPpresentx0
import Derived.Test.YtcjobencclihdaaDoorLvP
import Derived.Outline
import Derived.Handy
import Derived.Defers
import Derived.Recover
import Derived.Laws.Panics
import Derived.Laws.Externs
import Derived.Laws.BitsLemmas
import Derived.Laws.BitsAllLaws
import Derived.Stop.Asserts
import Derived.StillTailTactics
namespace Go.Proofs.YtcjobencclihdaaDoor.Lv
open Go.RowKit Go.Proofs.YtcjobencclihdaaDoorW.PrintWords Go.Proofs.YtcjobencclihdaaDoorW.PrintLast Go.Proofs.YtcjobencclihdaaDoorW.PrintMore
set_option linter.unusedVariables false
set_option linter.unusedSimpArgs false

def Stop (G : Prop) : Prop := G
theorem stopHere {G : Prop} (h : Stop G) : G := h
/-- A value of the tree: its kids stand xs the slice that they are. -/
structure V where
  nul : Bool
  num : Int
  txt : ByteArray
  kA : Option Addr
  kn : Nat
  kc : Nat
def V.enc (v : V) : List Value := [.bool v.nul, .int .u64 v.num, .string v.txt, .slice v.kA v.kn v.kc]
abbrev V.agg (v : V) : Value := .agg #[.bool v.nul, .int .u64 v.num, .string v.txt, .slice v.kA v.kn v.kc]
def z0 : V := ⟨false, 0, ⟨#[]⟩, none, 0, 0⟩
def kV : Kd V where
  sz := 4
  E := []
  K := fun _ x cs => cs = x.enc
  M := fun _ _ _ x cs => cs = x.enc
  K_len := fun h => by rw [h]; rfl
  K_one := fun h u hu => by
    rw [h] at hu
    simp [V.enc] at hu
    rcases hu with rfl | rfl | rfl | rfl <;> rfl
  K_below := fun _ h => h
  K_of_M := fun h => h
  M_mono := fun _ h => h
  M_bound := fun h => h
  M_move := fun _ h => h
  M_lower := fun _ h => h
theorem bcell {W w1 : World} (hb : Below W.heap.size W w1) : (∀ b o, b < W.heap.size → w1.cell? ⟨b, o, none⟩ = W.cell? ⟨b, o, none⟩) ∧ (∀ b o, b < W.heap.size → w1.frozen? ⟨b, o, none⟩ = W.frozen? ⟨b, o, none⟩) :=
  ⟨fun b o h => hb.cell (p := ⟨b, o, none⟩) h, fun b o h => hb.frozen (p := ⟨b, o, none⟩) h⟩
/-- The k-th value of a list. -/
def gv (l : List V) (k : Nat) : V := l.getD k z0
theorem gv_get (l : List V) (k : Nat) (h : k < l.length) : gv l k = l[k] := by
  simp [gv, List.getD_eq_getElem?_getD, List.getElem?_eq_getElem h]
theorem gv_mem {l : List V} {k : Nat} (h : k < l.length) : gv l k ∈ l := by rw [gv_get l k h]; exact List.getElem_mem h
theorem at_V {w : World} {A : Option Addr} {n : Nat} {xs : List V} (h : Kd.C kV w A n xs) (k : Nat) (h1 : k < n) :
    ∃ ad, A = some ad ∧ w.cell? (ad.add (k * 4)) = some (.bool (gv xs k).nul) ∧ w.cell? ⟨(ad.add (k * 4)).block, (ad.add (k * 4)).off + 1, none⟩ = some (.int .u64 (gv xs k).num) ∧
      w.cell? ⟨(ad.add (k * 4)).block, (ad.add (k * 4)).off + 2, none⟩ = some (.string (gv xs k).txt) ∧ w.cell? ⟨(ad.add (k * 4)).block, (ad.add (k * 4)).off + 3, none⟩ = some (.slice (gv xs k).kA (gv xs k).kn (gv xs k).kc) := by
  obtain ⟨ad, c, e, _, hK, hc0⟩ := Kd.C_get h z0 (k : Int) (by omega) (by omega)
  have hc : ∀ j u, c[j]? = some u → w.cell? (ad.add (k * 4 + j)) = some u := hc0
  have hK : c = (gv xs k).enc := hK
  subst hK
  exact ⟨ad, e, hc 0 _ rfl, by rw [← add_field _ _ 1 (by omega)]; exact hc 1 _ rfl, by rw [← add_field _ _ 2 (by omega)]; exact hc 2 _ rfl, by rw [← add_field _ _ 3 (by omega)]; exact hc 3 _ rfl⟩
theorem blk_cell {w : World} {g : Nat} {cs : Array Value} {T : TypeId} (h : w.heap[g]? = some (.cells cs T (0, 0))) (i : Nat) : w.cell? ⟨g, i, none⟩ = cs[i]? := cell_of_row w g i cs T (0, 0) h
theorem blk_frozen {w : World} {g : Nat} {cs : Array Value} {T : TypeId} (h : w.heap[g]? = some (.cells cs T (0, 0))) (i : Nat) : w.frozen? ⟨g, i, none⟩ = false := by simp [World.frozen?, h]
theorem blk_set {w : World} {g : Nat} {cs : Array Value} {T : TypeId} (h : w.heap[g]? = some (.cells cs T (0, 0))) (i : Nat) (u : Value) : (w.setCell ⟨g, i, none⟩ u).heap[g]? = some (.cells (cs.setIfInBounds i u) T (0, 0)) := by
  simp [World.setCell, Array.getElem?_modify, h]
theorem gb_set {W wr : World} {g : Nat} (h : W.grownBy wr (some g)) {p : Addr} (hp : p.block = g ∨ W.heap.size ≤ p.block) (u : Value) : W.grownBy (wr.setCell p u) (some g) :=
  ⟨h.os, h.tape, h.output, by simpa [World.setCell] using h.size, fun i hi hne => (Below.heap_setCell wr p u i (by
    rintro rfl
    rcases hp with hp | hp
    · exact hne (by rw [hp])
    · omega)).trans (h.block i hi hne)⟩
theorem gb_drew {W wr : World} {g : Nat} (h : W.grownBy wr (some g)) : W.grownBy wr.drew (some g) := ⟨h.os, h.tape, h.output, h.size, h.block⟩
theorem gb_drewN {W wr : World} {g : Nat} (h : W.grownBy wr (some g)) (n : Nat) : W.grownBy (wr.drewN n) (some g) := ⟨h.os, h.tape, h.output, h.size, h.block⟩
theorem gb_below {W wr w' : World} {g : Nat} (h : W.grownBy wr (some g)) (hb : Below wr.heap.size wr w') : W.grownBy w' (some g) :=
  ⟨hb.os.trans h.os, hb.tape.trans h.tape, hb.output.trans h.output, Nat.le_trans h.size hb.size, fun i hi hne => (hb.block i (Nat.lt_of_lt_of_le hi h.size)).trans (h.block i hi hne)⟩
theorem gb_base {W wr w' : World} {g : Nat} (h : W.grownBy wr (some g)) (hb : Below W.heap.size wr w') : W.grownBy w' (some g) :=
  ⟨hb.os.trans h.os, hb.tape.trans h.tape, hb.output.trans h.output, Nat.le_trans h.size hb.size, fun i hi hne => (hb.block i hi).trans (h.block i hi hne)⟩
theorem block_lt {w : World} {g : Nat} {o : Obj} (h : w.heap[g]? = some o) : g < w.heap.size := by
  rcases Nat.lt_or_ge g w.heap.size with hlt | hge
  · exact hlt
  · rw [Array.getElem?_eq_none hge] at h; cases h
theorem two_blocks (w : World) (o1 o2 : Obj) : ((w.alloc o1).alloc o2).heap[w.heap.size]? = some o1 ∧ ((w.alloc o1).alloc o2).heap[w.heap.size + 1]? = some o2 := by
  have h1 := heap_alloc_new w o1
  have h2 := heap_alloc_new (w.alloc o1) o2
  have e1 := Below.heap_alloc (w.alloc o1) o2 w.heap.size (by simp)
  exact ⟨e1.trans h1, by simpa using h2⟩
section
variable {P : Program} {ops : Array Oper} {rest : List Oper} {o : Oper} {a : Act} {Q : Exit → Act → World → Prop} {α : Type}
theorem app1 (d : Kd α) {w0 W : World} (base : Nat) (hgd : o.guard = none) (s x : Operand) (t e : TypeId) (z : Value) (bytes : Nat)
    (ho : o.op = .call { callee := .builtin .append, args := #[s, x], argTypes := #[t, t] })
    (ht : P.underlying t = some (.slice e)) (hinfo : (P.info? e).map (fun i => (i.zero, i.size, i.bytes)) = some (some z, d.sz, bytes)) (hz : z.cells.size = d.sz) (hs0 : 0 < d.sz) (hb0 : 0 < bytes)
    (v : Value) (xs : List α) (p : α) (cs : List Value) (hs : a.eval s = v) (hx : a.eval x = .slice (some ⟨W.heap.size, 0, none⟩) 1 1) (hp : d.M W base (fun _ => False) p cs)
    (HO : d.R e W base (fun _ => True) v xs) (HB : Below base w0 W) (hbase : base ≤ W.heap.size) (hl : (xs.length + 1) * bytes ≤ 140737488355328)
    (h : ∀ v1 w1, d.R e w1 base (fun _ => True) v1 (xs ++ [p]) → Below base w0 w1 → wpList P ops Q rest (a.put o.dst v1) w1) :
    wpList P ops Q (o :: rest) a (W.alloc (.cells cs.toArray e)) :=
  Kd.R_append d base hgd s x t e z bytes ho ht hinfo hz hs0 hb0 v xs p cs (fun _ => True) (fun _ => False) hs hx hp (fun _ hk => hk.elim) (fun _ _ => trivial) HO HB hbase hl (fun v1 w1 h1 h2 _ _ => h v1 w1 h1 h2)
theorem appN (d : Kd α) {w0 W : World} (base : Nat) (hKM : ∀ W' b x cs, d.K W' x cs → d.M W' b (fun _ => False) x cs) (hgd : o.guard = none) (s x : Operand) (t e : TypeId) (z : Value) (bytes : Nat)
    (ho : o.op = .call { callee := .builtin .append, args := #[s, x], argTypes := #[t, t] })
    (ht : P.underlying t = some (.slice e)) (hinfo : (P.info? e).map (fun i => (i.zero, i.size, i.bytes)) = some (some z, d.sz, bytes)) (hz : z.cells.size = d.sz) (hs0 : 0 < d.sz) (hb0 : 0 < bytes)
    (v : Value) (xs ys : List α) (A : Option Addr) (m c : Nat) (hs : a.eval s = v) (hx : a.eval x = .slice A m c)
    (HO : d.R e W base (fun _ => True) v xs) (HR : Kd.C d W A m ys) (HB : Below base w0 W) (hbase : base ≤ W.heap.size) (hl : (xs.length + m) * bytes ≤ 140737488355328)
    (h : ∀ v1 w1, d.R e w1 base (fun _ => True) v1 (xs ++ ys) → Below base w0 w1 → wpList P ops Q rest (a.put o.dst v1) w1) :
    wpList P ops Q (o :: rest) a W :=
  Kd.R_append_rows d base hgd s x t e z bytes ho ht hinfo hz hs0 hb0 v xs ys A m c (fun _ => True) (fun _ => False) hs hx HO HR (fun x cs hh => hKM _ _ x cs hh) (fun _ hk => hk.elim) (fun _ _ => trivial) HB hbase hl (fun v1 w1 h1 h2 _ _ => h v1 w1 h1 h2)
end
theorem info45 : (Tryd.prog.info? 45).map (fun i => (i.zero, i.size, i.bytes)) = some (some (.agg #[.bool false, .int .u64 0, .string ⟨#[]⟩, .slice none 0 0]), 4, 56) := by kernel_rfl
/-! ### trees -/
def All2 {α β : Type} (R : α → β → Prop) : List α → List β → Prop
  | [], [] => True
  | a :: xs, b :: bs => R a b ∧ All2 R xs bs
  | _, _ => False
theorem All2.len {α β : Type} {R : α → β → Prop} : ∀ {xs : List α} {bs : List β}, All2 R xs bs → xs.length = bs.length
  | [], [], _ => rfl
  | _ :: _, _ :: _, h => congrArg (· + 1) (All2.len h.2)
  | [], _ :: _, h => h.elim
  | _ :: _, [], h => h.elim
theorem All2.app {α β : Type} {R : α → β → Prop} : ∀ {xs cs : List α} {bs ds : List β}, All2 R xs bs → All2 R cs ds → All2 R (xs ++ cs) (bs ++ ds)
  | [], _, [], _, _, h => h
  | _ :: _, _, _ :: _, _, h, h2 => ⟨h.1, All2.app h.2 h2⟩
  | [], _, _ :: _, _, h, _ => h.elim
  | _ :: _, _, [], _, h, _ => h.elim
theorem All2.at_ {α β : Type} {R : α → β → Prop} (da : α) (db : β) : ∀ {xs : List α} {bs : List β}, All2 R xs bs → ∀ k, k < xs.length → R (xs.getD k da) (bs.getD k db)
  | [], [], _, k, h => absurd h (by simp)
  | _ :: _, _ :: _, h, 0, _ => h.1
  | _ :: xs, _ :: bs, h, k + 1, hk => by
    simp only [List.getD_cons_succ]
    exact All2.at_ da db h.2 k (by simpa using hk)
  | [], _ :: _, h, _, _ => h.elim
  | _ :: _, [], h, _, _ => h.elim
theorem All2.imp {α β : Type} {R S : α → β → Prop} (f : ∀ a b, R a b → S a b) : ∀ {xs : List α} {bs : List β}, All2 R xs bs → All2 S xs bs
  | [], [], _ => trivial
  | _ :: _, _ :: _, h => ⟨f _ _ h.1, All2.imp f h.2⟩
  | [], _ :: _, h => h.elim
  | _ :: _, [], h => h.elim
/-- A value stands for a tree, read to a depth. -/
def Rd (w : World) : Nat → V → T → Prop
  | 0, v, t => v.nul = t.nul ∧ v.kn = t.kids.length ∧ (v.kn ≤ v.kc ∧ v.kn ≤ 1048576)
  | n + 1, v, t => v.nul = t.nul ∧ v.kn = t.kids.length ∧ (v.kn ≤ v.kc ∧ v.kn ≤ 1048576) ∧ ∃ vs, Kd.C kV w v.kA v.kn vs ∧ All2 (Rd w n) vs t.kids
theorem Rd.down {w : World} : ∀ {n : Nat} {v : V} {t : T}, Rd w (n + 1) v t → Rd w n v t
  | 0, v, t, h => ⟨h.1, h.2.1, h.2.2.1⟩
  | n + 1, v, t, h => by
    obtain ⟨h1, h2, h3, vs, hC, hA⟩ := h
    exact ⟨h1, h2, h3, vs, hC, All2.imp (fun _ _ => Rd.down) hA⟩
theorem Rd.le {w : World} {n m : Nat} (h : m ≤ n) {v : V} {t : T} (hr : Rd w n v t) : Rd w m v t := by
  induction n with
  | zero => obtain rfl : m = 0 := by omega
            exact hr
  | succ n ih =>
    rcases Nat.lt_or_ge m (n + 1) with h1 | h1
    · exact ih (by omega) hr.down
    · obtain rfl : m = n + 1 := by omega
      exact hr
theorem Rd.below {w w1 : World} (hb : Below w.heap.size w w1) : ∀ {n : Nat} {v : V} {t : T}, Rd w n v t → Rd w1 n v t
  | 0, v, t, h => h
  | n + 1, v, t, h => by
    obtain ⟨h1, h2, h3, vs, hC, hA⟩ := h
    exact ⟨h1, h2, h3, vs, Kd.C_below hC hb, All2.imp (fun _ _ => Rd.below hb) hA⟩
theorem Rd.head {w : World} : ∀ {n : Nat} {v : V} {t : T}, Rd w n v t → v.nul = t.nul ∧ v.kn = t.kids.length ∧ (v.kn ≤ v.kc ∧ v.kn ≤ 1048576)
  | 0, _, _, h => h
  | _ + 1, _, _, h => ⟨h.1, h.2.1, h.2.2.1⟩
/-- A row of values that stand for trees. -/
structure Row (w : World) (D : Nat) (A : Option Addr) (n : Nat) (vs : List V) (ts : List T) : Prop where
  row : Kd.C kV w A n vs
  all : All2 (Rd w D) vs ts
theorem Row.below {w w1 : World} {D : Nat} {A : Option Addr} {n : Nat} {vs : List V} {ts : List T} (h : Row w D A n vs ts) (hb : Below w.heap.size w w1) : Row w1 D A n vs ts :=
  ⟨Kd.C_below h.row hb, All2.imp (fun _ _ => Rd.below hb) h.all⟩
theorem Row.len {w : World} {D : Nat} {A : Option Addr} {n : Nat} {vs : List V} {ts : List T} (h : Row w D A n vs ts) : vs.length = n ∧ ts.length = n :=
  ⟨h.row.1, by rw [← All2.len h.all]; exact h.row.1⟩

end Go.Proofs.YtcjobencclihdaaDoor.Lv
