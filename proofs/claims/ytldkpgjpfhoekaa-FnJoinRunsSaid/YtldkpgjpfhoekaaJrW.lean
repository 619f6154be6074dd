/- Words of this proof: values, rows that are appended to, blocks, bits and bytes, type switches, floats' bits; the thin package's copy. -/
import Derived.Test.YtldkpgjpfhoekaaPOffsetsOfx0
import Derived.Outline
import Derived.Handy
import Derived.Defers
import Derived.Recover
import Derived.Laws.Panics
import Derived.Laws.Externs
import Derived.Laws.BitsLemmas
import Derived.Laws.BitsAllLaws
import Derived.Stop.Asserts
import Derived.StillTailTactics
namespace Go.Proofs.Ytldkpgjpfhoekaa.Join
open Go.RowKit Go.Proofs.YtldkpgjpfhoekaaW.PrintWords Go.Proofs.YtldkpgjpfhoekaaW.PrintLast Go.Proofs.YtldkpgjpfhoekaaW.PrintMore Go.Proofs.Ytldkpgjpfhoekaa.POffsetsOf
set_option linter.unusedVariables false
set_option linter.unusedSimpArgs false

/-- A value of the tree: its kids stand as the slice that they are. -/
structure V where
  nul : Bool
  num : Int
  txt : ByteArray
  kA : Option Addr
  kn : Nat
  kc : Nat
def V.enc (v : V) : List Value := [.bool v.nul, .int .u64 v.num, .string v.txt, .slice v.kA v.kn v.kc]
abbrev V.agg (v : V) : Value := .agg #[.bool v.nul, .int .u64 v.num, .string v.txt, .slice v.kA v.kn v.kc]
def z0 : V := ⟨false, 0, ⟨#[]⟩, none, 0, 0⟩
def kV : Kd V where
  sz := 4
  E := []
  K := fun _ x cs => cs = x.enc
  M := fun _ _ _ x cs => cs = x.enc
  K_len := fun h => by rw [h]; rfl
  K_one := fun h u hu => by
    rw [h] at hu
    simp [V.enc] at hu
    rcases hu with rfl | rfl | rfl | rfl <;> rfl
  K_below := fun _ h => h
  K_of_M := fun h => h
  M_mono := fun _ h => h
  M_bound := fun h => h
  M_move := fun _ h => h
  M_lower := fun _ h => h
theorem bcell {W w1 : World} (hb : Below W.heap.size W w1) : (∀ b o, b < W.heap.size → w1.cell? ⟨b, o, none⟩ = W.cell? ⟨b, o, none⟩) ∧ (∀ b o, b < W.heap.size → w1.frozen? ⟨b, o, none⟩ = W.frozen? ⟨b, o, none⟩) :=
  ⟨fun b o h => hb.cell (p := ⟨b, o, none⟩) h, fun b o h => hb.frozen (p := ⟨b, o, none⟩) h⟩
theorem grow2 {w w1 w2 : World} {o1 o2 : Obj} (hb : Below ((w.alloc o1).alloc o2).heap.size ((w.alloc o1).alloc o2) w1) (hb2 : Below w1.heap.size w1 w2) : Below w.heap.size w w2 :=
  ((((Below.refl _ _).alloc (Nat.le_refl _) _).alloc (by simp) _).trans (hb.mono (by simp; omega))).trans (hb2.mono (by have := hb.size; simp at this; omega))
theorem grow1 {w w1 : World} {o1 o2 : Obj} (hb : Below ((w.alloc o1).alloc o2).heap.size ((w.alloc o1).alloc o2) w1) : Below w.heap.size w w1 := grow2 hb (Below.refl _ _)
theorem grow0 {w : World} {o1 o2 : Obj} : Below w.heap.size w ((w.alloc o1).alloc o2) := grow1 (Below.refl _ _)
theorem ret_bool {a b : Bool} (h : a = b) : Ending.returned (.bool a) = .returned (.bool b) := by rw [h]
/-- The k-th value of a list. -/
def gv (l : List V) (k : Nat) : V := l.getD k z0
theorem gv_get (l : List V) (k : Nat) (h : k < l.length) : gv l k = l[k] := by
  simp [gv, List.getD_eq_getElem?_getD, List.getElem?_eq_getElem h]
theorem gv_mem {l : List V} {k : Nat} (h : k < l.length) : gv l k ∈ l := by rw [gv_get l k h]; exact List.getElem_mem h
theorem at_V {w : World} {A : Option Addr} {n : Nat} {xs : List V} (h : Kd.C kV w A n xs) (k : Nat) (h1 : k < n) :
    ∃ ad, A = some ad ∧ w.cell? (ad.add (k * 4)) = some (.bool (gv xs k).nul) ∧ w.cell? ⟨(ad.add (k * 4)).block, (ad.add (k * 4)).off + 1, none⟩ = some (.int .u64 (gv xs k).num) ∧
      w.cell? ⟨(ad.add (k * 4)).block, (ad.add (k * 4)).off + 2, none⟩ = some (.string (gv xs k).txt) ∧ w.cell? ⟨(ad.add (k * 4)).block, (ad.add (k * 4)).off + 3, none⟩ = some (.slice (gv xs k).kA (gv xs k).kn (gv xs k).kc) := by
  obtain ⟨ad, c, e, _, hK, hc0⟩ := Kd.C_get h z0 (k : Int) (by omega) (by omega)
  have hc : ∀ j u, c[j]? = some u → w.cell? (ad.add (k * 4 + j)) = some u := hc0
  have hK : c = (gv xs k).enc := hK
  subst hK
  exact ⟨ad, e, hc 0 _ rfl, by rw [← add_field _ _ 1 (by omega)]; exact hc 1 _ rfl, by rw [← add_field _ _ 2 (by omega)]; exact hc 2 _ rfl, by rw [← add_field _ _ 3 (by omega)]; exact hc 3 _ rfl⟩
theorem info5 : (Try.prog.info? 5).map (fun i => (i.zero, i.size, i.bytes)) = some (some (.int .u8 0), 1, 1) := by kernel_rfl
def byteAt (n : Int) (k : Nat) : Int := n / 2 ^ (8 * k) % 256
def le (n : Int) (b : Nat) : List Int := (List.range b).map (byteAt n)
theorem le_succ (n : Int) (b : Nat) : le n (b + 1) = le n b ++ [byteAt n b] := by simp [le, List.range_succ]
theorem le_len (n : Int) (b : Nat) : (le n b).length = b := by simp [le]
theorem blk_cell {w : World} {g : Nat} {cs : Array Value} {T : TypeId} (h : w.heap[g]? = some (.cells cs T (0, 0))) (i : Nat) : w.cell? ⟨g, i, none⟩ = cs[i]? := cell_of_row w g i cs T (0, 0) h
theorem blk_frozen {w : World} {g : Nat} {cs : Array Value} {T : TypeId} (h : w.heap[g]? = some (.cells cs T (0, 0))) (i : Nat) : w.frozen? ⟨g, i, none⟩ = false := by simp [World.frozen?, h]
theorem blk_set {w : World} {g : Nat} {cs : Array Value} {T : TypeId} (h : w.heap[g]? = some (.cells cs T (0, 0))) (i : Nat) (u : Value) : (w.setCell ⟨g, i, none⟩ u).heap[g]? = some (.cells (cs.setIfInBounds i u) T (0, 0)) := by
  simp [World.setCell, Array.getElem?_modify, h]
theorem gb_set {W wr : World} {g : Nat} (h : W.grownBy wr (some g)) {p : Addr} (hp : p.block = g ∨ W.heap.size ≤ p.block) (u : Value) : W.grownBy (wr.setCell p u) (some g) :=
  ⟨h.os, h.tape, h.output, by simpa [World.setCell] using h.size, fun i hi hne => (Below.heap_setCell wr p u i (by
    rintro rfl
    rcases hp with hp | hp
    · exact hne (by rw [hp])
    · omega)).trans (h.block i hi hne)⟩
theorem gb_drew {W wr : World} {g : Nat} (h : W.grownBy wr (some g)) : W.grownBy wr.drew (some g) := ⟨h.os, h.tape, h.output, h.size, h.block⟩
theorem gb_drewN {W wr : World} {g : Nat} (h : W.grownBy wr (some g)) (n : Nat) : W.grownBy (wr.drewN n) (some g) := ⟨h.os, h.tape, h.output, h.size, h.block⟩
theorem gb_below {W wr w' : World} {g : Nat} (h : W.grownBy wr (some g)) (hb : Below wr.heap.size wr w') : W.grownBy w' (some g) :=
  ⟨hb.os.trans h.os, hb.tape.trans h.tape, hb.output.trans h.output, Nat.le_trans h.size hb.size, fun i hi hne => (hb.block i (Nat.lt_of_lt_of_le hi h.size)).trans (h.block i hi hne)⟩
theorem gb_base {W wr w' : World} {g : Nat} (h : W.grownBy wr (some g)) (hb : Below W.heap.size wr w') : W.grownBy w' (some g) :=
  ⟨hb.os.trans h.os, hb.tape.trans h.tape, hb.output.trans h.output, Nat.le_trans h.size hb.size, fun i hi hne => (hb.block i hi).trans (h.block i hi hne)⟩
/-- A row of the call's own, made behind W, stays while of the present world's blocks g alone turns. -/
theorem own_kept {α : Type} {d : Kd α} {e base g : Nat} {w w1 : World} {v : Value} {xs : List α} (h : d.R e w base (fun _ => True) v xs) (hg : w.grownBy w1 (some g)) (hlt : g < base) : d.R e w1 base (fun _ => True) v xs :=
  Kd.R_mono (Kd.R_grown (Kd.R_bound h) hg (fun k hk he => by obtain ⟨_, h1, _⟩ := hk; injection he; omega)) (fun _ _ => trivial)
def fill {α : Type} (xs : List α) (z : α) (n : Nat) : List α := xs ++ List.replicate (n - xs.length) z
theorem fill_len {α : Type} (xs : List α) (z : α) (n : Nat) (h : xs.length ≤ n) : (fill xs z n).length = n := by simp [fill]; omega
theorem fill_set {α : Type} (xs : List α) (z x : α) (n : Nat) (h : xs.length < n) : (fill xs z n).set xs.length x = fill (xs ++ [x]) z n := by
  unfold fill
  rw [List.set_append_right _ _ (by omega), Nat.sub_self, List.append_assoc, List.length_append]
  congr 1
  rw [show n - xs.length = (n - (xs.length + 1)) + 1 by omega, List.replicate_succ]
  simp
theorem fill_all {α : Type} (xs : List α) (z : α) : fill xs z xs.length = xs := by simp [fill]
theorem fill_get {α : Type} (xs : List α) (z : α) (n : Nat) (h : xs.length < n) : (fill xs z n)[xs.length]? = some z := by
  unfold fill
  rw [List.getElem?_append_right (Nat.le_refl _), Nat.sub_self, List.getElem?_replicate]
  simp; omega
theorem c_blk {α : Type} {enc : α → Value} {h1 : ∀ x : α, (enc x).oneCell' = true} (d : α) {w : World} {q n : Nat} {T : TypeId} {ys : List α} (h : w.heap[q]? = some (.cells (ys.map enc).toArray T (0, 0))) (hn : ys.length = n) (hs : n ≤ 1000000) : Kd.C (Kd.scalar enc h1) w (some ⟨q, 0, none⟩) n ys := by
  refine Kd.C_of_reads (d := d) ⟨hn, by omega, fun _ => ⟨_, rfl, fun j hj => ?_⟩⟩
  rw [add_plain, cell_of_row w q j _ T (0, 0) h]
  simp [List.getD_eq_getElem?_getD, List.getElem?_eq_getElem (show j < ys.length by omega)]
theorem block_lt {w : World} {g : Nat} {o : Obj} (h : w.heap[g]? = some o) : g < w.heap.size := by
  rcases Nat.lt_or_ge g w.heap.size with hlt | hge
  · exact hlt
  · rw [Array.getElem?_eq_none hge] at h; cases h
theorem two_blocks (w : World) (o1 o2 : Obj) : ((w.alloc o1).alloc o2).heap[w.heap.size]? = some o1 ∧ ((w.alloc o1).alloc o2).heap[w.heap.size + 1]? = some o2 := by
  have h1 := heap_alloc_new w o1
  have h2 := heap_alloc_new (w.alloc o1) o2
  have e1 := Below.heap_alloc (w.alloc o1) o2 w.heap.size (by simp)
  exact ⟨e1.trans h1, by simpa using h2⟩
section
variable {P : Program} {ops : Array Oper} {rest : List Oper} {o : Oper} {a : Act} {Q : Exit → Act → World → Prop} {α : Type}
theorem app1 (d : Kd α) {w0 W : World} (base : Nat) (hgd : o.guard = none) (s x : Operand) (t e : TypeId) (z : Value) (bytes : Nat)
    (ho : o.op = .call { callee := .builtin .append, args := #[s, x], argTypes := #[t, t] })
    (ht : P.underlying t = some (.slice e)) (hinfo : (P.info? e).map (fun i => (i.zero, i.size, i.bytes)) = some (some z, d.sz, bytes)) (hz : z.cells.size = d.sz) (hs0 : 0 < d.sz) (hb0 : 0 < bytes)
    (v : Value) (xs : List α) (p : α) (cs : List Value) (hs : a.eval s = v) (hx : a.eval x = .slice (some ⟨W.heap.size, 0, none⟩) 1 1) (hp : d.M W base (fun _ => False) p cs)
    (HO : d.R e W base (fun _ => True) v xs) (HB : Below base w0 W) (hbase : base ≤ W.heap.size) (hl : (xs.length + 1) * bytes ≤ 140737488355328)
    (h : ∀ v1 w1, d.R e w1 base (fun _ => True) v1 (xs ++ [p]) → Below base w0 w1 → wpList P ops Q rest (a.put o.dst v1) w1) :
    wpList P ops Q (o :: rest) a (W.alloc (.cells cs.toArray e)) :=
  Kd.R_append d base hgd s x t e z bytes ho ht hinfo hz hs0 hb0 v xs p cs (fun _ => True) (fun _ => False) hs hx hp (fun _ hk => hk.elim) (fun _ _ => trivial) HO HB hbase hl (fun v1 w1 h1 h2 _ _ => h v1 w1 h1 h2)
theorem appN (d : Kd α) {w0 W : World} (base : Nat) (hKM : ∀ W' b x cs, d.K W' x cs → d.M W' b (fun _ => False) x cs) (hgd : o.guard = none) (s x : Operand) (t e : TypeId) (z : Value) (bytes : Nat)
    (ho : o.op = .call { callee := .builtin .append, args := #[s, x], argTypes := #[t, t] })
    (ht : P.underlying t = some (.slice e)) (hinfo : (P.info? e).map (fun i => (i.zero, i.size, i.bytes)) = some (some z, d.sz, bytes)) (hz : z.cells.size = d.sz) (hs0 : 0 < d.sz) (hb0 : 0 < bytes)
    (v : Value) (xs ys : List α) (A : Option Addr) (m c : Nat) (hs : a.eval s = v) (hx : a.eval x = .slice A m c)
    (HO : d.R e W base (fun _ => True) v xs) (HR : Kd.C d W A m ys) (HB : Below base w0 W) (hbase : base ≤ W.heap.size) (hl : (xs.length + m) * bytes ≤ 140737488355328)
    (h : ∀ v1 w1, d.R e w1 base (fun _ => True) v1 (xs ++ ys) → Below base w0 w1 → wpList P ops Q rest (a.put o.dst v1) w1) :
    wpList P ops Q (o :: rest) a W :=
  Kd.R_append_rows d base hgd s x t e z bytes ho ht hinfo hz hs0 hb0 v xs ys A m c (fun _ => True) (fun _ => False) hs hx HO HR (fun x cs hh => hKM _ _ x cs hh) (fun _ hk => hk.elim) (fun _ _ => trivial) HB hbase hl (fun v1 w1 h1 h2 _ _ => h v1 w1 h1 h2)
end
/-- A row of the call's own is handed back. -/
def RetRow (xs : List Int) (w : World) (e : Ending) (w' : World) : Prop := ∃ v, e = .returned v ∧ Kd.R (Kd.int .u8) 5 w' w.heap.size (fun _ => True) v xs ∧ Below w.heap.size w w'
set_option maxRecDepth 100000 in
theorem copied_any (A : Option Addr) (n c : Nat) (xs : List Int) (w : World) (h : Kd.C (Kd.int .u8) w A n xs) (hn : n ≤ 1000000) : Calls Try.prog 12 #[.slice A n c] w (RetRow xs w) := by
  have HC := Aside0.mk h
  clear h
  go_enter Try.func12, Try.ntmps12
  go_wp2_with (((with_reducible refine gate_builtin (b := .append) (xs := #[.tmp 3, .tmp 4]) rfl ?_); at_builtin; refine appN (Kd.int .u8) (w0 := w) w.heap.size (fun _ _ _ _ h => h) rfl (.tmp 3) (.tmp 4) 24 5 (.int .u8 0) 1 rfl Try.underlying24 info5 rfl (by decide) (by omega) _ [] xs A n c rfl rfl (Kd.R_of_own (h1 := fun _ => rfl) (enc := Value.int .u8) (own_lit w _ 5 .u8 [] (Nat.le_refl _) (by simp)) (fun _ _ => trivial)) (Kd.C_below HC.out ((Below.refl _ _).alloc (Nat.le_refl _) _)) ((Below.refl _ _).alloc (Nat.le_refl _) _) (by simp) (by simp; omega) ?_; intro v1 w2 ho hb))
  go_ret
  exact ⟨v1, rfl, ho, hb⟩
theorem bits_nat (kd : IntKind) (B : Nat) (hB : B ≤ kd.bits) (hk : ∀ n : Int, 0 ≤ n → n < 2 ^ kd.bits → kd.wrap n = n) (a b : Nat) (ha : a < 2 ^ B) (hb : b < 2 ^ B) : Go.bits .or kd (a : Int) (b : Int) = ((a ||| b : Nat) : Int) := by
  have hle : (2 : Nat) ^ B ≤ 2 ^ kd.bits := Nat.pow_le_pow_right (by omega) hB
  have key : ∀ n : Nat, n < 2 ^ B → kd.wrap (n : Int) = n := fun n hn => hk n (by omega) (by exact_mod_cast Nat.lt_of_lt_of_le hn hle)
  have toNat : ∀ n : Nat, n < 2 ^ B → (BitVec.ofInt kd.bits (n : Int)).toNat = n := by
    intro n hn
    rw [BitVec.ofInt_natCast, BitVec.toNat_ofNat]
    exact Nat.mod_eq_of_lt (Nat.lt_of_lt_of_le hn hle)
  show kd.wrap ((BitVec.ofInt kd.bits a ||| BitVec.ofInt kd.bits b).toNat : Int) = _
  rw [BitVec.toNat_or, toNat a ha, toNat b hb]
  exact key _ (Nat.or_lt_two_pow ha hb)
theorem or_add (kd : IntKind) (hk : ∀ n : Int, 0 ≤ n → n < 2 ^ kd.bits → kd.wrap n = n) (k : Nat) (x y : Int) (hx : 0 ≤ x ∧ x < 2 ^ k) (hy : 0 ≤ y) (h : x + y * 2 ^ k < 2 ^ kd.bits) : Go.bits .or kd x (y * 2 ^ k) = x + y * 2 ^ k := by
  obtain ⟨a, rfl⟩ := Int.eq_ofNat_of_zero_le hx.1
  obtain ⟨b, rfl⟩ := Int.eq_ofNat_of_zero_le hy
  have ha : a < 2 ^ k := by have h1 := hx.2; exact_mod_cast h1
  have hab : a + b * 2 ^ k < 2 ^ kd.bits := by exact_mod_cast h
  have e : (b : Int) * 2 ^ k = ((2 ^ k * b : Nat) : Int) := by rw [Nat.mul_comm]; push_cast; rfl
  rw [e, bits_nat kd kd.bits (Nat.le_refl _) hk a (2 ^ k * b) (by omega) (by rw [Nat.mul_comm]; omega), Nat.or_comm, ← Nat.two_pow_add_eq_or_of_lt ha]
  push_cast
  omega
theorem wraps_u32 (n : Int) (h0 : 0 ≤ n) (h1 : n < 2 ^ IntKind.u32.bits) : IntKind.u32.wrap n = n := by
  have e : (2 : Int) ^ IntKind.u32.bits = 4294967296 := rfl
  rw [IntKind.wrap_u32]; omega
theorem wraps_u64 (n : Int) (h0 : 0 ≤ n) (h1 : n < 2 ^ IntKind.u64.bits) : IntKind.u64.wrap n = n := by
  have e : (2 : Int) ^ IntKind.u64.bits = 18446744073709551616 := rfl
  rw [IntKind.wrap_u64]; omega
theorem or_u32 (k : Nat) (x y : Int) (hx : 0 ≤ x ∧ x < 2 ^ k) (hy : 0 ≤ y) (h : x + y * 2 ^ k < 4294967296) : Go.bits .or .u32 x (y * 2 ^ k) = x + y * 2 ^ k := or_add .u32 wraps_u32 k x y hx hy h
theorem or_u64 (k : Nat) (x y : Int) (hx : 0 ≤ x ∧ x < 2 ^ k) (hy : 0 ≤ y) (h : x + y * 2 ^ k < 18446744073709551616) : Go.bits .or .u64 x (y * 2 ^ k) = x + y * 2 ^ k := or_add .u64 wraps_u64 k x y hx hy h
theorem or_words (a b c d : Int) (ha : 0 ≤ a ∧ a ≤ 255) (hb : 0 ≤ b ∧ b ≤ 255) (hc : 0 ≤ c ∧ c ≤ 255) (hd : 0 ≤ d ∧ d ≤ 255) :
    Go.bits .or .u32 (Go.bits .or .u32 (Go.bits .or .u32 a (b * 256)) (c * 65536)) (d * 16777216) = a + 256 * b + 65536 * c + 16777216 * d := by
  have h1 := or_u32 8 a b (by omega) hb.1 (by omega)
  have h2 := or_u32 16 (a + b * 256) c (by omega) hc.1 (by omega)
  have h3 := or_u32 24 (a + b * 256 + c * 65536) d (by omega) hd.1 (by omega)
  rw [show (2 : Int) ^ 8 = 256 from rfl] at h1
  rw [show (2 : Int) ^ 16 = 65536 from rfl] at h2
  rw [show (2 : Int) ^ 24 = 16777216 from rfl] at h3
  rw [h1, h2, h3]
  omega
theorem ret_u32 {a b : Int} (h : a = b) : Ending.returned (.int .u32 a) = Ending.returned (.int .u32 b) := by rw [h]
theorem byte_range (x : Int) (k : Nat) : 0 ≤ byteAt x k ∧ byteAt x k ≤ 255 := by unfold byteAt; omega
theorem le4 (x : Int) (h0 : 0 ≤ x) (h1 : x < 4294967296) : byteAt x 0 + 256 * byteAt x 1 + 65536 * byteAt x 2 + 16777216 * byteAt x 3 = x := by
  simp [byteAt]
  omega
theorem ret_u64 {a b : Int} (h : a = b) : Ending.returned (.int .u64 a) = Ending.returned (.int .u64 b) := by rw [h]
theorem or_words8 (a b c d e f g h : Int) (ha : 0 ≤ a ∧ a ≤ 255) (hb : 0 ≤ b ∧ b ≤ 255) (hc : 0 ≤ c ∧ c ≤ 255) (hd : 0 ≤ d ∧ d ≤ 255) (he : 0 ≤ e ∧ e ≤ 255) (hf : 0 ≤ f ∧ f ≤ 255) (hg : 0 ≤ g ∧ g ≤ 255) (hh : 0 ≤ h ∧ h ≤ 255) :
    Go.bits .or .u64 (Go.bits .or .u64 (Go.bits .or .u64 (Go.bits .or .u64 (Go.bits .or .u64 (Go.bits .or .u64 (Go.bits .or .u64 a (b * 256)) (c * 65536)) (d * 16777216)) (e * 4294967296)) (f * 1099511627776)) (g * 281474976710656)) (h * 72057594037927936) =
      a + 256 * b + 65536 * c + 16777216 * d + 4294967296 * e + 1099511627776 * f + 281474976710656 * g + 72057594037927936 * h := by
  have h1 := or_u64 8 a b (by omega) hb.1 (by omega)
  have h2 := or_u64 16 (a + b * 256) c (by omega) hc.1 (by omega)
  have h3 := or_u64 24 (a + b * 256 + c * 65536) d (by omega) hd.1 (by omega)
  have h4 := or_u64 32 (a + b * 256 + c * 65536 + d * 16777216) e (by omega) he.1 (by omega)
  have h5 := or_u64 40 (a + b * 256 + c * 65536 + d * 16777216 + e * 4294967296) f (by omega) hf.1 (by omega)
  have h6 := or_u64 48 (a + b * 256 + c * 65536 + d * 16777216 + e * 4294967296 + f * 1099511627776) g (by omega) hg.1 (by omega)
  have h7 := or_u64 56 (a + b * 256 + c * 65536 + d * 16777216 + e * 4294967296 + f * 1099511627776 + g * 281474976710656) h (by omega) hh.1 (by omega)
  rw [show (2 : Int) ^ 8 = 256 from rfl] at h1
  rw [show (2 : Int) ^ 16 = 65536 from rfl] at h2
  rw [show (2 : Int) ^ 24 = 16777216 from rfl] at h3
  rw [show (2 : Int) ^ 32 = 4294967296 from rfl] at h4
  rw [show (2 : Int) ^ 40 = 1099511627776 from rfl] at h5
  rw [show (2 : Int) ^ 48 = 281474976710656 from rfl] at h6
  rw [show (2 : Int) ^ 56 = 72057594037927936 from rfl] at h7
  rw [h1, h2, h3, h4, h5, h6, h7]
  omega
theorem le8 (x : Int) (h0 : 0 ≤ x) (h1 : x < 18446744073709551616) : byteAt x 0 + 256 * byteAt x 1 + 65536 * byteAt x 2 + 16777216 * byteAt x 3 + 4294967296 * byteAt x 4 + 1099511627776 * byteAt x 5 + 281474976710656 * byteAt x 6 + 72057594037927936 * byteAt x 7 = x := by
  simp [byteAt]
  omega
/-- A type that is no interface. -/
def plainB (P : Program) (a : TypeId) : Bool := match P.underlying a with | some (.interface _) => false | some _ => true | none => false
theorem ta_yes {P : Program} {t xT : TypeId} (v : Value) (h : plainB P t = true) (w : World) : (Instr.typeAssert (.iface t v) xT t true).run P w = .ok (.tuple #[v, .bool true]) w := by
  unfold plainB at h
  cases hu : P.underlying t with
  | none => rw [hu] at h; cases h
  | some d =>
    rw [hu] at h
    cases d <;> simp at h <;> simp [Instr.typeAssert, run_underlying hu, go_sem, Result.andThen]
theorem ta_no {P : Program} {t a xT : TypeId} (v z : Value) (h : plainB P a = true) (hz : (P.info? a).map (·.zero) = some (some z)) (hne : t ≠ a) (w : World) : (Instr.typeAssert (.iface t v) xT a true).run P w = .ok (.tuple #[z, .bool false]) w := by
  unfold plainB at h
  obtain ⟨i, hi, hiz⟩ := Option.map_eq_some_iff.1 hz
  cases hu : P.underlying a with
  | none => rw [hu] at h; cases h
  | some d =>
    rw [hu] at h
    cases d <;> simp at h <;> simp [Instr.typeAssert, run_underlying hu, go_sem, Result.andThen, hne, zeroValue, typeInfo, hi, hiz]
theorem run_store_float (P : Program) (w : World) (a : Addr) (m : Mode) (k : FloatKind) (b : Nat) : (store a (.float k b) m).run P w = stored P w a (.float k b) m := run_store P w a _ m rfl
theorem from64 (n : Int) (W : World) : (callFunc 55 #[.int .u64 n]).run Try.prog W = .ok (.value (.float .f64 n.toNat)) W := by
  rw [run_callFunc_extern (e := Extern.MathFloatBits.float64frombits) Try.func55 rfl rfl (by rfl) (by rfl)]
  rfl
theorem bits64 (n : Nat) (W : World) : (callFunc 63 #[.float .f64 n]).run Try.prog W = .ok (.value (.int .u64 (n : Int))) W := by
  rw [run_callFunc_extern (e := Extern.MathFloatBits.float64bits) Try.func63 rfl rfl (by rfl) (by rfl)]
  rfl

end Go.Proofs.Ytldkpgjpfhoekaa.Join
