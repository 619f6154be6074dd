/- Words for a decoder: its block, the bytes that are left, slices into them; the smaller of two, an error, the deferred function. -/
import Derived.Test.YtbghkoalmjfpiaaR4E
import Derived.Recover
import Derived.Laws.Panics
namespace Go.Proofs.Ytbghkoalmjfpiaa.Plain
open Go.RowKit Go.Proofs.YtbghkoalmjfpiaaW.PrintWords Go.Proofs.YtbghkoalmjfpiaaW.PrintLast Go.Proofs.YtbghkoalmjfpiaaW.PrintMore Go.Proofs.Ytbghkoalmjfpiaa.PBatchedValues
set_option linter.unusedVariables false
set_option linter.unusedSimpArgs false

/-- Bytes read the same in every world in which of W's blocks g alone has turned. -/
def RdD (W : World) (g : Nat) (A : Option Addr) (xs : List Int) : Prop := ∀ wr, W.grownBy wr (some g) → ReadsOf (Value.int .u8) (0 : Int) wr A xs.length xs
theorem RdD.c {W wr : World} {g : Nat} {A : Option Addr} {xs : List Int} (h : RdD W g A xs) (hg : W.grownBy wr (some g)) : Kd.C (Kd.int .u8) wr A xs.length xs := Kd.C_of_reads (h wr hg)
theorem RdD.nil (W : World) (g : Nat) : RdD W g none [] := fun wr _ => ⟨rfl, by simp, fun h => absurd h (by simp)⟩
/-- A decoder's block: how many values are left, the bytes that are left. -/
structure DB (T : TypeId) (mk : Nat → Value → Array Value) (W : World) (g : Nat) (wr : World) (nv : Nat) (bs : List Int) (A : Option Addr) (c : Nat) : Prop where
  grown : W.grownBy wr (some g)
  lt : g < W.heap.size
  blk : wr.heap[g]? = some (.cells (mk nv (.slice A bs.length c)) T (0, 0))
  rd : RdD W g A bs
  le : bs.length ≤ c
  small : bs.length ≤ 1000000
abbrev Slc := Option Addr × Nat × Nat
def kS : Kd Slc := Kd.scalar (fun s => .slice s.1 s.2.1 s.2.2) (fun _ => rfl)
def s0 : Slc := (none, 0, 0)
/-- A slice has a value's text. -/
def RelT (W : World) (g : Nat) (s : Slc) (v : V) : Prop := s.2.1 = (bytesOf v.txt).length ∧ RdD W g s.1 (bytesOf v.txt)
theorem blk_cell {w : World} {g : Nat} {cs : Array Value} {T : TypeId} (h : w.heap[g]? = some (.cells cs T (0, 0))) (i : Nat) : w.cell? ⟨g, i, none⟩ = cs[i]? := cell_of_row w g i cs T (0, 0) h
theorem blk_frozen {w : World} {g : Nat} {cs : Array Value} {T : TypeId} (h : w.heap[g]? = some (.cells cs T (0, 0))) (i : Nat) : w.frozen? ⟨g, i, none⟩ = false := by simp [World.frozen?, h]
theorem blk_set {w : World} {g : Nat} {cs : Array Value} {T : TypeId} (h : w.heap[g]? = some (.cells cs T (0, 0))) (i : Nat) (u : Value) : (w.setCell ⟨g, i, none⟩ u).heap[g]? = some (.cells (cs.setIfInBounds i u) T (0, 0)) := by
  simp [World.setCell, Array.getElem?_modify, h]
theorem gb_set {W wr : World} {g : Nat} (h : W.grownBy wr (some g)) {p : Addr} (hp : p.block = g ∨ W.heap.size ≤ p.block) (u : Value) : W.grownBy (wr.setCell p u) (some g) :=
  ⟨h.os, h.tape, h.output, by simpa [World.setCell] using h.size, fun i hi hne => (Below.heap_setCell wr p u i (by
    rintro rfl
    rcases hp with hp | hp
    · exact hne (by rw [hp])
    · omega)).trans (h.block i hi hne)⟩
theorem gb_drew {W wr : World} {g : Nat} (h : W.grownBy wr (some g)) : W.grownBy wr.drew (some g) := ⟨h.os, h.tape, h.output, h.size, h.block⟩
theorem gb_drewN {W wr : World} {g : Nat} (h : W.grownBy wr (some g)) (n : Nat) : W.grownBy (wr.drewN n) (some g) := ⟨h.os, h.tape, h.output, h.size, h.block⟩
theorem gb_below {W wr w' : World} {g : Nat} (h : W.grownBy wr (some g)) (hb : Below wr.heap.size wr w') : W.grownBy w' (some g) :=
  ⟨hb.os.trans h.os, hb.tape.trans h.tape, hb.output.trans h.output, Nat.le_trans h.size hb.size, fun i hi hne => (hb.block i (Nat.lt_of_lt_of_le hi h.size)).trans (h.block i hi hne)⟩
theorem gb_base {W wr w' : World} {g : Nat} (h : W.grownBy wr (some g)) (hb : Below W.heap.size wr w') : W.grownBy w' (some g) :=
  ⟨hb.os.trans h.os, hb.tape.trans h.tape, hb.output.trans h.output, Nat.le_trans h.size hb.size, fun i hi hne => (hb.block i hi).trans (h.block i hi hne)⟩
/-- A row of the call's own, made behind W, stays while of the present world's blocks g alone turns. -/
theorem own_kept {α : Type} {d : Kd α} {e base g : Nat} {w w1 : World} {v : Value} {xs : List α} (h : d.R e w base (fun _ => True) v xs) (hg : w.grownBy w1 (some g)) (hlt : g < base) : d.R e w1 base (fun _ => True) v xs :=
  Kd.R_mono (Kd.R_grown (Kd.R_bound h) hg (fun k hk he => by obtain ⟨_, h1, _⟩ := hk; injection he; omega)) (fun _ _ => trivial)
/-! ### cells of a row that is being filled -/
def fill {α : Type} (xs : List α) (z : α) (n : Nat) : List α := xs ++ List.replicate (n - xs.length) z
theorem fill_len {α : Type} (xs : List α) (z : α) (n : Nat) (h : xs.length ≤ n) : (fill xs z n).length = n := by simp [fill]; omega
theorem fill_set {α : Type} (xs : List α) (z x : α) (n : Nat) (h : xs.length < n) : (fill xs z n).set xs.length x = fill (xs ++ [x]) z n := by
  unfold fill
  rw [List.set_append_right _ _ (by omega), Nat.sub_self, List.append_assoc, List.length_append]
  congr 1
  rw [show n - xs.length = (n - (xs.length + 1)) + 1 by omega, List.replicate_succ]
  simp
theorem fill_all {α : Type} (xs : List α) (z : α) : fill xs z xs.length = xs := by simp [fill]
theorem fill_get {α : Type} (xs : List α) (z : α) (n : Nat) (h : xs.length < n) : (fill xs z n)[xs.length]? = some z := by
  unfold fill
  rw [List.getElem?_append_right (Nat.le_refl _), Nat.sub_self, List.getElem?_replicate]
  simp; omega
theorem DB.below {T : TypeId} {mk : Nat → Value → Array Value} {W wr w' : World} {g nv : Nat} {bs : List Int} {A : Option Addr} {c : Nat} (h : DB T mk W g wr nv bs A c) (hb : Below W.heap.size wr w') : DB T mk W g w' nv bs A c :=
  ⟨gb_base h.grown hb, h.lt, (hb.block g h.lt).trans h.blk, h.rd, h.le, h.small⟩
theorem c_blk {α : Type} {enc : α → Value} {h1 : ∀ x : α, (enc x).oneCell' = true} (d : α) {w : World} {q n : Nat} {T : TypeId} {ys : List α} (h : w.heap[q]? = some (.cells (ys.map enc).toArray T (0, 0))) (hn : ys.length = n) (hs : n ≤ 1000000) : Kd.C (Kd.scalar enc h1) w (some ⟨q, 0, none⟩) n ys := by
  refine Kd.C_of_reads (d := d) ⟨hn, by omega, fun _ => ⟨_, rfl, fun j hj => ?_⟩⟩
  rw [add_plain, cell_of_row w q j _ T (0, 0) h]
  simp [List.getD_eq_getElem?_getD, List.getElem?_eq_getElem (show j < ys.length by omega)]
/-! ### two lists, pair by pair -/
def All2 {α β : Type} (R : α → β → Prop) (xs : List α) (ys : List β) : Prop := xs.length = ys.length ∧ ∀ (j : Nat) (x : α) (y : β), xs[j]? = some x → ys[j]? = some y → R x y
section
variable {α β : Type} {R : α → β → Prop} {xs xs' : List α} {ys ys' : List β}
theorem All2.nil : All2 R [] [] := ⟨rfl, fun j x y h => by simp at h⟩
theorem All2.append (h : All2 R xs ys) (h' : All2 R xs' ys') : All2 R (xs ++ xs') (ys ++ ys') := by
  refine ⟨by rw [List.length_append, List.length_append, h.1, h'.1], fun j x y hx hy => ?_⟩
  by_cases hj : j < xs.length
  · rw [List.getElem?_append_left hj] at hx
    rw [List.getElem?_append_left (by rw [← h.1]; exact hj)] at hy
    exact h.2 j x y hx hy
  · rw [List.getElem?_append_right (by omega)] at hx
    rw [List.getElem?_append_right (by rw [← h.1]; omega), ← h.1] at hy
    exact h'.2 _ x y hx hy
theorem All2.one {x : α} {y : β} (h : R x y) : All2 R [x] [y] := ⟨rfl, fun j a b ha hb => by
  match j with
  | 0 => simp at ha hb; subst ha; subst hb; exact h
  | j + 1 => simp at ha⟩
theorem All2.snoc {x : α} {y : β} (h : All2 R xs ys) (hr : R x y) : All2 R (xs ++ [x]) (ys ++ [y]) := h.append (.one hr)
end
theorem take_snoc (l : List V) (k : Nat) (h : k < l.length) : l.take (k + 1) = l.take k ++ [gv l k] := by
  rw [List.take_succ_eq_append_getElem h, gv_get l k h]
/-! ### the least functions -/
theorem min_left (a b : Int) (w : World) (h : a ≤ b) : Calls Try.prog 73 #[.int .i64 a, .int .i64 b] w fun e w' => e = .returned (.int .i64 a) ∧ w = w' := by
  by_cases hlt : a < b
  · go_enter Try.func73, Try.ntmps73
    go_wp2
    go_ret
    exact ⟨rfl, rfl⟩
  · obtain rfl : a = b := by omega
    go_enter Try.func73, Try.ntmps73
    go_wp2
    go_ret
    exact ⟨rfl, rfl⟩
def RetErr (w : World) (e : Ending) (w' : World) : Prop := ∃ t p, e = .returned (.iface t p) ∧ Below w.heap.size w w'
theorem err_any (s : ByteArray) (w : World) : Calls Try.prog 74 #[.string s] w (RetErr w) := by
  go_enter Try.func74, Try.ntmps74
  go_wp2
  go_ret
  exact ⟨_, _, rfl, (Below.refl _ _).alloc (Nat.le_refl _) _⟩
/-! ### the deferred function -/
theorem idle (pl po : Addr) (w : World) :
    CallsD Try.prog 23 #[.pointer (some pl), .pointer (some po)] .returning w fun e u' w' => e = .returned (.tuple #[]) ∧ u' = .returning ∧ w' = w := by
  refine callsD_of_wpS Try.func23 rfl fun c₀ cs hu => ?_
  apply wpS_seq
  apply wpS_region
  simp [wpOpsS, go_sem, recoverD, hu, Try.ntmps23, Exit.thenS]
  refine wpS_cond (t := false) (by simp [Act.eval, Array.replicate]) ?_
  simp only [Bool.false_eq_true, if_false]
  refine wpS_of_wp (wp_skip ?_)
  cases c₀
  simp_all [bodyPostS, results, Try.results23]

end Go.Proofs.Ytbghkoalmjfpiaa.Plain
