/- Comparisons: what is asked of two numbers, of two floats; a row of answers. -/
import Derived.Test.YtmdmpdbnnegpiaaGreatDoorCmB
import Derived.Laws.Cover2
namespace Go.Proofs.YtmdmpdbnnegpiaaGreatDoor.Cmp
open Go.RowKit Go.Proofs.YtmdmpdbnnegpiaaGreatDoorW.PrintWords Go.Proofs.YtmdmpdbnnegpiaaGreatDoorW.PrintLast Go.Proofs.YtmdmpdbnnegpiaaGreatDoorW.PrintMore
set_option linter.unusedVariables false
set_option linter.unusedSimpArgs false

def encU (x : Int) : Value := .int .u16 x
def encF (x : Int) : Value := .float .f64 x.toNat
def cmpU : Nat → Int → Int → Bool
  | 0, x, y => x == y
  | 1, x, y => x != y
  | 2, x, y => decide (y < x)
  | _, x, y => decide (y ≤ x)
def ordF (x y : Int) : Option Ordering := FloatKind.f64.format.order x.toNat y.toNat
def cmpF : Nat → Int → Int → Bool
  | 0, x, y => ordF x y == some .eq
  | 1, x, y => ordF x y != some .eq
  | 2, x, y => ordF x y == some .gt
  | _, x, y => ordF x y == some .gt || ordF x y == some .eq
/-- A row of words in a block of its own. -/
def W32 (w : World) (q : Nat) (us : List Int) : Prop := w.heap[q]? = some (.cells (us.map (Value.int .u32)).toArray 180 (0, 0))
theorem W32.cell {w : World} {q : Nat} {us : List Int} (h : W32 w q us) (i : Nat) (hi : i < us.length) : w.cell? ⟨q, i, none⟩ = some (.int .u32 (us.getD i 0)) := by
  rw [blk_cell h]
  simp [List.getD_eq_getElem?_getD, List.getElem?_eq_getElem hi]
theorem W32.frozen {w : World} {q : Nat} {us : List Int} (h : W32 w q us) (i : Nat) : w.frozen? ⟨q, i, none⟩ = false := blk_frozen h i
theorem W32.put {w : World} {q : Nat} {us : List Int} (h : W32 w q us) (i : Nat) (x : Int) : W32 (w.setCell ⟨q, i, none⟩ (.int .u32 x)) q (us.set i x) := by
  unfold W32
  rw [blk_set h]
  simp
/-- What a comparison leaves. -/
def Wrote (w : World) (q : Nat) (us : List Int) (m : Nat) (f : Nat → Bool) (e : Ending) (w' : World) : Prop :=
  e = .returned (.tuple #[]) ∧ w.grownBy w' (some q) ∧ W32 w' q (outs f m us)
/-- A row reads the same in every world in which of w's blocks q alone has turned. -/
def RdT (enc : Int → Value) (w : World) (q : Nat) (A : Option Addr) (n : Nat) (xs : List Int) : Prop := ∀ wr, w.grownBy wr (some q) → ReadsOf enc (0 : Int) wr A n xs
theorem RdT.cell {enc : Int → Value} {w wr : World} {q : Nat} {A : Option Addr} {n : Nat} {xs : List Int} (h : RdT enc w q A n xs) (hg : w.grownBy wr (some q)) (i : Nat) (hi : i < n) : ∃ a, A = some a ∧ wr.cell? (a.add i) = some (enc (xs.getD i 0)) := by
  obtain ⟨_, _, h3⟩ := h wr hg
  obtain ⟨a, ha, hc⟩ := h3 (by omega)
  exact ⟨a, ha, hc i hi⟩
theorem RdT.self {enc : Int → Value} {w : World} {q : Nat} {A : Option Addr} {n : Nat} {xs : List Int} (h : RdT enc w q A n xs) (i : Nat) (hi : i < n) : ∃ a, A = some a := by
  obtain ⟨a, ha, _⟩ := h.cell (World.grownBy.refl _ _) i hi
  exact ⟨a, ha⟩

end Go.Proofs.YtmdmpdbnnegpiaaGreatDoor.Cmp
