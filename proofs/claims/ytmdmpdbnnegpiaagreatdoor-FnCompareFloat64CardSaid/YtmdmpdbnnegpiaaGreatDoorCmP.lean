/- What the reference says of two numbers is what the code's comparison says. Plain. -/
import Derived.Test.YtmdmpdbnnegpiaaGreatDoorCmC0
namespace Go.Proofs.YtmdmpdbnnegpiaaGreatDoor.Cmp
open Go.RowKit
set_option linter.unusedVariables false
set_option linter.unusedSimpArgs false

/-- The reference's word on a comparison: c is -1, 0 or 1; no: one is no number. -/
def ans (op : Nat) (c : Int) (no : Bool) : Bool :=
  if no then op == 1 else match op with
  | 0 => decide (c = 0)
  | 1 => !decide (c = 0)
  | 2 => decide (0 < c)
  | _ => decide (0 ≤ c)
def sgnU (x y : Int) : Int := if x < y then -1 else if y < x then 1 else 0
theorem ans_U (op : Nat) (x y : Int) : ans op (sgnU x y) false = cmpU op x y := by
  unfold sgnU
  by_cases h1 : x < y
  · rw [if_pos h1]
    match op with
    | 0 => simp [ans, cmpU]; omega
    | 1 => simp [ans, cmpU]; omega
    | 2 => simp [ans, cmpU]; omega
    | op + 3 => simp [ans, cmpU]; omega
  · rw [if_neg h1]
    by_cases h2 : y < x
    · rw [if_pos h2]
      match op with
      | 0 => simp [ans, cmpU]; omega
      | 1 => simp [ans, cmpU]; omega
      | 2 => simp [ans, cmpU]; omega
      | op + 3 => simp [ans, cmpU]; omega
    · rw [if_neg h2]
      obtain rfl : x = y := by omega
      match op with
      | 0 => simp [ans, cmpU]
      | 1 => simp [ans, cmpU]
      | 2 => simp [ans, cmpU]
      | op + 3 => simp [ans, cmpU]
theorem cmp_self (a : Int) : compare a a = .eq := by rw [Int.compare_eq_eq]
theorem cmp_selfN (a : Nat) : compare a a = .eq := by rw [Nat.compare_eq_eq]
/-- A datum is a number, or none; then it stands in no order. -/
theorem datum_self (d : Ieee.Datum) : d.order d = some .eq ∨ ∀ e : Ieee.Datum, d.order e = none ∧ e.order d = none := by
  cases d with
  | nan => right; intro e; cases e <;> exact ⟨rfl, rfl⟩
  | infinity s => left; simp [Ieee.Datum.order, cmp_selfN]
  | number s m i => left; simp [Ieee.Datum.order, cmp_self]
theorem datum_both (d e : Ieee.Datum) (hd : d.order d = some .eq) (he : e.order e = some .eq) : ∃ o, d.order e = some o := by
  cases d <;> cases e <;> first | exact ⟨_, rfl⟩ | (cases hd; done) | (cases he; done)
def nanF (x : Int) : Bool := ordF x x != some .eq
def sgnF (x y : Int) : Int := if ordF x y == some .lt then -1 else if ordF x y == some .gt then 1 else 0
theorem ans_F (op : Nat) (x y : Int) : ans op (if nanF x || nanF y then 0 else sgnF x y) (nanF x || nanF y) = cmpF op x y := by
  rcases datum_self (FloatKind.f64.format.read x.toNat) with hx | hx
  · rcases datum_self (FloatKind.f64.format.read y.toNat) with hy | hy
    · obtain ⟨o, ho⟩ := datum_both _ _ hx hy
      have ex : nanF x = false := by unfold nanF ordF Ieee.Format.order; rw [hx]; rfl
      have ey : nanF y = false := by unfold nanF ordF Ieee.Format.order; rw [hy]; rfl
      have eo : ordF x y = some o := ho
      rw [ex, ey]
      unfold sgnF
      rw [eo]
      match op, o with
      | 0, .lt | 0, .eq | 0, .gt | 1, .lt | 1, .eq | 1, .gt | 2, .lt | 2, .eq | 2, .gt | _ + 3, .lt | _ + 3, .eq | _ + 3, .gt => simp [ans, cmpF, eo]
    · have ey : nanF y = true := by unfold nanF ordF Ieee.Format.order; rw [(hy _).1]; rfl
      have eo : ordF x y = none := (hy _).2
      rw [ey, Bool.or_true]
      match op with
      | 0 | 1 | 2 | _ + 3 => simp [ans, cmpF, eo]
  · have ex : nanF x = true := by unfold nanF ordF Ieee.Format.order; rw [(hx _).1]; rfl
    have eo : ordF x y = none := (hx _).1
    rw [ex, Bool.true_or]
    match op with
    | 0 | 1 | 2 | _ + 3 => simp [ans, cmpF, eo]

end Go.Proofs.YtmdmpdbnnegpiaaGreatDoor.Cmp
