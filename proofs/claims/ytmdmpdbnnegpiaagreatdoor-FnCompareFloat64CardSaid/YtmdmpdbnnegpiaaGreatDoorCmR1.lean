/- The reference's values, and what fits a type. -/
import Derived.Test.YtmdmpdbnnegpiaaGreatDoorCmD
import Derived.Test.YtmdmpdbnnegpiaaGreatDoorCmP
namespace Go.Proofs.YtmdmpdbnnegpiaaGreatDoor.Cmp
open Go.RowKit Go.Proofs.YtmdmpdbnnegpiaaGreatDoorW.PrintWords Go.Proofs.YtmdmpdbnnegpiaaGreatDoorW.PrintLast Go.Proofs.YtmdmpdbnnegpiaaGreatDoorW.PrintMore
set_option linter.unusedVariables false
set_option linter.unusedSimpArgs false

/-- A type that is told by kind, width and sign alone. -/
abbrev tv (k w : Int) (s : Bool) : Value := .agg #[.int .i64 k, .int .i64 w, .bool s, .int .i64 0, .int .i64 0, .int .i64 0, .string ⟨#[]⟩, .bool false, .slice none 0 0, .slice none 0 0]
set_option maxRecDepth 100000 in
theorem bits_int (wd : Int) (s : Bool) (w : World) : Calls Tryz.prog 34 #[tv 2 wd s] w fun e w' => e = .returned (.tuple #[.int .i64 wd, .bool s]) ∧ Below w.heap.size w w' := by
  go_enter Tryz.func34, Tryz.ntmps34
  go_wp2
  go_quiet (fail)
  go_wp2
  go_ret2
  exact ⟨rfl, pw_below_drewN ((Below.refl _ _).alloc (Nat.le_refl _) _) _⟩
set_option maxRecDepth 100000 in
theorem bits_float (wd : Int) (s : Bool) (w : World) : Calls Tryz.prog 34 #[tv 3 wd s] w fun e w' => e = .returned (.tuple #[.int .i64 wd, .bool false]) ∧ Below w.heap.size w w' := by
  go_enter Tryz.func34, Tryz.ntmps34
  go_wp2
  go_ret2
  exact ⟨rfl, (Below.refl _ _).alloc (Nat.le_refl _) _⟩
/-- A number of so many bits: as 64 bits that are its own with the sign spread, or with zeros ahead. -/
def fitsN (f : Int → Int) (v : V) : Bool := decide (v.kn = 0) && (v.txt.toList.isEmpty && (f v.num == v.num))
def fU16 (n : Int) : Int := IntKind.u64.wrap (n * 281474976710656) / 281474976710656
def fF64 (n : Int) : Int := n
set_option maxRecDepth 100000 in
theorem fits_U (v : V) (w : World) (hn : v.nul = false) (hs : v.txt.size ≤ maxLen) (h0 : 0 ≤ v.num) (h1 : v.num < 18446744073709551616) :
    Calls Tryz.prog 20 #[tv 2 16 false, v.agg] w fun e w' => e = .returned (.bool (fitsN fU16 v)) ∧ Below w.heap.size w w' := by
  obtain ⟨nul, num, txt, kA, kn, kc⟩ := v
  obtain rfl : nul = false := hn
  dsimp only at h0 h1
  unfold maxLen at hs
  go_enter Tryz.func20, Tryz.ntmps20
  go_wp2_with (first | (go_at_call 34; refine (bits_int _ _ _).mono ?_; rintro e w1 ⟨rfl, hb⟩; obtain ⟨hc1, hf1⟩ := bcell hb; have hz1 : w.heap.size + 1 < w1.heap.size := by have := hb.size; simp at this; omega))
  · go_ret
    refine ⟨ret_bool ?_, grow1 hb⟩
    simp_all [fitsN]
  · go_quiet (fail)
    go_wp2
    go_ret
    refine ⟨ret_bool ?_, pw_below_drewN (grow1 hb) _⟩
    simp_all [fitsN, fU16]
  · go_ret
    refine ⟨ret_bool ?_, grow0⟩
    simp_all [fitsN]
set_option maxRecDepth 100000 in
theorem fits_F (v : V) (w : World) (hn : v.nul = false) (hs : v.txt.size ≤ maxLen) (h0 : 0 ≤ v.num) (h1 : v.num < 18446744073709551616) :
    Calls Tryz.prog 20 #[tv 3 64 false, v.agg] w fun e w' => e = .returned (.bool (fitsN fF64 v)) ∧ Below w.heap.size w w' := by
  obtain ⟨nul, num, txt, kA, kn, kc⟩ := v
  obtain rfl : nul = false := hn
  dsimp only at h0 h1
  unfold maxLen at hs
  go_enter Tryz.func20, Tryz.ntmps20
  go_wp2_with (first | (go_at_call 34; refine (bits_float _ _ _).mono ?_; rintro e w1 ⟨rfl, hb⟩; obtain ⟨hc1, hf1⟩ := bcell hb; have hz1 : w.heap.size + 1 < w1.heap.size := by have := hb.size; simp at this; omega))
  · go_ret
    refine ⟨ret_bool ?_, grow1 hb⟩
    simp_all [fitsN]
  · go_quiet (fail)
    go_wp2
    go_ret
    refine ⟨ret_bool ?_, pw_below_drewN (grow1 hb) _⟩
    simp_all [fitsN, fF64]
  · go_ret
    refine ⟨ret_bool ?_, grow0⟩
    simp_all [fitsN]

end Go.Proofs.YtmdmpdbnnegpiaaGreatDoor.Cmp
