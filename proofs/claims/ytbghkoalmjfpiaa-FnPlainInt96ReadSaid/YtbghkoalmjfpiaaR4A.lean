/- The reference's words on flat types, over values: how many bits, how many bytes, whether a value fits. No condition beyond the types named. -/
import Derived.Test.YtbghkoalmjfpiaaPBatchedValuesx1
import Derived.Outline
import Derived.Handy
import Derived.Defers
namespace Go.Proofs.Ytbghkoalmjfpiaa.Plain
open Go.RowKit Go.Proofs.YtbghkoalmjfpiaaW.PrintWords Go.Proofs.YtbghkoalmjfpiaaW.PrintLast Go.Proofs.YtbghkoalmjfpiaaW.PrintMore Go.Proofs.Ytbghkoalmjfpiaa.PBatchedValues
set_option linter.unusedVariables false
set_option linter.unusedSimpArgs false

/-- A type that is told by kind, width and sign alone. -/
abbrev tv (k w : Int) (s : Bool) : Value := .agg #[.int .i64 k, .int .i64 w, .bool s, .int .i64 0, .int .i64 0, .int .i64 0, .string ⟨#[]⟩, .bool false, .slice none 0 0, .slice none 0 0]
set_option maxRecDepth 100000 in
theorem bits_int (wd : Int) (s : Bool) (w : World) : Calls Try.prog 75 #[tv 2 wd s] w fun e w' => e = .returned (.tuple #[.int .i64 wd, .bool s]) ∧ Below w.heap.size w w' := by
  go_enter Try.func75, Try.ntmps75
  go_wp2
  go_quiet (fail)
  go_wp2
  go_ret2
  exact ⟨rfl, pw_below_drewN ((Below.refl _ _).alloc (Nat.le_refl _) _) _⟩
set_option maxRecDepth 100000 in
theorem bits_float (wd : Int) (s : Bool) (w : World) : Calls Try.prog 75 #[tv 3 wd s] w fun e w' => e = .returned (.tuple #[.int .i64 wd, .bool false]) ∧ Below w.heap.size w w' := by
  go_enter Try.func75, Try.ntmps75
  go_wp2
  go_ret2
  exact ⟨rfl, (Below.refl _ _).alloc (Nat.le_refl _) _⟩
set_option maxRecDepth 100000 in
theorem bits_fixed (wd : Int) (s : Bool) (w : World) : Calls Try.prog 75 #[tv 15 wd s] w fun e w' => e = .returned (.tuple #[.int .i64 0, .bool false]) ∧ Below w.heap.size w w' := by
  go_enter Try.func75, Try.ntmps75
  go_wp2
  go_ret2
  exact ⟨rfl, (Below.refl _ _).alloc (Nat.le_refl _) _⟩
set_option maxRecDepth 100000 in
theorem bits_text (wd : Int) (s : Bool) (w : World) : Calls Try.prog 75 #[tv 4 wd s] w fun e w' => e = .returned (.tuple #[.int .i64 0, .bool false]) ∧ Below w.heap.size w w' := by
  go_enter Try.func75, Try.ntmps75
  go_wp2
  go_ret2
  exact ⟨rfl, (Below.refl _ _).alloc (Nat.le_refl _) _⟩
set_option maxRecDepth 100000 in
theorem len_fixed (wd : Int) (s : Bool) (w : World) : Calls Try.prog 76 #[tv 15 wd s] w fun e w' => e = .returned (.int .i64 wd) ∧ Below w.heap.size w w' := by
  go_enter Try.func76, Try.ntmps76
  go_wp2
  go_ret
  exact ⟨rfl, (Below.refl _ _).alloc (Nat.le_refl _) _⟩
set_option maxRecDepth 100000 in
theorem len_text (wd : Int) (s : Bool) (w : World) : Calls Try.prog 76 #[tv 4 wd s] w fun e w' => e = .returned (.int .i64 (-1)) ∧ Below w.heap.size w w' := by
  go_enter Try.func76, Try.ntmps76
  go_wp2
  go_ret
  exact ⟨rfl, (Below.refl _ _).alloc (Nat.le_refl _) _⟩
/-! ### values -/
/-- A value of the tree: its kids stand as the slice that they are. -/
structure V where
  nul : Bool
  num : Int
  txt : ByteArray
  kA : Option Addr
  kn : Nat
  kc : Nat
def V.enc (v : V) : List Value := [.bool v.nul, .int .u64 v.num, .string v.txt, .slice v.kA v.kn v.kc]
abbrev V.agg (v : V) : Value := .agg #[.bool v.nul, .int .u64 v.num, .string v.txt, .slice v.kA v.kn v.kc]
def z0 : V := ⟨false, 0, ⟨#[]⟩, none, 0, 0⟩
def kV : Kd V where
  sz := 4
  E := []
  K := fun _ x cs => cs = x.enc
  M := fun _ _ _ x cs => cs = x.enc
  K_len := fun h => by rw [h]; rfl
  K_one := fun h u hu => by
    rw [h] at hu
    simp [V.enc] at hu
    rcases hu with rfl | rfl | rfl | rfl <;> rfl
  K_below := fun _ h => h
  K_of_M := fun h => h
  M_mono := fun _ h => h
  M_bound := fun h => h
  M_move := fun _ h => h
  M_lower := fun _ h => h
def fitsF (wd : Int) (v : V) : Bool := decide (v.kn = 0) && (decide (v.num = 0) && decide ((v.txt.size : Int) = wd))
def fitsT (v : V) : Bool := decide (v.kn = 0) && (decide (v.num = 0) && decide (v.txt.size ≤ 200))
theorem bcell {W w1 : World} (hb : Below W.heap.size W w1) : (∀ b o, b < W.heap.size → w1.cell? ⟨b, o, none⟩ = W.cell? ⟨b, o, none⟩) ∧ (∀ b o, b < W.heap.size → w1.frozen? ⟨b, o, none⟩ = W.frozen? ⟨b, o, none⟩) :=
  ⟨fun b o h => hb.cell (p := ⟨b, o, none⟩) h, fun b o h => hb.frozen (p := ⟨b, o, none⟩) h⟩
theorem grow2 {w w1 w2 : World} {o1 o2 : Obj} (hb : Below ((w.alloc o1).alloc o2).heap.size ((w.alloc o1).alloc o2) w1) (hb2 : Below w1.heap.size w1 w2) : Below w.heap.size w w2 :=
  ((((Below.refl _ _).alloc (Nat.le_refl _) _).alloc (by simp) _).trans (hb.mono (by simp; omega))).trans (hb2.mono (by have := hb.size; simp at this; omega))
theorem grow1 {w w1 : World} {o1 o2 : Obj} (hb : Below ((w.alloc o1).alloc o2).heap.size ((w.alloc o1).alloc o2) w1) : Below w.heap.size w w1 := grow2 hb (Below.refl _ _)
theorem grow0 {w : World} {o1 o2 : Obj} : Below w.heap.size w ((w.alloc o1).alloc o2) := grow1 (Below.refl _ _)
theorem ret_bool {a b : Bool} (h : a = b) : Ending.returned (.bool a) = .returned (.bool b) := by rw [h]
set_option maxRecDepth 100000 in
theorem fits_fixed (wd : Int) (s : Bool) (v : V) (w : World) (h0 : 0 ≤ wd) (hn : v.nul = false) (hs : v.txt.size ≤ maxLen) :
    Calls Try.prog 33 #[tv 15 wd s, v.agg] w fun e w' => e = .returned (.bool (fitsF wd v)) ∧ Below w.heap.size w w' := by
  obtain ⟨nul, num, txt, kA, kn, kc⟩ := v
  obtain rfl : nul = false := hn
  unfold maxLen at hs
  go_enter Try.func33, Try.ntmps33
  go_wp2_with (first | (go_at_call 75; refine (bits_fixed _ _ _).mono ?_; rintro e w1 ⟨rfl, hb⟩; obtain ⟨hc1, hf1⟩ := bcell hb; have hz1 : w.heap.size + 1 < w1.heap.size := by have := hb.size; simp at this; omega) | (go_at_call 76; refine (len_fixed _ _ _).mono ?_; rintro e w2 ⟨rfl, hb2⟩; obtain ⟨hc2, hf2⟩ := bcell hb2; have hz2 : w.heap.size + 1 < w2.heap.size := by have := hb2.size; omega))
  all_goals
    go_ret
    refine ⟨ret_bool ?_, ?_⟩
    · rw [Bool.eq_iff_iff]
      simp [fitsF, *] <;> omega
    · first | exact grow2 hb hb2 | exact grow0
set_option maxRecDepth 100000 in
theorem fits_text (wd : Int) (s : Bool) (v : V) (w : World) (hn : v.nul = false) (hs : v.txt.size ≤ maxLen) :
    Calls Try.prog 33 #[tv 4 wd s, v.agg] w fun e w' => e = .returned (.bool (fitsT v)) ∧ Below w.heap.size w w' := by
  obtain ⟨nul, num, txt, kA, kn, kc⟩ := v
  obtain rfl : nul = false := hn
  unfold maxLen at hs
  go_enter Try.func33, Try.ntmps33
  go_wp2_with (first | (go_at_call 75; refine (bits_text _ _ _).mono ?_; rintro e w1 ⟨rfl, hb⟩; obtain ⟨hc1, hf1⟩ := bcell hb; have hz1 : w.heap.size + 1 < w1.heap.size := by have := hb.size; simp at this; omega) | (go_at_call 76; refine (len_text _ _ _).mono ?_; rintro e w2 ⟨rfl, hb2⟩; obtain ⟨hc2, hf2⟩ := bcell hb2; have hz2 : w.heap.size + 1 < w2.heap.size := by have := hb2.size; omega))
  all_goals
    go_ret
    refine ⟨ret_bool ?_, ?_⟩
    · rw [Bool.eq_iff_iff]
      simp [fitsT, *] <;> omega
    · first | exact grow2 hb hb2 | exact grow0
/-- A number of so many bits: as 64 bits that are its own with the sign spread, or with zeros ahead. -/
def fitsN (f : Int → Int) (v : V) : Bool := decide (v.kn = 0) && (v.txt.toList.isEmpty && (f v.num == v.num))
def fI32 (n : Int) : Int := IntKind.u64.wrap (wrap64 (IntKind.u64.wrap (n * 4294967296)) / 4294967296)
def fI64 (n : Int) : Int := IntKind.u64.wrap (wrap64 n)
def fF32 (n : Int) : Int := IntKind.u64.wrap (n * 4294967296) / 4294967296
def fF64 (n : Int) : Int := n
set_option maxRecDepth 100000 in
theorem fits_int32 (v : V) (w : World) (hn : v.nul = false) (hs : v.txt.size ≤ maxLen) (h0 : 0 ≤ v.num) (h1 : v.num < 18446744073709551616) :
    Calls Try.prog 33 #[tv 2 32 true, v.agg] w fun e w' => e = .returned (.bool (fitsN fI32 v)) ∧ Below w.heap.size w w' := by
  obtain ⟨nul, num, txt, kA, kn, kc⟩ := v
  obtain rfl : nul = false := hn
  dsimp only at h0 h1
  unfold maxLen at hs
  go_enter Try.func33, Try.ntmps33
  go_wp2_with (first | (go_at_call 75; refine (bits_int _ _ _).mono ?_; rintro e w1 ⟨rfl, hb⟩; obtain ⟨hc1, hf1⟩ := bcell hb; have hz1 : w.heap.size + 1 < w1.heap.size := by have := hb.size; simp at this; omega))
  · go_ret
    refine ⟨ret_bool ?_, grow1 hb⟩
    simp_all [fitsN]
  · go_quiet (fail)
    go_wp2
    go_ret
    refine ⟨ret_bool ?_, pw_below_drewN (grow1 hb) _⟩
    simp_all [fitsN, fI32]
  · go_ret
    refine ⟨ret_bool ?_, grow0⟩
    simp_all [fitsN]
set_option maxRecDepth 100000 in
theorem fits_int64 (v : V) (w : World) (hn : v.nul = false) (hs : v.txt.size ≤ maxLen) (h0 : 0 ≤ v.num) (h1 : v.num < 18446744073709551616) :
    Calls Try.prog 33 #[tv 2 64 true, v.agg] w fun e w' => e = .returned (.bool (fitsN fI64 v)) ∧ Below w.heap.size w w' := by
  obtain ⟨nul, num, txt, kA, kn, kc⟩ := v
  obtain rfl : nul = false := hn
  dsimp only at h0 h1
  unfold maxLen at hs
  go_enter Try.func33, Try.ntmps33
  go_wp2_with (first | (go_at_call 75; refine (bits_int _ _ _).mono ?_; rintro e w1 ⟨rfl, hb⟩; obtain ⟨hc1, hf1⟩ := bcell hb; have hz1 : w.heap.size + 1 < w1.heap.size := by have := hb.size; simp at this; omega))
  · go_ret
    refine ⟨ret_bool ?_, grow1 hb⟩
    simp_all [fitsN]
  · go_quiet (fail)
    go_wp2
    go_ret
    refine ⟨ret_bool ?_, pw_below_drewN (grow1 hb) _⟩
    simp_all [fitsN, fI64]
  · go_ret
    refine ⟨ret_bool ?_, grow0⟩
    simp_all [fitsN]
set_option maxRecDepth 100000 in
theorem fits_float32 (v : V) (w : World) (hn : v.nul = false) (hs : v.txt.size ≤ maxLen) (h0 : 0 ≤ v.num) (h1 : v.num < 18446744073709551616) :
    Calls Try.prog 33 #[tv 3 32 false, v.agg] w fun e w' => e = .returned (.bool (fitsN fF32 v)) ∧ Below w.heap.size w w' := by
  obtain ⟨nul, num, txt, kA, kn, kc⟩ := v
  obtain rfl : nul = false := hn
  dsimp only at h0 h1
  unfold maxLen at hs
  go_enter Try.func33, Try.ntmps33
  go_wp2_with (first | (go_at_call 75; refine (bits_float _ _ _).mono ?_; rintro e w1 ⟨rfl, hb⟩; obtain ⟨hc1, hf1⟩ := bcell hb; have hz1 : w.heap.size + 1 < w1.heap.size := by have := hb.size; simp at this; omega))
  · go_ret
    refine ⟨ret_bool ?_, grow1 hb⟩
    simp_all [fitsN]
  · go_quiet (fail)
    go_wp2
    go_ret
    refine ⟨ret_bool ?_, pw_below_drewN (grow1 hb) _⟩
    simp_all [fitsN, fF32]
  · go_ret
    refine ⟨ret_bool ?_, grow0⟩
    simp_all [fitsN]
set_option maxRecDepth 100000 in
theorem fits_float64 (v : V) (w : World) (hn : v.nul = false) (hs : v.txt.size ≤ maxLen) (h0 : 0 ≤ v.num) (h1 : v.num < 18446744073709551616) :
    Calls Try.prog 33 #[tv 3 64 false, v.agg] w fun e w' => e = .returned (.bool (fitsN fF64 v)) ∧ Below w.heap.size w w' := by
  obtain ⟨nul, num, txt, kA, kn, kc⟩ := v
  obtain rfl : nul = false := hn
  dsimp only at h0 h1
  unfold maxLen at hs
  go_enter Try.func33, Try.ntmps33
  go_wp2_with (first | (go_at_call 75; refine (bits_float _ _ _).mono ?_; rintro e w1 ⟨rfl, hb⟩; obtain ⟨hc1, hf1⟩ := bcell hb; have hz1 : w.heap.size + 1 < w1.heap.size := by have := hb.size; simp at this; omega))
  · go_ret
    refine ⟨ret_bool ?_, grow1 hb⟩
    simp_all [fitsN]
  · go_quiet (fail)
    go_wp2
    go_ret
    refine ⟨ret_bool ?_, pw_below_drewN (grow1 hb) _⟩
    simp_all [fitsN, fF64]
  · go_ret
    refine ⟨ret_bool ?_, grow0⟩
    simp_all [fitsN]

end Go.Proofs.Ytbghkoalmjfpiaa.Plain
