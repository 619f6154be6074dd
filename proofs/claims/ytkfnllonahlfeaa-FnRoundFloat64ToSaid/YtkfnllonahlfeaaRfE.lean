/- The small functions of math over doubles. -/
import Derived.Test.YtkfnllonahlfeaaProg
import Derived.Test.YtkfnllonahlfeaaRfE0
import Derived.Below
import Derived.Deep.Draws
import Derived.OwnWalk
import Derived.Tactics
import Derived.WalkKit
import Derived.KernelRfl
import Derived.RowKit3
import Derived.Deep.LoopGhost
import Derived.Deep.QuietTactic
import Derived.BigQuiet
import Derived.WideLaws
import Derived.Deep.DeepCutAuto
import Derived.Deep.CutBlock
import Derived.Deep.RegionHeld3
import Derived.Laws.Rows
import Derived.OrdersHeld
import Derived.Laws.BitsLemmas
import Derived.RowKit
import Derived.Outline
import Derived.Handy
import Derived.Defers
import Derived.Recover
import Derived.Laws.Panics
import Derived.Laws.Externs
import Derived.Laws.FloatArith
import Derived.StillTailTactics
namespace Go.Proofs.Ytkfnllonahlfeaa.Rf
open Go.RowKit Ieee
set_option linter.unusedVariables false
set_option linter.unusedSimpArgs false

def Stop (G : Prop) : Prop := G
theorem stopHere {G : Prop} (h : Stop G) : G := h
structure Aside0 (G : Prop) : Prop where
  out : G
abbrev F (x : Nat) : Value := .float .f64 x
theorem from64 (n : Int) (W : World) : (callFunc 6 #[.int .u64 n]).run Try.prog W = .ok (.value (.float .f64 n.toNat)) W := by
  rw [run_callFunc_extern (e := Extern.MathFloatBits.float64frombits) Try.func6 rfl rfl (by rfl) (by rfl)]
  rfl
theorem bits64 (n : Nat) (W : World) : (callFunc 5 #[.float .f64 n]).run Try.prog W = .ok (.value (.int .u64 (n : Int))) W := by
  rw [run_callFunc_extern (e := Extern.MathFloatBits.float64bits) Try.func5 rfl rfl (by rfl) (by rfl)]
  rfl
theorem toInt_fin (name : String) (way : Toward) {x : Nat} (hx : Fin x) (W : World) : (Extern.MathFloor.toIntegral name way #[.float .f64 x]).run Try.prog W = .ok (.float .f64 (wh way x)) W := by
  have e : FloatKind.f64.decode x = .number (sg x) (mp (rg x)) (-(K1 : Int) + (kp (rg x) : Nat)) := read_fin hx
  refine Eq.trans (congrArg (fun t : Sem Value => Sem.run Try.prog t W) (show Extern.MathFloor.toIntegral name way #[.float .f64 x] = Extern.MathFloor.toIntegral.match_1 (fun _ => Sem Value) (FloatKind.f64.decode x) _ _ from rfl)) ?_
  rw [e]
  unfold wh
  rw [read_fin hx]
  rfl
theorem arch_floor {x : Nat} (hx : Fin x) (W : World) : (callFunc 17 #[.float .f64 x]).run Try.prog W = .ok (.value (.float .f64 (wh .down x))) W := by
  rw [run_callFunc_extern (e := Extern.MathFloor.toIntegral "math.archFloor" .down) Try.func17 rfl rfl (by rfl) (by rfl), toInt_fin _ _ hx]
  rfl
theorem arch_ceil {x : Nat} (hx : Fin x) (W : World) : (callFunc 42 #[.float .f64 x]).run Try.prog W = .ok (.value (.float .f64 (wh .up x))) W := by
  rw [run_callFunc_extern (e := Extern.MathFloor.toIntegral "math.archCeil" .up) Try.func42 rfl rfl (by rfl) (by rfl), toInt_fin _ _ hx]
  rfl
theorem arch_trunc {x : Nat} (hx : Fin x) (W : World) : (callFunc 44 #[.float .f64 x]).run Try.prog W = .ok (.value (.float .f64 (wh .zero x))) W := by
  rw [run_callFunc_extern (e := Extern.MathFloor.toIntegral "math.archTrunc" .zero) Try.func44 rfl rfl (by rfl) (by rfl), toInt_fin _ _ hx]
  rfl
theorem to_even {x : Nat} (hx : Fin x) (W : World) : (callFunc 33 #[.float .f64 x]).run Try.prog W = .ok (.value (.float .f64 (wh .even x))) W := by
  rw [run_callFunc_extern (e := Extern.MathFloor.toIntegral "math.RoundToEven" .even) Try.func33 rfl rfl (by rfl) (by rfl), toInt_fin _ _ hx]
  rfl
theorem fsub {x y r : Nat} (h : D.sub x y = some r) (t : TypeId) (W : World) : (binOp .sub t (.float .f64 x) (.float .f64 y)).run Try.prog W = .ok (.float .f64 r) W := run_float_arith W .sub t .f64 x y r h
theorem fadd {x y r : Nat} (h : D.add x y = some r) (t : TypeId) (W : World) : (binOp .add t (.float .f64 x) (.float .f64 y)).run Try.prog W = .ok (.float .f64 r) W := run_float_arith W .add t .f64 x y r h
theorem fmul {x y r : Nat} (h : D.mul x y = some r) (t : TypeId) (W : World) : (binOp .mul t (.float .f64 x) (.float .f64 y)).run Try.prog W = .ok (.float .f64 r) W := run_float_arith W .mul t .f64 x y r h
theorem fdiv {x y r : Nat} (h : D.div x y = some r) (t : TypeId) (W : World) : (binOp .quo t (.float .f64 x) (.float .f64 y)).run Try.prog W = .ok (.float .f64 r) W := run_float_arith W .quo t .f64 x y r h
set_option maxRecDepth 100000 in
theorem floor_fn (x : Nat) (hx : Fin x) (w : World) : Calls Try.prog 12 #[.float .f64 x] w (fun e w' => e = .returned (.float .f64 (wh .down x)) ∧ w = w') := by
  have ha := arch_floor hx
  clear hx
  go_enter Try.func12, Try.ntmps12
  go_wp2
  go_ret
  exact ⟨rfl, rfl⟩
set_option maxRecDepth 100000 in
theorem ceil_fn (x : Nat) (hx : Fin x) (w : World) : Calls Try.prog 23 #[.float .f64 x] w (fun e w' => e = .returned (.float .f64 (wh .up x)) ∧ w = w') := by
  have ha := arch_ceil hx
  clear hx
  go_enter Try.func23, Try.ntmps23
  go_wp2
  go_ret
  exact ⟨rfl, rfl⟩
set_option maxRecDepth 100000 in
theorem trunc_fn (x : Nat) (hx : Fin x) (w : World) : Calls Try.prog 25 #[.float .f64 x] w (fun e w' => e = .returned (.float .f64 (wh .zero x)) ∧ w = w') := by
  have ha := arch_trunc hx
  clear hx
  go_enter Try.func25, Try.ntmps25
  go_wp2
  go_ret
  exact ⟨rfl, rfl⟩
set_option maxRecDepth 100000 in
theorem abs_fn (x : Nat) (hx : x < 2 * 9223372036854775808) (w : World) : Calls Try.prog 11 #[.float .f64 x] w (fun e w' => e = .returned (.float .f64 (rg x)) ∧ w = w') := by
  have hb := abs_bits x hx
  have h1 := bits64 x
  unfold rg
  obtain ⟨y, hy⟩ : ∃ y, x % 9223372036854775808 = y := ⟨_, rfl⟩
  rw [hy] at hb ⊢
  have h2 := from64 (y : Int)
  rw [Int.toNat_natCast] at h2
  clear hx hy
  go_enter Try.func11, Try.ntmps11
  go_wp2
  go_ret
  exact ⟨rfl, rfl⟩
/-- No NaN. -/
def Num (x : Nat) : Prop := x < 2 * 9223372036854775808 ∧ rg x ≤ 9218868437227405312
theorem Fin.num {x : Nat} (h : Fin x) : Num x := ⟨h.1, by have := h.2; omega⟩
theorem read_inf {x : Nat} (h : rg x = 9218868437227405312) : D.read x = .infinity (sg x) := by
  unfold Format.read
  simp only [D_binade, D_sw, D_inf]
  unfold rg at h
  unfold sg
  simp only [h]
  rfl
theorem fin_max : Fin 9218868437227405311 := ⟨by decide, by decide⟩
theorem U_le_max {x : Nat} (hx : Fin x) (hs : sg x = false) : ¬ U 9218868437227405311 < U x := by
  have h1 : U x = (um (rg x) : Int) := by unfold U; rw [hs]; rfl
  obtain ⟨K, hK⟩ : ∃ K, 2045 = K := ⟨_, rfl⟩
  have h2 : U 9218868437227405311 = ((2 * 4503599627370496 - 1) * 2 ^ K : Nat) := by subst hK; decide +kernel
  rw [h1, h2, um_mk]
  have h3 := mp_lt (rg x)
  rw [p53] at h3
  have h4 : 2 ^ kp (rg x) ≤ 2 ^ K := Nat.pow_le_pow_right (by omega) (by have := kp_le hx.2; omega)
  have h5 := Nat.mul_le_mul (show mp (rg x) ≤ 2 * 4503599627370496 - 1 by omega) h4
  omega
theorem rg_word {x : Nat} (h : x < 2 * 9223372036854775808) : rg x < 9223372036854775808 ∧ sg (rg x) = false ∧ rg (rg x) = rg x := by
  unfold rg sg
  refine ⟨by omega, by simp, by omega⟩
/-- Greater than the greatest double: an infinity. -/
theorem gt_max {x : Nat} (h : Num x) : (FloatKind.f64.format.order (rg x) 9218868437227405311 == some .gt) = decide (rg x = 9218868437227405312) := by
  show (D.order (rg x) 9218868437227405311 == some .gt) = _
  obtain ⟨a, b, c⟩ := rg_word h.1
  by_cases hi : rg x = 9218868437227405312
  · rw [decide_eq_true hi]
    unfold Format.order
    rw [read_inf (by rw [c]; exact hi), read_fin fin_max, b]
    rfl
  · have hf : Fin (rg x) := ⟨by omega, by rw [c]; have := h.2; omega⟩
    rw [gt_fin hf fin_max, decide_eq_false hi, decide_eq_false (U_le_max hf b)]
theorem rg_idem (x : Nat) : rg x % 9223372036854775808 = rg x := by unfold rg; omega
set_option maxRecDepth 100000 in
theorem isInf_fn (x : Nat) (hx : Num x) (w : World) : Calls Try.prog 7 #[.float .f64 x, .int .i64 0] w (fun e w' => e = .returned (.bool (decide (rg x = 9218868437227405312))) ∧ w = w') := by
  have hg := gt_max hx
  obtain ⟨b, hb⟩ : ∃ b, decide (rg x = 9218868437227405312) = b := ⟨_, rfl⟩
  rw [hb] at hg ⊢
  have ha := Aside0.mk (fun W => abs_fn x hx.1 W)
  clear hx hb
  go_enter Try.func7, Try.ntmps7
  go_wp2_with (go_at_call 11; refine (ha.out _).mono ?_; rintro e w' ⟨rfl, rfl⟩)
  go_ret
  exact ⟨rfl, rfl⟩
theorem neq_self {x : Nat} (h : Num x) : (FloatKind.f64.format.order x x != some .eq) = false := by
  show (D.order x x != some .eq) = false
  by_cases hi : rg x = 9218868437227405312
  · unfold Format.order
    rw [read_inf hi]
    cases sg x <;> rfl
  · have hf : Fin x := ⟨h.1, by have := h.2; omega⟩
    have h2 := eq_fin hf hf
    rw [decide_eq_true rfl] at h2
    unfold bne
    rw [h2]
    rfl
set_option maxRecDepth 100000 in
theorem isNaN_fn (x : Nat) (hx : Num x) (w : World) : Calls Try.prog 35 #[.float .f64 x] w (fun e w' => e = .returned (.bool false) ∧ w = w') := by
  have hg := neq_self hx
  clear hx
  go_enter Try.func35, Try.ntmps35
  go_wp2
  go_ret
  exact ⟨rfl, rfl⟩
set_option maxRecDepth 100000 in
theorem signbit_fn (x : Nat) (hx : x < 2 * 9223372036854775808) (w : World) : Calls Try.prog 27 #[.float .f64 x] w (fun e w' => e = .returned (.bool (sg x)) ∧ w = w') := by
  have h1 := bits64 x
  have h2 : decide (IntKind.i64.wrap (x : Int) < 0) = sg x := by
    rw [IntKind.wrap_i64]
    unfold sg
    by_cases hs : x / 9223372036854775808 % 2 = 1
    · rw [show (x / 9223372036854775808 % 2 == 1) = true by simpa using hs]
      exact decide_eq_true (by omega)
    · rw [show (x / 9223372036854775808 % 2 == 1) = false by simpa using hs]
      exact decide_eq_false (by omega)
  obtain ⟨b, hb⟩ : ∃ b, sg x = b := ⟨_, rfl⟩
  rw [hb] at h2 ⊢
  obtain ⟨y, hy⟩ : ∃ y, IntKind.i64.wrap (x : Int) = y := ⟨_, rfl⟩
  rw [hy] at h2
  clear hx hb
  go_enter Try.func27, Try.ntmps27
  go_wp2
  go_ret
  exact ⟨rfl, rfl⟩

end Go.Proofs.Ytkfnllonahlfeaa.Rf
