/- The reference's rounding. -/
import Derived.Test.YtkfnllonahlfeaaRfI
import Derived.Test.YtkfnllonahlfeaaRfG
namespace Go.Proofs.Ytkfnllonahlfeaa.Rf
open Go.RowKit Ieee
set_option linter.unusedVariables false
set_option linter.unusedSimpArgs false

def upB (m : Nat) (half : Int) (even neg : Bool) : Bool :=
  if m = 0 then false else if m = 1 then true else if m = 2 then neg else if m = 3 then !neg
  else if half ≠ 0 then decide (0 < half)
  else if m = 4 then false else if m = 5 then true else if m = 6 then neg else if m = 7 then !neg else if m = 8 then !even else even
set_option maxRecDepth 100000 in
theorem upper_fn (m : Nat) (hm : m ≤ 9) (half : Int) (hh : half = -1 ∨ half = 0 ∨ half = 1) (even neg : Bool) (w : World) : Calls Try.prog 13 #[.int .i64 m, .int .i64 half, .bool even, .bool neg] w (fun e w' => e = .returned (.bool (upB m half even neg)) ∧ w = w') := by
  have h : m = 0 ∨ m = 1 ∨ m = 2 ∨ m = 3 ∨ m = 4 ∨ m = 5 ∨ m = 6 ∨ m = 7 ∨ m = 8 ∨ m = 9 := by omega
  clear hm
  rcases h with rfl | rfl | rfl | rfl | rfl | rfl | rfl | rfl | rfl | rfl
  all_goals
    rcases hh with rfl | rfl | rfl
    all_goals
      simp only [upB]
      go_enter Try.func13, Try.ntmps13
      go_wp2
      go_ret
      exact ⟨rfl, rfl⟩
/-- How the rest stands to a half. -/
def hf (d : Nat) : Int := if 2 * U d < ONE then -1 else if (ONE : Int) < 2 * U d then 1 else 0
def upQ (m q d : Nat) : Bool := upB m (hf d) (decide (Lo q % 2 = 0)) (decide (U q < 0))
theorem low_eq {q : Nat} (hq : Fin q) : (FloatKind.f64.format.order (wh .down q) q == some .eq) = decide (Re q = 0) := by
  show (D.order (wh .down q) q == some .eq) = _
  obtain ⟨a, b⟩ := floor_val hq
  rw [eq_fin a hq, b]
  have := U_split q
  have e : (Lo q * (ONE : Int) = U q) ↔ Re q = 0 := by omega
  simp only [e]
theorem half_tests {d : Nat} (h : Fin d) : (FloatKind.f64.format.order d 4602678819172646912 == some .lt) = decide (2 * U d < ONE) ∧ (FloatKind.f64.format.order d 4602678819172646912 == some .gt) = decide ((ONE : Int) < 2 * U d) ∧ (FloatKind.f64.format.order d 4602678819172646912 == some .eq) = decide (2 * U d = ONE) := by
  have h2 := fin_half.2.1
  refine ⟨?_, ?_, ?_⟩
  · show (D.order d 4602678819172646912 == some .lt) = _
    rw [lt_fin h fin_half.1]
    have e : (U d < U 4602678819172646912) ↔ 2 * U d < ONE := by omega
    simp only [e]
  · show (D.order d 4602678819172646912 == some .gt) = _
    rw [gt_fin h fin_half.1]
    have e : (U 4602678819172646912 < U d) ↔ (ONE : Int) < 2 * U d := by omega
    simp only [e]
  · show (D.order d 4602678819172646912 == some .eq) = _
    rw [eq_fin h fin_half.1]
    have e : (U d = U 4602678819172646912) ↔ 2 * U d = ONE := by omega
    simp only [e]
theorem neg_test {q : Nat} (h : Fin q) : (FloatKind.f64.format.order q 0 == some .lt) = decide (U q < 0) := by
  show (D.order q 0 == some .lt) = _
  rw [lt_fin h fin_zero.1, fin_zero.2]
set_option maxRecDepth 100000 in
theorem round_same (q : Nat) (hq : Fin q) (m : Nat) (hr : Re q = 0) (w : World) : Calls Try.prog 8 #[.float .f64 q, .int .i64 m] w (fun e w' => e = .returned (.float .f64 q) ∧ w = w') := by
  have h1 := low_eq hq
  rw [decide_eq_true hr] at h1
  have HF := Aside0.mk (fun W => floor_fn q hq W)
  clear hq hr
  go_enter Try.func8, Try.ntmps8
  go_wp2_with (go_at_call 12; refine (HF.out _).mono ?_; rintro e w' ⟨rfl, rfl⟩)
  go_ret
  exact ⟨rfl, rfl⟩
def Whole (m q d : Nat) (w : World) (e : Ending) (w' : World) : Prop := ∃ x, e = .returned (.float .f64 x) ∧ Fin x ∧ U x = (if upQ m q d then Lo q + 1 else Lo q) * ONE ∧ w = w'
set_option maxRecDepth 100000 in
theorem round_spec (q d : Nat) (hq : Fin q) (m : Nat) (hm : m ≤ 9) (hr : Re q ≠ 0) (hd : Rest q d) (w : World) : Calls Try.prog 8 #[.float .f64 q, .int .i64 m] w (Whole m q d w) := by
  have h1 := low_eq hq
  rw [decide_eq_false hr] at h1
  have HF := Aside0.mk (fun W => floor_fn q hq W)
  obtain ⟨fl1, fl2⟩ := floor_val hq
  have hl := lo_small hq hr
  have HM := Aside0.mk (fun W => mod_fn (wh .down q) fl1 (Lo q) fl2 (by omega) (by omega) W)
  have hsub := fsub hd.eq
  obtain ⟨t1, t2, _⟩ := half_tests hd.fin
  have hneg := neg_test hq
  obtain ⟨lw, lw1, lw2, lw3⟩ := low_one hq hr
  have hadd := fadd lw1
  have HL := Aside0.mk (And.intro (And.intro fl1 fl2) (And.intro lw2 lw3))
  obtain ⟨even, hev⟩ : ∃ b, decide (Lo q % 2 = 0) = b := ⟨_, rfl⟩
  obtain ⟨neg, hng⟩ : ∃ b, decide (U q < 0) = b := ⟨_, rfl⟩
  have HU : Aside0 (∀ up : Bool, upQ m q d = up → ∀ x, (x = if up then lw else wh .down q) → Fin x ∧ U x = (if upQ m q d then Lo q + 1 else Lo q) * ONE) := ⟨fun up hup x hx => by
    rw [hup, hx]
    cases up
    · exact ⟨HL.out.1.1, by simpa using HL.out.1.2⟩
    · exact ⟨HL.out.2.1, by simpa using HL.out.2.2⟩⟩
  have HX : Aside0 (upQ m q d = upB m (hf d) even neg) := ⟨by unfold upQ; rw [hev, hng]⟩
  rw [hng] at hneg
  have HEV := Aside0.mk hev
  generalize wh .down q = low at h1 HF HM hsub hadd HU
  clear fl1 fl2 hl lw1 lw2 lw3 hq hr HL hev hng
  by_cases c1 : 2 * U d < ONE
  · have hh : hf d = -1 := by unfold hf; rw [if_pos c1]
    rw [decide_eq_true c1] at t1
    rw [hh] at HX
    have HP := Aside0.mk (fun W => upper_fn m hm (-1) (by omega) even neg W)
    clear t2 c1 hh hd
    cases hup : upB m (-1) even neg
    all_goals
      rw [hup] at HP HX
      have HX2 := Aside0.mk (HU.out _ HX.out)
      clear hup
      go_enter Try.func8, Try.ntmps8
      go_wp2_with (first
        | (go_at_call 12; refine (HF.out _).mono ?_; rintro e w' ⟨rfl, rfl⟩)
        | (go_at_call 14; refine (HM.out _).mono ?_; rintro e w' ⟨a, rfl, ha, rfl⟩; rw [HEV.out] at ha)
        | (go_at_call 13; refine (HP.out _).mono ?_; rintro e w' ⟨rfl, rfl⟩))
      go_ret
      exact ⟨_, rfl, (HX2.out _ rfl).1, (HX2.out _ rfl).2, rfl⟩
  · rw [decide_eq_false c1] at t1
    by_cases c2 : (ONE : Int) < 2 * U d
    · have hh : hf d = 1 := by unfold hf; rw [if_neg c1, if_pos c2]
      rw [decide_eq_true c2] at t2
      rw [hh] at HX
      have HP := Aside0.mk (fun W => upper_fn m hm 1 (by omega) even neg W)
      clear c1 c2 hh hd
      cases hup : upB m 1 even neg
      all_goals
        rw [hup] at HP HX
        have HX2 := Aside0.mk (HU.out _ HX.out)
        clear hup
        go_enter Try.func8, Try.ntmps8
        go_wp2_with (first
          | (go_at_call 12; refine (HF.out _).mono ?_; rintro e w' ⟨rfl, rfl⟩)
          | (go_at_call 14; refine (HM.out _).mono ?_; rintro e w' ⟨a, rfl, ha, rfl⟩; rw [HEV.out] at ha)
          | (go_at_call 13; refine (HP.out _).mono ?_; rintro e w' ⟨rfl, rfl⟩))
        go_ret
        exact ⟨_, rfl, (HX2.out _ rfl).1, (HX2.out _ rfl).2, rfl⟩
    · have hh : hf d = 0 := by unfold hf; rw [if_neg c1, if_neg c2]
      rw [decide_eq_false c2] at t2
      rw [hh] at HX
      have HP := Aside0.mk (fun W => upper_fn m hm 0 (by omega) even neg W)
      clear c1 c2 hh hd
      cases hup : upB m 0 even neg
      all_goals
        rw [hup] at HP HX
        have HX2 := Aside0.mk (HU.out _ HX.out)
        clear hup
        go_enter Try.func8, Try.ntmps8
        go_wp2_with (first
          | (go_at_call 12; refine (HF.out _).mono ?_; rintro e w' ⟨rfl, rfl⟩)
          | (go_at_call 14; refine (HM.out _).mono ?_; rintro e w' ⟨a, rfl, ha, rfl⟩; rw [HEV.out] at ha)
          | (go_at_call 13; refine (HP.out _).mono ?_; rintro e w' ⟨rfl, rfl⟩))
        go_ret
        exact ⟨_, rfl, (HX2.out _ rfl).1, (HX2.out _ rfl).2, rfl⟩

end Go.Proofs.Ytkfnllonahlfeaa.Rf
