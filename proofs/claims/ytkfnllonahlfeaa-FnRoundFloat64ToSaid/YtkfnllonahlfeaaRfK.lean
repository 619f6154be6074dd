/- The package's roundings by their modes. -/
import Derived.Test.YtkfnllonahlfeaaRfJ
namespace Go.Proofs.Ytkfnllonahlfeaa.Rf
open Go.RowKit Ieee
set_option linter.unusedVariables false
set_option linter.unusedSimpArgs false

def fnN (m : Nat) : Nat := if m = 0 then 21 else if m = 1 then 22 else if m = 2 then 24 else if m = 3 then 26 else if m = 4 then 28 else if m = 5 then 29 else if m = 6 then 30 else if m = 7 then 31 else if m = 8 then 32 else 34
set_option maxRecDepth 100000 in
theorem impl_fn (m : Nat) (hm : m ≤ 9) (w : World) : Calls Try.prog 15 #[.int .i8 m] w (fun e w' => e = .returned (.func (.func (fnN m)) #[] #[]) ∧ w = w') := by
  have h : m = 0 ∨ m = 1 ∨ m = 2 ∨ m = 3 ∨ m = 4 ∨ m = 5 ∨ m = 6 ∨ m = 7 ∨ m = 8 ∨ m = 9 := by omega
  clear hm
  rcases h with rfl | rfl | rfl | rfl | rfl | rfl | rfl | rfl | rfl | rfl
  all_goals
    simp only [fnN]
    go_enter Try.func15, Try.ntmps15
    go_wp2
    go_ret
    exact ⟨rfl, rfl⟩
set_option maxRecDepth 100000 in
theorem clo0 (q : Nat) (hq : Fin q) (w : World) : Calls Try.prog 21 #[.float .f64 q] w (fun e w' => e = .returned (.float .f64 (wh .down q)) ∧ w = w') := by
  have HF := Aside0.mk (fun W => floor_fn q hq W)
  clear hq
  go_enter Try.func21, Try.ntmps21
  go_wp2_with (go_at_call 12; refine (HF.out _).mono ?_; rintro e w' ⟨rfl, rfl⟩)
  go_ret
  exact ⟨rfl, rfl⟩
set_option maxRecDepth 100000 in
theorem clo1 (q : Nat) (hq : Fin q) (w : World) : Calls Try.prog 22 #[.float .f64 q] w (fun e w' => e = .returned (.float .f64 (wh .up q)) ∧ w = w') := by
  have HF := Aside0.mk (fun W => ceil_fn q hq W)
  clear hq
  go_enter Try.func22, Try.ntmps22
  go_wp2_with (go_at_call 23; refine (HF.out _).mono ?_; rintro e w' ⟨rfl, rfl⟩)
  go_ret
  exact ⟨rfl, rfl⟩
set_option maxRecDepth 100000 in
theorem clo2 (q : Nat) (hq : Fin q) (w : World) : Calls Try.prog 24 #[.float .f64 q] w (fun e w' => e = .returned (.float .f64 (wh .zero q)) ∧ w = w') := by
  have HF := Aside0.mk (fun W => trunc_fn q hq W)
  clear hq
  go_enter Try.func24, Try.ntmps24
  go_wp2_with (go_at_call 25; refine (HF.out _).mono ?_; rintro e w' ⟨rfl, rfl⟩)
  go_ret
  exact ⟨rfl, rfl⟩
set_option maxRecDepth 100000 in
theorem clo3 (q : Nat) (hq : Fin q) (w : World) : Calls Try.prog 26 #[.float .f64 q] w (fun e w' => e = .returned (.float .f64 (if sg q then wh .down q else wh .up q)) ∧ w = w') := by
  have HF := Aside0.mk (fun W => floor_fn q hq W)
  have HC := Aside0.mk (fun W => ceil_fn q hq W)
  have HS := Aside0.mk (fun W => signbit_fn q hq.1 W)
  clear hq
  cases hs : sg q
  all_goals
    rw [hs] at HS
    clear hs
    simp only [Bool.false_eq_true, if_false, if_true]
    go_enter Try.func26, Try.ntmps26
    go_wp2_with (first | (go_at_call 12; refine (HF.out _).mono ?_; rintro e w' ⟨rfl, rfl⟩) | (go_at_call 23; refine (HC.out _).mono ?_; rintro e w' ⟨rfl, rfl⟩) | (go_at_call 27; refine (HS.out _).mono ?_; rintro e w' ⟨rfl, rfl⟩))
    go_ret
    exact ⟨rfl, rfl⟩
set_option maxRecDepth 100000 in
theorem clo4 (q : Nat) (hq : Fin q) (w : World) : Calls Try.prog 28 #[.float .f64 q] w (fun e w' => e = .returned (.float .f64 (wh .down q)) ∧ w = w') := by
  have HF := Aside0.mk (fun W => floor_fn q hq W)
  clear hq
  go_enter Try.func28, Try.ntmps28
  go_wp2_with (go_at_call 12; refine (HF.out _).mono ?_; rintro e w' ⟨rfl, rfl⟩)
  go_ret
  exact ⟨rfl, rfl⟩
set_option maxRecDepth 100000 in
theorem clo5 (q : Nat) (hq : Fin q) (w : World) : Calls Try.prog 29 #[.float .f64 q] w (fun e w' => e = .returned (.float .f64 (wh .up q)) ∧ w = w') := by
  have HF := Aside0.mk (fun W => ceil_fn q hq W)
  clear hq
  go_enter Try.func29, Try.ntmps29
  go_wp2_with (go_at_call 23; refine (HF.out _).mono ?_; rintro e w' ⟨rfl, rfl⟩)
  go_ret
  exact ⟨rfl, rfl⟩
set_option maxRecDepth 100000 in
theorem clo6 (q : Nat) (hq : Fin q) (w : World) : Calls Try.prog 30 #[.float .f64 q] w (fun e w' => e = .returned (.float .f64 (wh .zero q)) ∧ w = w') := by
  have HF := Aside0.mk (fun W => trunc_fn q hq W)
  clear hq
  go_enter Try.func30, Try.ntmps30
  go_wp2_with (go_at_call 25; refine (HF.out _).mono ?_; rintro e w' ⟨rfl, rfl⟩)
  go_ret
  exact ⟨rfl, rfl⟩
set_option maxRecDepth 100000 in
theorem clo7 (q : Nat) (hq : Fin q) (w : World) : Calls Try.prog 31 #[.float .f64 q] w (fun e w' => e = .returned (.float .f64 (if sg q then wh .down q else wh .up q)) ∧ w = w') := by
  have HF := Aside0.mk (fun W => floor_fn q hq W)
  have HC := Aside0.mk (fun W => ceil_fn q hq W)
  have HS := Aside0.mk (fun W => signbit_fn q hq.1 W)
  clear hq
  cases hs : sg q
  all_goals
    rw [hs] at HS
    clear hs
    simp only [Bool.false_eq_true, if_false, if_true]
    go_enter Try.func31, Try.ntmps31
    go_wp2_with (first | (go_at_call 12; refine (HF.out _).mono ?_; rintro e w' ⟨rfl, rfl⟩) | (go_at_call 23; refine (HC.out _).mono ?_; rintro e w' ⟨rfl, rfl⟩) | (go_at_call 27; refine (HS.out _).mono ?_; rintro e w' ⟨rfl, rfl⟩))
    go_ret
    exact ⟨rfl, rfl⟩
set_option maxRecDepth 100000 in
theorem clo8 (q : Nat) (hq : Fin q) (w : World) : Calls Try.prog 32 #[.float .f64 q] w (fun e w' => e = .returned (.float .f64 (wh .even q)) ∧ w = w') := by
  have HE := to_even hq
  clear hq
  go_enter Try.func32, Try.ntmps32
  go_wp2
  go_ret
  exact ⟨rfl, rfl⟩
set_option maxRecDepth 100000 in
theorem clo9 (q h a : Nat) (hm : D.mul q 4602678819172646912 = some h) (hh : Fin h) (ha : D.add (wh .down h) (wh .up h) = some a) (w : World) : Calls Try.prog 34 #[.float .f64 q] w (fun e w' => e = .returned (.float .f64 a) ∧ w = w') := by
  have HM := fmul hm
  have HA := fadd ha
  have HF := Aside0.mk (fun W => floor_fn h hh W)
  have HC := Aside0.mk (fun W => ceil_fn h hh W)
  generalize wh .down h = x at HF HA
  generalize wh .up h = y at HC HA
  clear hm hh ha
  go_enter Try.func34, Try.ntmps34
  go_wp2_with (first | (go_at_call 12; refine (HF.out _).mono ?_; rintro e w' ⟨rfl, rfl⟩) | (go_at_call 23; refine (HC.out _).mono ?_; rintro e w' ⟨rfl, rfl⟩))
  go_ret
  exact ⟨rfl, rfl⟩
theorem sg_neg {q : Nat} (hr : Re q ≠ 0) : sg q = decide (U q < 0) := U_neg (fun h => hr (by unfold Re; rw [h]; exact Int.zero_emod _))
theorem closure (m q d : Nat) (hm : m ≤ 9) (hq : Fin q) (hr : Re q ≠ 0) (hd : Rest q d) (hc : m < 4 ∨ hf d = 0) (w : World) : Calls Try.prog (fnN m) #[.float .f64 q] w (Whole m q d w) := by
  have hs := sg_neg hr
  obtain ⟨f1, f2⟩ := floor_val hq
  obtain ⟨c1, c2⟩ := ceil_val hq hr
  obtain ⟨t1, t2⟩ := trunc_val hq hr
  have htie : hf d = 0 → 2 * Re q = ONE ∨ (Lo q = -1 ∧ U q < 0 ∧ -(ONE : Int) < 2 * U q ∧ 4 * U q < -(ONE : Int)) := by
    intro h
    unfold hf at h
    by_cases h1 : 2 * U d < ONE
    · rw [if_pos h1] at h; omega
    · rw [if_neg h1] at h
      by_cases h2 : (ONE : Int) < 2 * U d
      · rw [if_pos h2] at h; omega
      · exact hd.tie (by omega)
  have h : m = 0 ∨ m = 1 ∨ m = 2 ∨ m = 3 ∨ (hf d = 0 ∧ (m = 4 ∨ m = 5 ∨ m = 6 ∨ m = 7 ∨ m = 8 ∨ m = 9)) := by omega
  rcases h with rfl | rfl | rfl | rfl | ⟨h0, rfl | rfl | rfl | rfl | rfl | rfl⟩
  · refine (clo0 q hq w).mono ?_
    rintro e w' ⟨rfl, rfl⟩
    exact ⟨_, rfl, f1, by simp [upQ, upB, f2], rfl⟩
  · refine (clo1 q hq w).mono ?_
    rintro e w' ⟨rfl, rfl⟩
    exact ⟨_, rfl, c1, by simp [upQ, upB, c2], rfl⟩
  · refine (clo2 q hq w).mono ?_
    rintro e w' ⟨rfl, rfl⟩
    exact ⟨_, rfl, t1, by rw [t2]; by_cases h : U q < 0 <;> simp [upQ, upB, h], rfl⟩
  · refine (clo3 q hq w).mono ?_
    rintro e w' ⟨rfl, rfl⟩
    rw [hs]
    by_cases h : U q < 0
    · exact ⟨_, rfl, by simpa [h] using f1, by simp [upQ, upB, h, f2], rfl⟩
    · exact ⟨_, rfl, by simpa [h] using c1, by simp [upQ, upB, h, c2], rfl⟩
  · refine (clo4 q hq w).mono ?_
    rintro e w' ⟨rfl, rfl⟩
    exact ⟨_, rfl, f1, by simp [upQ, upB, h0, f2], rfl⟩
  · refine (clo5 q hq w).mono ?_
    rintro e w' ⟨rfl, rfl⟩
    exact ⟨_, rfl, c1, by simp [upQ, upB, h0, c2], rfl⟩
  · refine (clo6 q hq w).mono ?_
    rintro e w' ⟨rfl, rfl⟩
    exact ⟨_, rfl, t1, by rw [t2]; by_cases h : U q < 0 <;> simp [upQ, upB, h0, h], rfl⟩
  · refine (clo7 q hq w).mono ?_
    rintro e w' ⟨rfl, rfl⟩
    rw [hs]
    by_cases h : U q < 0
    · exact ⟨_, rfl, by simpa [h] using f1, by simp [upQ, upB, h0, h, f2], rfl⟩
    · exact ⟨_, rfl, by simpa [h] using c1, by simp [upQ, upB, h0, h, c2], rfl⟩
  · refine (clo8 q hq w).mono ?_
    rintro e w' ⟨rfl, rfl⟩
    rcases htie h0 with h | ⟨h1, h2, h3, h4⟩
    · obtain ⟨e1, e2⟩ := even_tie hq h
      exact ⟨_, rfl, e1, by rw [e2]; by_cases h : Lo q % 2 = 0 <;> simp [upQ, upB, h0, h], rfl⟩
    · obtain ⟨e1, e2⟩ := even_zone hq h2 h3
      exact ⟨_, rfl, e1, by rw [e2]; simp [upQ, upB, h0, h1], rfl⟩
  · obtain ⟨h, a, a1, a2, a3, a4, a5⟩ := odd_val hq hr (htie h0)
    refine (clo9 q h a a1 a2 a3 w).mono ?_
    rintro e w' ⟨rfl, rfl⟩
    exact ⟨_, rfl, a4, by rw [a5]; by_cases h : Lo q % 2 = 0 <;> simp [upQ, upB, h0, h], rfl⟩
theorem near (m q d : Nat) (h4 : 4 ≤ m) (hq : Fin q) (hr : Re q ≠ 0) (hd : Rest q d) (hh : hf d ≠ 0) (w : World) : Calls Try.prog 36 #[.float .f64 q] w (Whole m q d w) := by
  refine (round_fn q hq w).mono ?_
  rintro e w' ⟨rfl, rfl⟩
  obtain ⟨a, b, c⟩ := rd_near hq hr
  refine ⟨_, rfl, a, ?_, rfl⟩
  have hu : upQ m q d = decide (0 < hf d) := by
    unfold upQ upB
    rw [if_neg (by omega), if_neg (by omega), if_neg (by omega), if_neg (by omega), if_pos hh]
  rw [hu]
  unfold hf at hh ⊢
  by_cases h1 : 2 * U d < ONE
  · rw [if_pos h1, b (hd.less h1)]
    rfl
  · rw [if_neg h1] at hh ⊢
    by_cases h2 : (ONE : Int) < 2 * U d
    · rw [if_pos h2, c (hd.more h2)]
      rfl
    · rw [if_neg h2] at hh
      exact absurd rfl hh

end Go.Proofs.Ytkfnllonahlfeaa.Rf
