/- Rounding to the nearest by bits; halves to odd; one more. -/
import Derived.Test.YtkfnllonahlfeaaRfC
namespace Go.Proofs.Ytkfnllonahlfeaa.Rf
open Ieee
set_option linter.unusedVariables false
set_option linter.unusedSimpArgs false

def ex (x : Nat) : Nat := rg x / 4503599627370496
/-- What math.Round makes of the bits. -/
def rdW (x : Nat) : Nat :=
  if ex x < 1023 then (if sg x then 9223372036854775808 else 0) + (if ex x = 1022 then 1023 * 4503599627370496 else 0)
  else if ex x < 1075 then (x + 2 ^ (1075 - ex x - 1)) / 2 ^ (1075 - ex x) * 2 ^ (1075 - ex x)
  else x
def nr (u : Nat) : Nat := (2 * u + ONE) / (2 * ONE)
theorem x_split {x : Nat} (h : x < 2 * 9223372036854775808) : x = (if sg x then 9223372036854775808 else 0) + rg x := by
  unfold sg rg
  by_cases hs : x / 9223372036854775808 % 2 = 1
  · simp [hs]; omega
  · simp [hs]; omega
theorem um_lo {r : Nat} (h : r < 1022 * 4503599627370496) : 2 * um r < ONE := by
  have hO := one_k2
  have hp := Nat.two_pow_pos K2
  unfold um
  split
  · rename_i hs
    have h2 := Nat.mul_le_mul_left (2 * 4503599627370496) hp
    rw [hO]; omega
  · rename_i hs
    have hk : r / 4503599627370496 - 1 ≤ 1020 := by omega
    have h1 : 2 ^ (r / 4503599627370496 - 1) * 2 ≤ 2 ^ K2 := by
      rw [← Nat.pow_succ]
      exact Nat.pow_le_pow_right (by omega) (by have := K2_eq; omega)
    have h2 : (4503599627370496 + r % 4503599627370496) < 2 * 4503599627370496 := by omega
    have h3 := Nat.mul_lt_mul_of_pos_right h2 (Nat.two_pow_pos (r / 4503599627370496 - 1))
    have h4 := Nat.mul_le_mul_left (2 * 4503599627370496) h1
    rw [hO]
    have e : 2 * 4503599627370496 * (2 ^ (r / 4503599627370496 - 1) * 2) = 2 * (2 * 4503599627370496 * 2 ^ (r / 4503599627370496 - 1)) := by
      rw [← Nat.mul_assoc]; omega
    omega
theorem um_mid {r : Nat} (h1 : 1022 * 4503599627370496 ≤ r) (h2 : r < 1023 * 4503599627370496) : ONE ≤ 2 * um r ∧ um r < ONE := by
  have hO := one_k2
  have hp := Nat.two_pow_pos K2
  obtain ⟨c, hc⟩ : ∃ c, r = K2 * 4503599627370496 + c := ⟨r - K2 * 4503599627370496, by have := K2_eq; omega⟩
  have hK := K2_eq
  rw [hc, um_kept K2 c (by omega) (by omega), hO]
  have h3 := Nat.mul_le_mul_right (2 ^ K2) (show 4503599627370496 ≤ c by omega)
  have h4 := Nat.mul_lt_mul_of_pos_right (show c < 2 * 4503599627370496 by omega) hp
  have e : 2 * (c * 2 ^ K2) = 2 * c * 2 ^ K2 := by rw [Nat.mul_assoc]
  omega
theorem rd_val {x : Nat} (hx : Fin x) : Fin (rdW x) ∧ U (rdW x) = if sg x then -((nr (um (rg x)) * ONE : Nat) : Int) else ((nr (um (rg x)) * ONE : Nat) : Int) := by
  have key : ∃ r, rdW x = D.word (sg x) r ∧ r < 9218868437227405312 ∧ um r = nr (um (rg x)) * ONE := by
    have hO := ONE_pos
    unfold rdW
    have hw : ∀ r, D.word (sg x) r = (if sg x then 9223372036854775808 else 0) + r := by
      intro r
      unfold Format.word
      rw [D_sw]
      cases sg x <;> simp
    by_cases h1 : ex x < 1023
    · rw [if_pos h1]
      by_cases h2 : ex x = 1022
      · rw [if_pos h2]
        obtain ⟨a, b⟩ := um_mid (r := rg x) (by unfold ex at h2; omega) (by unfold ex at h2; omega)
        refine ⟨1023 * 4503599627370496, (hw _).symm, by omega, ?_⟩
        have e1 : nr (um (rg x)) = 1 := by
          unfold nr
          exact (Nat.div_eq_iff (by omega)).2 ⟨by omega, by omega⟩
        rw [e1, Nat.one_mul, show 1023 * 4503599627370496 = 1021 * 4503599627370496 + 2 * 4503599627370496 by omega, um_kept 1021 _ (by omega) (by omega), one_k2, K2_eq]
      · rw [if_neg h2]
        have a := um_lo (r := rg x) (by unfold ex at h1 h2; omega)
        refine ⟨0, (hw _).symm, by omega, ?_⟩
        have e1 : nr (um (rg x)) = 0 := by
          unfold nr
          exact Nat.div_eq_of_lt (by omega)
        rw [e1]; simp [um]
    · rw [if_neg h1]
      by_cases h2 : ex x < 1075
      · rw [if_pos h2]
        obtain ⟨j, hj⟩ : ∃ j, 1075 - ex x = j + 1 := ⟨1075 - ex x - 1, by omega⟩
        obtain ⟨k, hk⟩ : ∃ k, ex x = k + 1 := ⟨ex x - 1, by omega⟩
        rw [hj, Nat.add_sub_cancel]
        obtain ⟨h, hh⟩ : ∃ h, 2 ^ j = h := ⟨_, rfl⟩
        obtain ⟨g, hg⟩ : ∃ g, 2 ^ (j + 1) = g := ⟨_, rfl⟩
        have hgh : g = 2 * h := by rw [← hg, ← hh, Nat.pow_succ]; omega
        have hg0 : 0 < g := by rw [← hg]; exact Nat.two_pow_pos _
        obtain ⟨c, hc⟩ : ∃ c, 4503599627370496 = c * g := ⟨2 ^ (51 - j), by rw [← hg, ← Nat.pow_add, show 51 - j + (j + 1) = 52 by omega, p52]⟩
        rw [hg, hh]
        obtain ⟨M, hM⟩ : ∃ M, rg x = k * 4503599627370496 + M := ⟨rg x - k * 4503599627370496, by unfold ex at hk; omega⟩
        have hM1 : 4503599627370496 ≤ M ∧ M < 2 * 4503599627370496 := by unfold ex at hk; omega
        have hu : um (rg x) = M * 2 ^ k := by rw [hM]; exact um_kept k M hM1.1 (by omega)
        have hone : ONE = g * 2 ^ k := by
          unfold ONE
          rw [← hg, ← Nat.pow_add]
          exact congrArg (fun n : Nat => 2 ^ n) (by have := K1_eq; omega)
        have hnr : nr (um (rg x)) = (M + h) / g := by
          unfold nr
          rw [hu, hone, show 2 * (M * 2 ^ k) + g * 2 ^ k = (2 * M + g) * 2 ^ k by rw [Nat.add_mul, Nat.mul_assoc], ← Nat.mul_assoc, Nat.mul_div_mul_right _ _ (Nat.two_pow_pos k), hgh, show 2 * M + 2 * h = 2 * (M + h) by omega, Nat.mul_div_mul_left _ _ (by omega)]
        obtain ⟨N, hN⟩ : ∃ N, (M + h) / g = N := ⟨_, rfl⟩
        rw [hnr, hN, hone]
        have hdm := Nat.div_add_mod (M + h) g
        have hml := Nat.mod_lt (M + h) hg0
        rw [hN] at hdm
        have hcomm : N * g = g * N := Nat.mul_comm _ _
        have hlo : 4503599627370496 ≤ N * g := by
          have h3 : c ≤ N := by
            rw [← hN]
            exact (Nat.le_div_iff_mul_le hg0).2 (by rw [← hc]; omega)
          rw [hc]
          exact Nat.mul_le_mul_right g h3
        have hhi : N * g ≤ 2 * 4503599627370496 := by
          have h3 : N < 2 * c + 1 := by
            rw [← hN]
            refine (Nat.div_lt_iff_lt_mul hg0).2 ?_
            rw [Nat.add_mul, Nat.mul_assoc, ← hc]
            omega
          have h4 := Nat.mul_le_mul_right g (show N ≤ 2 * c by omega)
          rw [Nat.mul_assoc, ← hc] at h4
          exact h4
        have hxs : (x + h) / g * g = (if sg x then 9223372036854775808 else 0) + (k * 4503599627370496 + N * g) := by
          have hx0 := x_split hx.1
          obtain ⟨s, hs⟩ : ∃ s, (if sg x then 9223372036854775808 else 0) + k * 4503599627370496 = s * g := by
            cases hsx : sg x
            · exact ⟨k * c, by simp; rw [hc, Nat.mul_assoc]⟩
            · exact ⟨2048 * c + k * c, by simp; rw [Nat.add_mul, Nat.mul_assoc, Nat.mul_assoc, ← hc]⟩
          have e1 : x + h = (M + h) + s * g := by omega
          rw [e1, Nat.add_mul_div_right _ _ hg0, hN, Nat.add_mul]
          omega
        refine ⟨k * 4503599627370496 + N * g, by rw [hxs, hw], by omega, ?_⟩
        rw [um_kept k (N * g) hlo hhi, Nat.mul_assoc]
      · rw [if_neg h2]
        refine ⟨rg x, (word_eta hx.1).symm, hx.2, ?_⟩
        have e0 : ∃ a, um (rg x) = a * ONE := by
          unfold um
          rw [if_neg (by unfold ex at h2; omega)]
          refine ⟨(4503599627370496 + rg x % 4503599627370496) * 2 ^ (rg x / 4503599627370496 - 1 - K1), ?_⟩
          unfold ONE
          rw [Nat.mul_assoc, ← Nat.pow_add, Nat.sub_add_cancel (by unfold ex at h2; have := K1_eq; omega)]
        obtain ⟨a, ha⟩ := e0
        have e1 : nr (um (rg x)) = a := by
          unfold nr
          rw [ha]
          refine (Nat.div_eq_iff (by omega)).2 ⟨?_, ?_⟩
          · have : a * (2 * ONE) = 2 * (a * ONE) := by rw [← Nat.mul_assoc, Nat.mul_comm a 2, Nat.mul_assoc]
            omega
          · have : a * (2 * ONE) = 2 * (a * ONE) := by rw [← Nat.mul_assoc, Nat.mul_comm a 2, Nat.mul_assoc]
            omega
        rw [e1, ha]
  obtain ⟨r, h1, h2, h3⟩ := key
  obtain ⟨h4, h5⟩ := word_fin (sg x) r h2
  rw [h1]
  exact ⟨h4, by rw [h5, h3]⟩
theorem nr_of (u a b : Nat) (h : u = a * ONE + b) (hb : b < ONE) : (2 * b < ONE → nr u = a) ∧ (ONE < 2 * b → nr u = a + 1) := by
  have hO := ONE_pos
  unfold nr
  have e1 : a * (2 * ONE) = 2 * (a * ONE) := by rw [← Nat.mul_assoc, Nat.mul_comm a 2, Nat.mul_assoc]
  refine ⟨fun h1 => (Nat.div_eq_iff (by omega)).2 ⟨by omega, ?_⟩, fun h1 => (Nat.div_eq_iff (by omega)).2 ⟨?_, ?_⟩⟩
  · omega
  · rw [Nat.add_mul]; omega
  · rw [Nat.add_mul]; omega
theorem rd_near {q : Nat} (hq : Fin q) (hr : Re q ≠ 0) : Fin (rdW q) ∧ (2 * Re q < ONE → U (rdW q) = Lo q * ONE) ∧ ((ONE : Int) < 2 * Re q → U (rdW q) = (Lo q + 1) * ONE) := by
  obtain ⟨h1, h2⟩ := rd_val hq
  refine ⟨h1, ?_⟩
  rw [h2]
  have hm := um_rest hr
  obtain ⟨a, ha⟩ : ∃ a, um (rg q) / ONE = a := ⟨_, rfl⟩
  obtain ⟨b, hb⟩ : ∃ b, um (rg q) % ONE = b := ⟨_, rfl⟩
  have hs := nat_split (um (rg q))
  have hl := Nat.mod_lt (um (rg q)) ONE_pos
  rw [ha, hb] at hs
  rw [hb] at hl hm
  obtain ⟨n1, n2⟩ := nr_of (um (rg q)) a b hs hl
  cases hsg : sg q
  · obtain ⟨c, d⟩ := parts_pos hsg
    rw [ha] at c
    rw [hb] at d
    rw [c, d]
    refine ⟨fun h => ?_, fun h => ?_⟩
    · rw [n1 (by omega)]; simp
    · rw [n2 (by omega)]; simp
  · obtain ⟨c, d⟩ := parts_neg hsg (by rw [hb]; exact hm)
    rw [ha] at c
    rw [hb] at d
    rw [c, d]
    refine ⟨fun h => ?_, fun h => ?_⟩
    · rw [n2 (by omega)]
      simp only [if_true]
      push_cast
      rw [Int.sub_mul, Int.neg_mul, Int.add_mul, Int.one_mul]
      omega
    · rw [n1 (by omega)]
      simp only [if_true]
      push_cast
      rw [Int.add_mul, Int.sub_mul, Int.neg_mul, Int.one_mul]
      omega
/-! ### one more, halves to odd -/
abbrev W1 : Nat := 4607182418800017408
abbrev WH : Nat := 4602678819172646912
theorem fin_one : Fin 4607182418800017408 ∧ U 4607182418800017408 = ONE := ⟨⟨by decide +kernel, by decide +kernel⟩, by decide +kernel⟩
theorem fin_half : Fin 4602678819172646912 ∧ 2 * U 4602678819172646912 = ONE ∧ mp (rg 4602678819172646912) = 4503599627370496 ∧ kp (rg 4602678819172646912) = 1021 ∧ sg 4602678819172646912 = false := ⟨⟨by decide +kernel, by decide +kernel⟩, by decide +kernel, by decide +kernel, by decide +kernel, by decide +kernel⟩
theorem fin_zero : Fin 0 ∧ U 0 = 0 := ⟨⟨by decide +kernel, by decide +kernel⟩, by decide +kernel⟩
theorem whole_exact (L : Int) (h : L.natAbs < 2 ^ 53) (v : Int) (hv : v = L * ONE) : ∃ M k : Nat, v.natAbs = M * 2 ^ k ∧ M < 2 ^ 53 ∧ k ≤ 2045 := by
  refine ⟨L.natAbs, K1, ?_, h, by decide⟩
  rw [hv, Int.natAbs_mul, Int.natAbs_natCast]
  rfl
theorem low_one {q : Nat} (hq : Fin q) (hr : Re q ≠ 0) : ∃ w, D.add (wh .down q) 4607182418800017408 = some w ∧ Fin w ∧ U w = (Lo q + 1) * ONE := by
  obtain ⟨hf, hU⟩ := floor_val hq
  have hl := lo_small hq hr
  have e : U (wh .down q) + U 4607182418800017408 = (Lo q + 1) * ONE := by rw [hU, fin_one.2, Int.add_mul, Int.one_mul]
  obtain ⟨M, k, h1, h2, h3⟩ := whole_exact (Lo q + 1) (by rw [p53]; omega) _ e
  obtain ⟨w, w1, w2, w3⟩ := add_exact hf fin_one.1 M k h1 h2 h3
  exact ⟨w, w1, w2, by rw [w3, e]⟩
theorem um_big {r : Nat} (h : ONE < 4 * um r) : 1020 ≤ kp r := by
  have h1 : um r < 2 ^ 53 * 2 ^ kp r := by
    rw [um_mk]
    exact Nat.mul_lt_mul_of_pos_right (mp_lt r) (Nat.two_pow_pos (kp r))
  have h2 : ONE < 2 ^ (55 + kp r) := by
    rw [show 55 + kp r = 2 + (53 + kp r) by omega, Nat.pow_add, Nat.pow_add 2 53]
    omega
  have h3 := (Nat.pow_lt_pow_iff_right (show 1 < 2 by omega)).1 h2
  have := K1_eq
  omega
theorem half_of {q : Nat} (hq : Fin q) (hbig : ONE < 4 * um (rg q)) : ∃ h, D.mul q 4602678819172646912 = some h ∧ Fin h ∧ 2 * U h = U q := by
  obtain ⟨f1, f2, f3, f4, f5⟩ := fin_half
  have hK := K1_eq
  have hkq := um_big hbig
  have hm := mul_units hq f1 (by rw [f4]; omega)
  rw [f3, f4, f5] at hm
  obtain ⟨k, hk⟩ : ∃ k, kp (rg q) = k + 1 := ⟨kp (rg q) - 1, by omega⟩
  obtain ⟨k', hk'⟩ : ∃ k', k = 52 + k' := ⟨k - 52, by omega⟩
  have e : mp (rg q) * 4503599627370496 * 2 ^ (kp (rg q) + 1021 - K1) = mp (rg q) * 2 ^ k := by
    rw [show kp (rg q) + 1021 - K1 = k' by omega, hk', Nat.pow_add, p52, Nat.mul_assoc]
  have hkl := kp_le hq.2
  obtain ⟨r1, r2⟩ := rr_exact (mp (rg q)) k (mp_lt _) (by omega)
  rw [e] at hm
  obtain ⟨w1, w2⟩ := word_fin (sg q ^^ false) _ r2
  refine ⟨_, hm, w1, ?_⟩
  rw [w2, r1]
  have hu := um_mk (rg q)
  rw [hk, Nat.pow_succ, ← Nat.mul_assoc] at hu
  unfold U
  rw [hu]
  cases sg q
  · simp; omega
  · simp; omega
theorem odd_val {q : Nat} (hq : Fin q) (hr : Re q ≠ 0) (ht : 2 * Re q = ONE ∨ (Lo q = -1 ∧ U q < 0 ∧ -(ONE : Int) < 2 * U q ∧ 4 * U q < -(ONE : Int))) :
    ∃ h a, D.mul q 4602678819172646912 = some h ∧ Fin h ∧ D.add (wh .down h) (wh .up h) = some a ∧ Fin a ∧ U a = (if Lo q % 2 = 0 then Lo q + 1 else Lo q) * ONE := by
  have hO := ONE_pos
  have hs := U_split q
  have hrg := re_range q
  have habs := U_abs q
  have hbig : ONE < 4 * um (rg q) := by
    rcases ht with h | ⟨h1, h2, h3, h4⟩
    · by_cases h0 : 0 ≤ Lo q
      · have := Int.mul_nonneg h0 (show (0 : Int) ≤ (ONE : Int) by omega)
        omega
      · have h5 : Lo q * ONE ≤ -1 * ONE := Int.mul_le_mul_of_nonneg_right (by omega) (by omega)
        omega
    · omega
  obtain ⟨h, h1, h2, h3⟩ := half_of hq hbig
  have hl := lo_small hq hr
  obtain ⟨J, hJ⟩ : ∃ J, Lo q / 2 = J := ⟨_, rfl⟩
  have hform : ∃ r : Int, U h = J * ONE + r ∧ 0 < r ∧ r < ONE := by
    refine ⟨U h - J * ONE, by omega, ?_, ?_⟩
    all_goals
      have e2 : 2 * (J * ONE) = (2 * J) * ONE := by rw [Int.mul_assoc]
      rcases (show Lo q = 2 * J ∨ Lo q = 2 * J + 1 by omega) with hL | hL
      · rw [hL] at hs
        omega
      · rw [hL, Int.add_mul, Int.one_mul] at hs
        omega
  obtain ⟨r, hU, hr0, hr1⟩ := hform
  obtain ⟨hLh, hRh⟩ := split_unique hU (by omega) hr1
  obtain ⟨fd1, fd2⟩ := floor_val h2
  obtain ⟨fu1, fu2⟩ := ceil_val h2 (by rw [hRh]; omega)
  rw [hLh] at fd2 fu2
  have e : U (wh .down h) + U (wh .up h) = (2 * J + 1) * ONE := by
    rw [fd2, fu2, ← Int.add_mul]
    congr 1
    omega
  obtain ⟨M, k, m1, m2, m3⟩ := whole_exact (2 * J + 1) (by rw [p53]; omega) _ e
  obtain ⟨a, a1, a2, a3⟩ := add_exact fd1 fu1 M k m1 m2 m3
  refine ⟨h, a, h1, h2, a1, a2, ?_⟩
  rw [a3, e]
  congr 1
  split <;> omega

end Go.Proofs.Ytkfnllonahlfeaa.Rf
