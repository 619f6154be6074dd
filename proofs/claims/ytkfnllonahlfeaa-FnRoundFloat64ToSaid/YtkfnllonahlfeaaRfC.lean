/- A double between two whole numbers: the lower one, the rest, how the rest stands to a half. -/
import Derived.Test.YtkfnllonahlfeaaRfB
namespace Go.Proofs.Ytkfnllonahlfeaa.Rf
open Ieee
set_option linter.unusedVariables false
set_option linter.unusedSimpArgs false

def Lo (q : Nat) : Int := U q / (ONE : Int)
def Re (q : Nat) : Int := U q % (ONE : Int)
theorem re_range (q : Nat) : 0 ≤ Re q ∧ Re q < ONE := by
  have h := ONE_pos
  exact ⟨Int.emod_nonneg _ (by omega), Int.emod_lt_of_pos _ (by omega)⟩
theorem U_split (q : Nat) : U q = Lo q * ONE + Re q := by
  unfold Lo Re
  have := Int.emod_add_mul_ediv (U q) (ONE : Int)
  rw [Int.mul_comm] at this
  omega
theorem split_unique {q : Nat} {l r : Int} (h : U q = l * ONE + r) (h0 : 0 ≤ r) (h1 : r < ONE) : Lo q = l ∧ Re q = r := by
  have hp := ONE_pos
  have := (Int.ediv_emod_unique (a := U q) (r := r) (q := l) (show (0 : Int) < (ONE : Int) by omega)).2 ⟨by rw [h, Int.mul_comm]; omega, h0, h1⟩
  exact this
theorem nat_split (u : Nat) : u = u / ONE * ONE + u % ONE := by
  have := Nat.div_add_mod u ONE
  rw [Nat.mul_comm] at this
  omega
theorem parts_pos {q : Nat} (h : sg q = false) : Lo q = ((um (rg q) / ONE : Nat) : Int) ∧ Re q = ((um (rg q) % ONE : Nat) : Int) := by
  have hs := nat_split (um (rg q))
  have hl := Nat.mod_lt (um (rg q)) ONE_pos
  refine split_unique ?_ (by omega) (by omega)
  unfold U
  rw [h]
  simp only [Bool.false_eq_true, if_false]
  exact_mod_cast hs
theorem parts_neg {q : Nat} (h : sg q = true) (hr : um (rg q) % ONE ≠ 0) : Lo q = -((um (rg q) / ONE : Nat) : Int) - 1 ∧ Re q = (ONE : Int) - ((um (rg q) % ONE : Nat) : Int) := by
  have hs := nat_split (um (rg q))
  have hl := Nat.mod_lt (um (rg q)) ONE_pos
  refine split_unique ?_ (by omega) (by omega)
  unfold U
  rw [h]
  simp only [if_true]
  have hs' : (um (rg q) : Int) = ((um (rg q) / ONE : Nat) : Int) * (ONE : Int) + ((um (rg q) % ONE : Nat) : Int) := by exact_mod_cast hs
  rw [Int.sub_mul, Int.neg_mul, Int.one_mul]
  omega
theorem re_zero {q : Nat} (h : um (rg q) % ONE = 0) : Re q = 0 := by
  have hs := nat_split (um (rg q))
  rw [h] at hs
  have hp := ONE_pos
  have hs' : (um (rg q) : Int) = ((um (rg q) / ONE : Nat) : Int) * (ONE : Int) := by
    have : um (rg q) = um (rg q) / ONE * ONE := by omega
    exact_mod_cast this
  unfold Re U
  cases sg q
  · simp only [Bool.false_eq_true, if_false]
    rw [hs', Int.mul_emod_left]
  · simp only [if_true]
    rw [hs', ← Int.neg_mul, Int.mul_emod_left]
theorem um_rest {q : Nat} (h : Re q ≠ 0) : um (rg q) % ONE ≠ 0 := fun h0 => h (re_zero h0)
theorem floor_val {q : Nat} (hq : Fin q) : Fin (wh .down q) ∧ U (wh .down q) = Lo q * ONE := by
  obtain ⟨h1, h2⟩ := wh_val .down hq
  refine ⟨h1, ?_⟩
  rw [h2]
  unfold cu mo
  cases hs : sg q
  · obtain ⟨a, _⟩ := parts_pos hs
    simp [a]
  · by_cases hr : um (rg q) % ONE = 0
    · have h3 := U_split q
      rw [re_zero hr] at h3
      have hs2 := nat_split (um (rg q))
      have hs' : (um (rg q) : Int) = ((um (rg q) / ONE : Nat) : Int) * (ONE : Int) := by
        have : um (rg q) = um (rg q) / ONE * ONE := by omega
        exact_mod_cast this
      have h4 : U q = -(um (rg q) : Int) := by unfold U; rw [hs]; rfl
      simp [hr]
      simp at hs'
      omega
    · obtain ⟨a, _⟩ := parts_neg hs hr
      have e : (um (rg q) % ONE != 0) = true := by simpa using hr
      rw [a, e]
      simp only [if_true, Bool.and_self, Bool.toNat_true]
      push_cast
      rw [Int.sub_mul, Int.neg_mul, Int.add_mul, Int.one_mul]
      omega
theorem ceil_val {q : Nat} (hq : Fin q) (hr : Re q ≠ 0) : Fin (wh .up q) ∧ U (wh .up q) = (Lo q + 1) * ONE := by
  obtain ⟨h1, h2⟩ := wh_val .up hq
  refine ⟨h1, ?_⟩
  rw [h2]
  have hm := um_rest hr
  have e : (um (rg q) % ONE != 0) = true := by simpa using hm
  unfold cu mo
  rw [e]
  cases hs : sg q
  · obtain ⟨a, _⟩ := parts_pos hs
    simp [a]
  · obtain ⟨a, _⟩ := parts_neg hs hm
    rw [a]
    simp [← Int.neg_mul]
theorem trunc_val {q : Nat} (hq : Fin q) (hr : Re q ≠ 0) : Fin (wh .zero q) ∧ U (wh .zero q) = (if U q < 0 then Lo q + 1 else Lo q) * ONE := by
  obtain ⟨h1, h2⟩ := wh_val .zero hq
  refine ⟨h1, ?_⟩
  rw [h2]
  have hm := um_rest hr
  have h0 : um (rg q) ≠ 0 := fun h => hm (by rw [h]; exact Nat.zero_mod _)
  unfold cu mo
  cases hs : sg q
  · obtain ⟨a, _⟩ := parts_pos hs
    have : ¬ U q < 0 := by unfold U; rw [hs]; simp
    simp [a, this]
  · obtain ⟨a, _⟩ := parts_neg hs hm
    have : U q < 0 := by unfold U; rw [hs]; simp; omega
    simp [a, this, ← Int.neg_mul]
/-- Where the rest is a half. -/
theorem even_tie {q : Nat} (hq : Fin q) (hr : 2 * Re q = ONE) : Fin (wh .even q) ∧ U (wh .even q) = (if Lo q % 2 = 0 then Lo q else Lo q + 1) * ONE := by
  obtain ⟨h1, h2⟩ := wh_val .even hq
  refine ⟨h1, ?_⟩
  rw [h2]
  have hp := ONE_pos
  have hm := um_rest (q := q) (by omega)
  cases hs : sg q
  · obtain ⟨a, b⟩ := parts_pos hs
    have e1 : ¬ ONE < 2 * (um (rg q) % ONE) := by omega
    have e2 : ONE = 2 * (um (rg q) % ONE) := by omega
    unfold cu mo
    rw [decide_eq_false e1, show (ONE == 2 * (um (rg q) % ONE)) = true by simpa using e2, a]
    by_cases h : um (rg q) / ONE % 2 = 1
    · have h' : ¬ ((um (rg q) / ONE : Nat) : Int) % 2 = 0 := by omega
      rw [if_neg h', h]
      simp
    · have h' : ((um (rg q) / ONE : Nat) : Int) % 2 = 0 := by omega
      rw [if_pos h', show (um (rg q) / ONE % 2 == 1) = false by simpa using h]
      simp
  · obtain ⟨a, b⟩ := parts_neg hs hm
    have e1 : ¬ ONE < 2 * (um (rg q) % ONE) := by omega
    have e2 : ONE = 2 * (um (rg q) % ONE) := by omega
    unfold cu mo
    rw [decide_eq_false e1, show (ONE == 2 * (um (rg q) % ONE)) = true by simpa using e2, a]
    by_cases h : um (rg q) / ONE % 2 = 1
    · have h' : (-((um (rg q) / ONE : Nat) : Int) - 1) % 2 = 0 := by omega
      rw [if_pos h', h]
      simp [← Int.neg_mul]
      rw [Int.neg_add]
      rfl
    · have h' : ¬ (-((um (rg q) / ONE : Nat) : Int) - 1) % 2 = 0 := by omega
      rw [if_neg h', show (um (rg q) / ONE % 2 == 1) = false by simpa using h]
      simp [← Int.neg_mul]
theorem even_zone {q : Nat} (hq : Fin q) (h1 : U q < 0) (h2 : -(ONE : Int) < 2 * U q) : Fin (wh .even q) ∧ U (wh .even q) = 0 := by
  obtain ⟨h3, h4⟩ := wh_val .even hq
  refine ⟨h3, ?_⟩
  rw [h4]
  have ha := U_abs q
  have hu : 2 * um (rg q) < ONE := by omega
  have hc : cu .even (sg q) (um (rg q)) = 0 := by
    unfold cu mo
    rw [Nat.div_eq_of_lt (by omega), Nat.mod_eq_of_lt (by omega), decide_eq_false (by omega), show (ONE == 2 * um (rg q)) = false by simp; omega]
    rfl
  rw [hc, Nat.zero_mul]
  simp
/-! ### how great -/
theorem rest_parts {q : Nat} (hq : Fin q) (hr : Re q ≠ 0) : ∃ m k d : Nat, um (rg q) = m * 2 ^ k ∧ m < 2 ^ 53 ∧ k + d = K1 ∧ 0 < d ∧ ONE = 2 ^ d * 2 ^ k := by
  refine ⟨mp (rg q), kp (rg q), K1 - kp (rg q), um_mk _, mp_lt _, ?_, ?_, ?_⟩
  all_goals
    have hk : kp (rg q) < K1 := by
      rcases Nat.lt_or_ge (kp (rg q)) K1 with h | h
      · exact h
      · refine absurd ?_ (um_rest hr)
        rw [um_mk]
        have e : 2 ^ kp (rg q) = 2 ^ (kp (rg q) - K1) * ONE := by unfold ONE; rw [← Nat.pow_add, Nat.sub_add_cancel h]
        rw [e, ← Nat.mul_assoc, Nat.mul_mod_left]
  · omega
  · omega
  · unfold ONE
    rw [← Nat.pow_add, Nat.sub_add_cancel (by omega)]
theorem lo_small {q : Nat} (hq : Fin q) (hr : Re q ≠ 0) : -(4503599627370496 : Int) ≤ Lo q ∧ Lo q < 4503599627370496 := by
  obtain ⟨m, k, d, hu, hm, hk, hd, hO⟩ := rest_parts hq hr
  have hle : um (rg q) / ONE ≤ m / 2 := by
    rw [hu, hO, Nat.mul_div_mul_right _ _ (Nat.two_pow_pos k)]
    refine Nat.div_le_div_left ?_ (by omega)
    have : 2 ^ 1 ≤ 2 ^ d := Nat.pow_le_pow_right (by omega) (by omega)
    simpa using this
  rw [p53] at hm
  generalize hT : um (rg q) / ONE = T at hle
  cases hs : sg q
  · obtain ⟨a, _⟩ := parts_pos hs
    rw [hT] at a
    omega
  · obtain ⟨a, _⟩ := parts_neg hs (um_rest hr)
    rw [hT] at a
    omega
theorem rest_small {q : Nat} (hq : Fin q) (hr : Re q ≠ 0) (hz : 0 ≤ U q ∨ 2 * U q ≤ -(ONE : Int)) : ∃ M k : Nat, (Re q).natAbs = M * 2 ^ k ∧ M < 2 ^ 53 ∧ k ≤ 2045 := by
  obtain ⟨m, k, d, hu, hm, hk, hd, hO⟩ := rest_parts hq hr
  have hK := K1_eq
  have hrest : um (rg q) % ONE = m % 2 ^ d * 2 ^ k := by rw [hu, hO, Nat.mul_mod_mul_right]
  cases hs : sg q
  · obtain ⟨_, b⟩ := parts_pos hs
    refine ⟨m % 2 ^ d, k, by rw [b, hrest, Int.natAbs_natCast], Nat.lt_of_le_of_lt (Nat.mod_le _ _) hm, by omega⟩
  · have hmr := um_rest hr
    obtain ⟨_, b⟩ := parts_neg hs hmr
    have hlt : m % 2 ^ d < 2 ^ d := Nat.mod_lt _ (Nat.two_pow_pos d)
    have h0 : m % 2 ^ d ≠ 0 := fun h => hmr (by rw [hrest, h, Nat.zero_mul])
    have hUn : U q = -(um (rg q) : Int) := by unfold U; rw [hs]; rfl
    have hge : 2 ^ d ≤ 2 * m := by
      have h1 : ONE ≤ 2 * um (rg q) := by
        rcases hz with h | h
        · exfalso
          have hu0 : um (rg q) ≠ 0 := fun h5 => hmr (by rw [h5]; exact Nat.zero_mod _)
          omega
        · omega
      rw [hO, hu, ← Nat.mul_assoc] at h1
      exact Nat.le_of_mul_le_mul_right h1 (Nat.two_pow_pos k)
    rw [p53] at hm
    have hd53 : 2 ^ d ≤ 2 ^ 53 := by
      refine Nat.pow_le_pow_right (by omega) ?_
      rcases Nat.lt_or_ge 53 d with h | h
      · have : 2 ^ 54 ≤ 2 ^ d := Nat.pow_le_pow_right (by omega) (by omega)
        have e54 : (2 : Nat) ^ 54 = 4 * 4503599627370496 := by decide
        omega
      · exact h
    refine ⟨2 ^ d - m % 2 ^ d, k, ?_, by omega, by omega⟩
    rw [b, hrest, Nat.sub_mul, ← hO]
    have : m % 2 ^ d * 2 ^ k < ONE := by rw [hO]; exact Nat.mul_lt_mul_of_pos_right hlt (Nat.two_pow_pos k)
    omega
theorem um_kept (e c : Nat) (h1 : 4503599627370496 ≤ c) (h2 : c ≤ 2 * 4503599627370496) : um (e * 4503599627370496 + c) = c * 2 ^ e := by
  unfold um
  rw [if_neg (by omega)]
  rcases Nat.lt_or_ge c (2 * 4503599627370496) with h | h
  · rw [show (e * 4503599627370496 + c) / 4503599627370496 - 1 = e by omega, show 4503599627370496 + (e * 4503599627370496 + c) % 4503599627370496 = c by omega]
  · obtain rfl : c = 2 * 4503599627370496 := by omega
    rw [show (e * 4503599627370496 + 2 * 4503599627370496) / 4503599627370496 - 1 = e + 1 by omega, show 4503599627370496 + (e * 4503599627370496 + 2 * 4503599627370496) % 4503599627370496 = 4503599627370496 by omega, Nat.pow_succ]
    omega
def K2 : Nat := 1021
theorem K2_eq : K2 = 1021 := rfl
theorem one_k2 : ONE = 2 * 4503599627370496 * 2 ^ K2 := by
  unfold ONE
  rw [← p53, ← Nat.pow_add]
  exact congrArg (fun n : Nat => 2 ^ n) (show K1 = 53 + K2 by decide)
/-- A number between a half and one keeps its place to it. -/
theorem rr_upper (v : Nat) (h1 : ONE < 2 * v) (h2 : v < ONE) : rr v < 9218868437227405312 ∧ ONE ≤ 2 * um (rr v) ∧ (3 * ONE ≤ 4 * v → ONE < 2 * um (rr v)) := by
  have hO := one_k2
  have hp := Nat.two_pow_pos K2
  obtain ⟨g, hg⟩ : ∃ g, 2 ^ K2 = g := ⟨_, rfl⟩
  rw [hg] at hO hp
  have hl : v.log2 = K2 + 52 := by
    apply log2_eq
    · rw [Nat.pow_add, p52, hg]
      have : g * 4503599627370496 = 4503599627370496 * g := Nat.mul_comm _ _
      omega
    · rw [show K2 + 52 + 1 = K2 + 53 by omega, Nat.pow_add, p53, hg]
      have : g * (2 * 4503599627370496) = 2 * 4503599627370496 * g := Nat.mul_comm _ _
      omega
  have hv : v ≠ 0 := by omega
  unfold rr
  rw [if_neg hv, hl, show K2 + 52 - 52 = K2 by omega]
  obtain ⟨c, hc⟩ : ∃ c, v / 2 ^ K2 = c := ⟨_, rfl⟩
  have hdm := Nat.div_add_mod v (2 ^ K2)
  have hml := Nat.mod_lt v (Nat.two_pow_pos K2)
  rw [hc, hg] at hdm
  rw [hg] at hml
  have hcl : c < 2 * 4503599627370496 := by
    have h3 : g * c < g * (2 * 4503599627370496) := by have : g * (2 * 4503599627370496) = 2 * 4503599627370496 * g := Nat.mul_comm _ _; omega
    exact Nat.lt_of_mul_lt_mul_left h3
  have hcg : 4503599627370496 ≤ c := by
    rcases Nat.lt_or_ge c 4503599627370496 with h | h
    · exfalso
      have h3 : g * (c + 1) ≤ g * 4503599627370496 := Nat.mul_le_mul_left _ h
      rw [Nat.mul_add, Nat.mul_one] at h3
      have : g * 4503599627370496 = 4503599627370496 * g := Nat.mul_comm _ _
      omega
    · exact h
  have hK := K2_eq
  obtain ⟨t, ht⟩ : ∃ t, cutE v K2 = t := ⟨_, rfl⟩
  have htc : c ≤ t ∧ t ≤ c + 1 := by
    rw [← ht]; unfold cutE
    rw [hc]
    split <;> omega
  rw [ht, Nat.min_eq_left (by omega)]
  refine ⟨by omega, ?_, fun h3 => ?_⟩
  · rw [um_kept K2 t (by omega) (by omega), hg, hO]
    have := Nat.mul_le_mul_right g (show 4503599627370496 ≤ t by omega)
    have e : 2 * (t * g) = 2 * t * g := by rw [Nat.mul_assoc]
    omega
  · rw [um_kept K2 t (by omega) (by omega), hg, hO]
    have hc3 : 4503599627370496 < c := by
      rcases Nat.lt_or_ge 4503599627370496 c with h | h
      · exact h
      · exfalso
        obtain rfl : c = 4503599627370496 := by omega
        have : g * 4503599627370496 = 4503599627370496 * g := Nat.mul_comm _ _
        omega
    have := Nat.mul_lt_mul_of_pos_right (show 4503599627370496 < t by omega) hp
    have e : 2 * (t * g) = 2 * t * g := by rw [Nat.mul_assoc]
    omega
/-- The rest as the difference gives it, beside a half. -/
structure Rest (q d : Nat) : Prop where
  eq : D.sub q (wh .down q) = some d
  fin : Fin d
  pos : 0 < U d
  less : 2 * U d < ONE → 2 * Re q < ONE
  more : (ONE : Int) < 2 * U d → (ONE : Int) < 2 * Re q
  tie : 2 * U d = ONE → 2 * Re q = ONE ∨ (Lo q = -1 ∧ U q < 0 ∧ -(ONE : Int) < 2 * U q ∧ 4 * U q < -(ONE : Int))
theorem rest_of {q : Nat} (hq : Fin q) (hr : Re q ≠ 0) : ∃ d, Rest q d := by
  obtain ⟨hf, hU⟩ := floor_val hq
  have hs := U_split q
  have hrg := re_range q
  have hd : U q - U (wh .down q) = Re q := by rw [hU]; omega
  by_cases hz : 0 ≤ U q ∨ 2 * U q ≤ -(ONE : Int)
  · obtain ⟨M, k, h1, h2, h3⟩ := rest_small hq hr hz
    rw [← hd] at h1
    obtain ⟨d, e1, e2, e3⟩ := sub_exact hq hf M k h1 h2 h3
    rw [hd] at e3
    exact ⟨d, e1, e2, by omega, fun h => by omega, fun h => by omega, fun h => .inl (by omega)⟩
  · have hn : U q < 0 := by omega
    have hn2 : -(ONE : Int) < 2 * U q := by omega
    obtain ⟨hl, hrr⟩ := split_unique (q := q) (l := -1) (r := (ONE : Int) + U q) (by omega) (by omega) (by omega)
    obtain ⟨b, e1, e2⟩ := sub_units hq hf
    rw [hd] at e1 e2
    obtain ⟨v, hv⟩ : ∃ v : Nat, Re q = v := ⟨(Re q).toNat, by omega⟩
    rw [hv, Int.natAbs_natCast] at e1
    rw [hv] at e2 hrr
    have hb : b = false := by
      rw [e2 (by omega)]
      exact decide_eq_false (by omega)
    obtain ⟨r1, r2, r3⟩ := rr_upper v (by omega) (by omega)
    obtain ⟨w1, w2⟩ := word_fin b (rr v) r1
    rw [hb] at w1 w2 e1
    simp only [Bool.false_eq_true, if_false] at w2
    refine ⟨_, e1, w1, by omega, fun h => by omega, fun h => by omega, fun h => .inr ⟨hl, hn, hn2, ?_⟩⟩
    rcases Int.lt_or_le (4 * U q) (-(ONE : Int)) with h4 | h4
    · exact h4
    · have := r3 (by omega)
      omega

end Go.Proofs.Ytkfnllonahlfeaa.Rf
