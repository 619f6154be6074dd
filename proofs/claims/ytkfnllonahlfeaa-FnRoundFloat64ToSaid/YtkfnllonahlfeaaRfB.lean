/- Sums, differences, products of doubles in units; whole numbers out of doubles. -/
import Derived.Test.YtkfnllonahlfeaaRfA
namespace Go.Proofs.Ytkfnllonahlfeaa.Rf
open Ieee
set_option linter.unusedVariables false
set_option linter.unusedSimpArgs false

theorem sig_neg (s : Bool) (m a : Nat) : signed (!s) m a = -signed s m a := by
  rw [sig_shl, sig_shl]
  cases s <;> simp
theorem sum_units (s t : Bool) (m n k l : Nat) (z : Bool) :
    ∃ b : Bool, D.write (.number (if signed s m ((-(K1 : Int) + (k : Nat)) - min (-(K1 : Int) + (k : Nat)) (-(K1 : Int) + (l : Nat))).toNat + signed t n ((-(K1 : Int) + (l : Nat)) - min (-(K1 : Int) + (k : Nat)) (-(K1 : Int) + (l : Nat))).toNat = 0 then z else decide (signed s m ((-(K1 : Int) + (k : Nat)) - min (-(K1 : Int) + (k : Nat)) (-(K1 : Int) + (l : Nat))).toNat + signed t n ((-(K1 : Int) + (l : Nat)) - min (-(K1 : Int) + (k : Nat)) (-(K1 : Int) + (l : Nat))).toNat < 0)) (signed s m ((-(K1 : Int) + (k : Nat)) - min (-(K1 : Int) + (k : Nat)) (-(K1 : Int) + (l : Nat))).toNat + signed t n ((-(K1 : Int) + (l : Nat)) - min (-(K1 : Int) + (k : Nat)) (-(K1 : Int) + (l : Nat))).toNat).natAbs (min (-(K1 : Int) + (k : Nat)) (-(K1 : Int) + (l : Nat))))
      = D.word b (rr ((if s then -((m * 2 ^ k : Nat) : Int) else ((m * 2 ^ k : Nat) : Int)) + (if t then -((n * 2 ^ l : Nat) : Int) else ((n * 2 ^ l : Nat) : Int))).natAbs) ∧
      ((if s then -((m * 2 ^ k : Nat) : Int) else ((m * 2 ^ k : Nat) : Int)) + (if t then -((n * 2 ^ l : Nat) : Int) else ((n * 2 ^ l : Nat) : Int)) ≠ 0 → b = decide ((if s then -((m * 2 ^ k : Nat) : Int) else ((m * 2 ^ k : Nat) : Int)) + (if t then -((n * 2 ^ l : Nat) : Int) else ((n * 2 ^ l : Nat) : Int)) < 0)) := by
  obtain ⟨i, hi⟩ : ∃ i : Nat, ((-(K1 : Int) + (k : Nat)) - min (-(K1 : Int) + (k : Nat)) (-(K1 : Int) + (l : Nat))).toNat = i := ⟨_, rfl⟩
  obtain ⟨j, hj⟩ : ∃ j : Nat, ((-(K1 : Int) + (l : Nat)) - min (-(K1 : Int) + (k : Nat)) (-(K1 : Int) + (l : Nat))).toNat = j := ⟨_, rfl⟩
  rw [hi, hj]
  have hmin : min (-(K1 : Int) + (k : Nat)) (-(K1 : Int) + (l : Nat)) = -(K1 : Int) + ((min k l : Nat) : Int) := by omega
  rw [hmin]
  have e1 := sig_scale s m i (min k l)
  have e2 := sig_scale t n j (min k l)
  rw [show i + min k l = k by omega] at e1
  rw [show j + min k l = l by omega] at e2
  rw [← e1, ← e2, ← Int.add_mul]
  generalize signed s m i + signed t n j = T
  have hp : (0 : Int) < ((2 ^ min k l : Nat) : Int) := by have := Nat.two_pow_pos (min k l); omega
  refine ⟨if T = 0 then z else decide (T < 0), ?_, fun h => ?_⟩
  · show D.nearest _ _ _ = _
    rw [nearest_units, Int.natAbs_mul, Int.natAbs_natCast]
  · have hT : T ≠ 0 := fun h0 => h (by rw [h0, Int.zero_mul])
    rw [if_neg hT]
    congr 1
    apply propext
    exact ⟨fun h1 => Int.mul_neg_of_neg_of_pos h1 hp, fun h1 => by
      rcases Int.lt_or_le T 0 with h2 | h2
      · exact h2
      · have := Int.mul_nonneg h2 (Int.le_of_lt hp); omega⟩
theorem add_units {x y : Nat} (hx : Fin x) (hy : Fin y) : ∃ b : Bool, D.add x y = some (D.word b (rr (U x + U y).natAbs)) ∧ (U x + U y ≠ 0 → b = decide (U x + U y < 0)) := by
  obtain ⟨b, h1, h2⟩ := sum_units (sg x) (sg y) (mp (rg x)) (mp (rg y)) (kp (rg x)) (kp (rg y)) (sg x && sg y)
  rw [← U_parts, ← U_parts] at h1 h2
  refine ⟨b, ?_, h2⟩
  rw [← h1]
  unfold Format.add
  rw [read_fin hx, read_fin hy]
  rfl
theorem sub_units {x y : Nat} (hx : Fin x) (hy : Fin y) : ∃ b : Bool, D.sub x y = some (D.word b (rr (U x - U y).natAbs)) ∧ (U x - U y ≠ 0 → b = decide (U x - U y < 0)) := by
  obtain ⟨b, h1, h2⟩ := sum_units (sg x) (!sg y) (mp (rg x)) (mp (rg y)) (kp (rg x)) (kp (rg y)) (sg x && !sg y)
  have e : (if (!sg y) = true then -((mp (rg y) * 2 ^ kp (rg y) : Nat) : Int) else ((mp (rg y) * 2 ^ kp (rg y) : Nat) : Int)) = -U y := by
    rw [U_parts]
    cases sg y <;> simp
  rw [← U_parts, e, ← Int.sub_eq_add_neg] at h1 h2
  refine ⟨b, ?_, h2⟩
  rw [← h1]
  unfold Format.sub
  rw [read_fin hx, read_fin hy]
  rfl
theorem signed_exact (b : Bool) (v : Int) (M k : Nat) (hv : v.natAbs = M * 2 ^ k) (hM : M < 2 ^ 53) (hk : k ≤ 2045) (hb : v ≠ 0 → b = decide (v < 0)) : Fin (D.word b (rr v.natAbs)) ∧ U (D.word b (rr v.natAbs)) = v := by
  rw [hv]
  obtain ⟨h1, h2⟩ := rr_exact M k hM hk
  obtain ⟨h3, h4⟩ := word_fin b _ h2
  refine ⟨h3, ?_⟩
  rw [h4, h1, ← hv]
  by_cases h0 : v = 0
  · subst h0; cases b <;> rfl
  · rw [hb h0]
    by_cases hn : v < 0
    · simp [hn]; omega
    · simp [hn]; omega
theorem add_exact {x y : Nat} (hx : Fin x) (hy : Fin y) (M k : Nat) (hv : (U x + U y).natAbs = M * 2 ^ k) (hM : M < 2 ^ 53) (hk : k ≤ 2045) : ∃ w, D.add x y = some w ∧ Fin w ∧ U w = U x + U y := by
  obtain ⟨b, h1, h2⟩ := add_units hx hy
  obtain ⟨h3, h4⟩ := signed_exact b _ M k hv hM hk h2
  exact ⟨_, h1, h3, h4⟩
theorem sub_exact {x y : Nat} (hx : Fin x) (hy : Fin y) (M k : Nat) (hv : (U x - U y).natAbs = M * 2 ^ k) (hM : M < 2 ^ 53) (hk : k ≤ 2045) : ∃ w, D.sub x y = some w ∧ Fin w ∧ U w = U x - U y := by
  obtain ⟨b, h1, h2⟩ := sub_units hx hy
  obtain ⟨h3, h4⟩ := signed_exact b _ M k hv hM hk h2
  exact ⟨_, h1, h3, h4⟩
/-! ### products, quotients -/
theorem nearest_rg (neg : Bool) (mag : Nat) (place : Int) : D.nearest neg mag place < 2 * 9223372036854775808 ∧ rg (D.nearest neg mag place) ≤ 9218868437227405312 := by
  unfold Format.nearest
  by_cases h : mag = 0
  · rw [if_pos h]
    obtain ⟨h1, _, h3⟩ := word_parts neg 0 (by omega)
    exact ⟨h1, by rw [h3]; omega⟩
  · rw [if_neg h]
    simp only [D_inf]
    obtain ⟨r, hr⟩ : ∃ r, min ((max (place + ↑mag.log2 - ↑D.fractionBits) D.leastPlace - D.leastPlace).toNat * D.binade + Toward.even.cut neg (mag <<< (place - max (place + ↑mag.log2 - ↑D.fractionBits) D.leastPlace).toNat) (max (place + ↑mag.log2 - ↑D.fractionBits) D.leastPlace - place).toNat) 9218868437227405312 = r := ⟨_, rfl⟩
    rw [hr]
    have hle : r ≤ 9218868437227405312 := by omega
    obtain ⟨h1, _, h3⟩ := word_parts neg r (by omega)
    exact ⟨h1, by rw [h3]; exact hle⟩
theorem mul_some {x y : Nat} (hx : Fin x) (hy : Fin y) : ∃ w, D.mul x y = some w ∧ w < 2 * 9223372036854775808 ∧ rg w ≤ 9218868437227405312 := by
  unfold Format.mul
  rw [read_fin hx, read_fin hy]
  exact ⟨_, rfl, nearest_rg _ _ _⟩
theorem mp_zero {x : Nat} (h : U x = 0) : mp (rg x) = 0 := by
  have := U_abs x
  rw [h, um_mk] at this
  have h2 := Nat.two_pow_pos (kp (rg x))
  rcases Nat.eq_zero_or_pos (mp (rg x)) with h3 | h3
  · exact h3
  · have := Nat.mul_pos h3 h2; simp at *; omega
theorem mul_zero {x y : Nat} (hx : Fin x) (hy : Fin y) (h : U x = 0) : ∃ b, D.mul x y = some (D.word b 0) := by
  unfold Format.mul
  rw [read_fin hx, read_fin hy, mp_zero h]
  exact ⟨_, by simp [Datum.product, Format.write, Format.nearest]; rfl⟩
theorem mul_units {x y : Nat} (hx : Fin x) (hy : Fin y) (h : K1 ≤ kp (rg x) + kp (rg y)) : D.mul x y = some (D.word (sg x ^^ sg y) (rr (mp (rg x) * mp (rg y) * 2 ^ (kp (rg x) + kp (rg y) - K1)))) := by
  unfold Format.mul
  rw [read_fin hx, read_fin hy, ← nearest_units]
  show some (D.nearest _ _ _) = _
  rw [show (-(K1 : Int) + (kp (rg x) : Nat) + (-(K1 : Int) + (kp (rg y) : Nat))) = -(K1 : Int) + ((kp (rg x) + kp (rg y) - K1 : Nat) : Int) by omega]
theorem div_some {x y : Nat} (hx : Fin x) (hy : Fin y) (h : U y ≠ 0) : ∃ w, D.div x y = some w ∧ w < 2 * 9223372036854775808 ∧ rg w ≤ 9218868437227405312 := by
  have hn : mp (rg y) ≠ 0 := fun h0 => h (by rw [U_parts, h0]; simp)
  unfold Format.div
  rw [read_fin hx, read_fin hy]
  unfold Datum.quotient
  simp only [if_neg hn]
  exact ⟨_, rfl, nearest_rg _ _ _⟩
/-! ### whole numbers -/
def mo (way : Toward) (neg : Bool) (low rest gap : Nat) : Bool := match way with
  | .even => decide (gap < 2 * rest) || (gap == 2 * rest && low % 2 == 1)
  | .down => neg && rest != 0
  | .up => !neg && rest != 0
  | .zero => false
def cu (way : Toward) (neg : Bool) (u : Nat) : Nat := u / ONE + (mo way neg (u / ONE) (u % ONE) ONE).toNat
theorem cut_way (way : Toward) (neg : Bool) (n drop : Nat) : way.cut neg n drop = n / 2 ^ drop + (mo way neg (n / 2 ^ drop) (n % 2 ^ drop) (2 ^ drop)).toNat := by
  have key : ∀ d, way.cut neg n d = n / 2 ^ min d (n.log2 + 2) + (mo way neg (n / 2 ^ min d (n.log2 + 2)) (n % 2 ^ min d (n.log2 + 2)) (2 ^ min d (n.log2 + 2))).toNat := by
    intro d
    unfold Toward.cut mo
    simp only [Nat.shiftLeft_eq, Nat.one_mul]
    cases way <;> rfl
  rw [key]
  rcases Nat.lt_or_ge (n.log2 + 2) drop with h | h
  · rw [Nat.min_eq_right (by omega)]
    have h1 : n < 2 ^ (n.log2 + 1) := Nat.lt_log2_self
    have h2 : 2 ^ (n.log2 + 1) * 2 = 2 ^ (n.log2 + 2) := by rw [← Nat.pow_succ]
    have h3 : 2 ^ (n.log2 + 2) ≤ 2 ^ drop := Nat.pow_le_pow_right (by omega) (by omega)
    rw [Nat.div_eq_of_lt (by omega), Nat.div_eq_of_lt (by omega), Nat.mod_eq_of_lt (by omega), Nat.mod_eq_of_lt (by omega)]
    cases way
    · have e1 : ¬ 2 ^ (n.log2 + 2) < 2 * n := by omega
      have e2 : ¬ 2 ^ drop < 2 * n := by omega
      have e3 : ¬ 2 ^ (n.log2 + 2) = 2 * n := by omega
      have e4 : ¬ 2 ^ drop = 2 * n := by omega
      simp [mo, e1, e2, e3, e4]
    · rfl
    · rfl
    · rfl
  · rw [Nat.min_eq_left h]
theorem mo_scale (way : Toward) (neg : Bool) (low rest gap c : Nat) (hc : 0 < c) : mo way neg low (rest * c) (gap * c) = mo way neg low rest gap := by
  have e0 : (rest * c != 0) = (rest != 0) := by
    have : rest * c = 0 ↔ rest = 0 := ⟨fun h => by
      rcases Nat.eq_zero_or_pos rest with h1 | h1
      · exact h1
      · have := Nat.mul_pos h1 hc; omega, fun h => by rw [h, Nat.zero_mul]⟩
    rw [Bool.eq_iff_iff]; simp; omega
  have e1 : (gap * c < 2 * (rest * c)) ↔ gap < 2 * rest := by
    rw [← Nat.mul_assoc]; exact ⟨fun h => Nat.lt_of_mul_lt_mul_right h, fun h => Nat.mul_lt_mul_of_pos_right h hc⟩
  have e2 : (gap * c == 2 * (rest * c)) = (gap == 2 * rest) := by
    rw [← Nat.mul_assoc, Bool.eq_iff_iff]
    simp only [beq_iff_eq]
    exact ⟨fun h => Nat.eq_of_mul_eq_mul_right hc h, fun h => congrArg (· * c) h⟩
  unfold mo
  cases way <;> simp only [e0, e1, e2]
theorem mo_none (way : Toward) (neg : Bool) (low gap : Nat) (h : 0 < gap) : mo way neg low 0 gap = false := by
  unfold mo
  cases way <;> simp <;> omega
theorem integral_fin (way : Toward) {x : Nat} (hx : Fin x) : D.write ((D.read x).integral way) = D.word (sg x) (rr (cu way (sg x) (um (rg x)) * ONE)) ∧
    um (rr (cu way (sg x) (um (rg x)) * ONE)) = cu way (sg x) (um (rg x)) * ONE ∧ rr (cu way (sg x) (um (rg x)) * ONE) < 9218868437227405312 := by
  rw [read_fin hx, um_mk]
  obtain ⟨m, hm⟩ : ∃ m, mp (rg x) = m := ⟨_, rfl⟩
  obtain ⟨k, hk⟩ : ∃ k, kp (rg x) = k := ⟨_, rfl⟩
  have hml := mp_lt (rg x)
  have hkl := kp_le hx.2
  rw [hm] at hml ⊢
  rw [hk] at hkl ⊢
  generalize sg x = s
  unfold Datum.integral
  show D.nearest s (way.cut s (m <<< (-(K1 : Int) + (k : Nat)).toNat) (-(-(K1 : Int) + (k : Nat))).toNat) 0 = _ ∧ _
  rw [show (0 : Int) = -(K1 : Int) + (K1 : Nat) by omega, nearest_units, Nat.shiftLeft_eq, cut_way]
  have hK := K1_eq
  rcases Nat.lt_or_ge k K1 with h | h
  · obtain ⟨d, hd⟩ : ∃ d, K1 = d + k := ⟨K1 - k, by omega⟩
    have eO : ONE = 2 ^ d * 2 ^ k := by unfold ONE; rw [hd, Nat.pow_add]
    rw [show (-(K1 : Int) + (k : Nat)).toNat = 0 by omega, show (-(-(K1 : Int) + (k : Nat))).toNat = d by omega, Nat.pow_zero, Nat.mul_one]
    have e1 : cu way s (m * 2 ^ k) = m / 2 ^ d + (mo way s (m / 2 ^ d) (m % 2 ^ d) (2 ^ d)).toNat := by
      unfold cu
      rw [eO, Nat.mul_div_mul_right _ _ (Nat.two_pow_pos k), Nat.mul_mod_mul_right, mo_scale _ _ _ _ _ _ (Nat.two_pow_pos k)]
    rw [e1]
    refine ⟨rfl, ?_⟩
    obtain ⟨N, hN⟩ : ∃ N, m / 2 ^ d + (mo way s (m / 2 ^ d) (m % 2 ^ d) (2 ^ d)).toNat = N := ⟨_, rfl⟩
    rw [hN]
    have hN2 : N < 2 ^ 53 := by
      have hd1 : 2 ≤ 2 ^ d := by
        have : 2 ^ 1 ≤ 2 ^ d := Nat.pow_le_pow_right (by omega) (by omega)
        simpa using this
      have h1 : m / 2 ^ d ≤ m / 2 := Nat.div_le_div_left hd1 (by omega)
      have h2 : (mo way s (m / 2 ^ d) (m % 2 ^ d) (2 ^ d)).toNat ≤ 1 := by cases mo way s (m / 2 ^ d) (m % 2 ^ d) (2 ^ d) <;> simp
      rw [p53] at hml ⊢
      omega
    exact rr_exact N K1 hN2 (by omega)
  · rw [show (-(K1 : Int) + (k : Nat)).toNat = k - K1 by omega, show (-(-(K1 : Int) + (k : Nat))).toNat = 0 by omega, Nat.pow_zero, Nat.div_one, Nat.mod_one]
    have e0 : m * 2 ^ k = m * 2 ^ (k - K1) * ONE := by unfold ONE; rw [Nat.mul_assoc, ← Nat.pow_add, Nat.sub_add_cancel h]
    have e1 : cu way s (m * 2 ^ k) = m * 2 ^ (k - K1) := by
      unfold cu
      rw [e0, Nat.mul_div_cancel _ ONE_pos, Nat.mul_mod_left, mo_none _ _ _ _ ONE_pos, Bool.toNat_false, Nat.add_zero]
    rw [e1, mo_none _ _ _ _ (by omega), Bool.toNat_false, Nat.add_zero]
    refine ⟨by unfold ONE; rfl, ?_⟩
    rw [← e0]
    exact rr_exact m k hml hkl
/-- A double made whole. -/
def wh (way : Toward) (x : Nat) : Nat := D.write ((D.read x).integral way)
theorem wh_val (way : Toward) {x : Nat} (hx : Fin x) : Fin (wh way x) ∧ U (wh way x) = if sg x then -((cu way (sg x) (um (rg x)) * ONE : Nat) : Int) else ((cu way (sg x) (um (rg x)) * ONE : Nat) : Int) := by
  obtain ⟨h1, h2, h3⟩ := integral_fin way hx
  obtain ⟨h4, h5⟩ := word_fin (sg x) _ h3
  unfold wh
  rw [h1]
  exact ⟨h4, by rw [h5, h2]⟩

end Go.Proofs.Ytkfnllonahlfeaa.Rf
