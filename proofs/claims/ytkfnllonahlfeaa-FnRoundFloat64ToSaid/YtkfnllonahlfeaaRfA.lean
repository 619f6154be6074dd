/- Doubles as whole numbers of units (a unit: the least double above zero): reading, order, rounding. -/
import Derived.Laws.FloatArith
namespace Go.Proofs.Ytkfnllonahlfeaa.Rf
open Ieee
set_option linter.unusedVariables false
set_option linter.unusedSimpArgs false

abbrev D : Format := Ieee.double
def K1 : Nat := 1074
theorem K1_eq : K1 = 1074 := rfl
def ONE : Nat := 2 ^ K1
theorem ONE_pos : 0 < ONE := Nat.two_pow_pos _
theorem D_binade : D.binade = 4503599627370496 := by decide
theorem D_sw : D.signWeight = 9223372036854775808 := by decide
theorem D_inf : D.infRung = 9218868437227405312 := by decide
theorem D_least : D.leastPlace = -(K1 : Int) := by decide
theorem p52 : (2 : Nat) ^ 52 = 4503599627370496 := by decide
theorem p53 : (2 : Nat) ^ 53 = 2 * 4503599627370496 := by decide
def rg (x : Nat) : Nat := x % 9223372036854775808
def sg (x : Nat) : Bool := x / 9223372036854775808 % 2 == 1
def um (r : Nat) : Nat := if r < 4503599627370496 then r else (4503599627370496 + r % 4503599627370496) * 2 ^ (r / 4503599627370496 - 1)
def Fin (x : Nat) : Prop := x < 2 * 9223372036854775808 ∧ rg x < 9218868437227405312
def U (x : Nat) : Int := if sg x then -(um (rg x) : Int) else (um (rg x) : Int)
/-- The two parts of a magnitude. -/
def mp (r : Nat) : Nat := if r < 4503599627370496 then r else 4503599627370496 + r % 4503599627370496
def kp (r : Nat) : Nat := if r < 4503599627370496 then 0 else r / 4503599627370496 - 1
theorem um_mk (r : Nat) : um r = mp r * 2 ^ kp r := by
  unfold um mp kp
  split <;> simp
theorem mp_lt (r : Nat) : mp r < 2 ^ 53 := by
  rw [p53]; unfold mp
  split <;> omega
theorem kp_le {r : Nat} (h : r < 9218868437227405312) : kp r ≤ 2045 := by
  unfold kp
  split <;> omega
theorem mp_ge {r : Nat} (h : 4503599627370496 ≤ r) : 4503599627370496 ≤ mp r := by unfold mp; split <;> omega
theorem read_fin {x : Nat} (h : Fin x) : D.read x = .number (sg x) (mp (rg x)) (-(K1 : Int) + (kp (rg x) : Nat)) := by
  obtain ⟨h1, h2⟩ := h
  unfold Format.read
  simp only [D_binade, D_sw, D_inf, D_least]
  show (if x % 9223372036854775808 < 4503599627370496 then _ else _) = _
  unfold sg
  unfold mp kp rg at *
  by_cases hs : x % 9223372036854775808 < 4503599627370496
  · simp only [if_pos hs]
    simp
  · simp only [if_neg hs, if_pos h2]
/-! ### order -/
theorem sig_shl (s : Bool) (m a : Nat) : signed s m a = if s then -((m * 2 ^ a : Nat) : Int) else ((m * 2 ^ a : Nat) : Int) := by
  unfold signed
  rw [Nat.shiftLeft_eq]
def cmpI (a b : Int) : Ordering := if a < b then .lt else if a = b then .eq else .gt
theorem compare_int (a b : Int) : compare a b = cmpI a b := rfl
theorem cmpI_scale (a b : Int) (c : Nat) (hc : 0 < c) : cmpI (a * c) (b * c) = cmpI a b := by
  have hc' : (0 : Int) < c := by omega
  unfold cmpI
  have e1 : (a * c < b * c) ↔ a < b := ⟨fun h => Int.lt_of_mul_lt_mul_right h (by omega), fun h => Int.mul_lt_mul_of_pos_right h hc'⟩
  have e2 : (a * c = b * c) ↔ a = b := ⟨fun h => Int.eq_of_mul_eq_mul_right (by omega) h, fun h => by rw [h]⟩
  simp only [e1, e2]
theorem U_parts {x : Nat} : U x = if sg x then -((mp (rg x) * 2 ^ kp (rg x) : Nat) : Int) else ((mp (rg x) * 2 ^ kp (rg x) : Nat) : Int) := by
  unfold U
  rw [um_mk]
theorem sig_scale (s : Bool) (m a c : Nat) : signed s m a * ((2 ^ c : Nat) : Int) = if s then -((m * 2 ^ (a + c) : Nat) : Int) else ((m * 2 ^ (a + c) : Nat) : Int) := by
  rw [sig_shl, Nat.pow_add, ← Nat.mul_assoc]
  cases s
  · simp
  · simp [Int.neg_mul]
theorem order_fin {x y : Nat} (hx : Fin x) (hy : Fin y) : D.order x y = some (cmpI (U x) (U y)) := by
  unfold Format.order
  rw [read_fin hx, read_fin hy]
  unfold Datum.order
  dsimp only
  rw [compare_int]
  obtain ⟨k, hk⟩ : ∃ k, kp (rg x) = k := ⟨_, rfl⟩
  obtain ⟨l, hl⟩ : ∃ l, kp (rg y) = l := ⟨_, rfl⟩
  have hU := @U_parts x
  have hV := @U_parts y
  rw [hk] at hU ⊢
  rw [hl] at hV ⊢
  congr 1
  rw [← cmpI_scale _ _ (2 ^ min k l) (Nat.two_pow_pos _), sig_scale, sig_scale, hU, hV]
  rw [show (-(K1 : Int) + (k : Nat) - min (-(K1 : Int) + (k : Nat)) (-(K1 : Int) + (l : Nat))).toNat + min k l = k by omega]
  rw [show (-(K1 : Int) + (l : Nat) - min (-(K1 : Int) + (k : Nat)) (-(K1 : Int) + (l : Nat))).toNat + min k l = l by omega]
theorem lt_fin {x y : Nat} (hx : Fin x) (hy : Fin y) : (D.order x y == some .lt) = decide (U x < U y) := by
  rw [order_fin hx hy]; unfold cmpI
  by_cases h : U x < U y
  · simp [h]
  · by_cases h2 : U x = U y <;> simp [h, h2]
theorem eq_fin {x y : Nat} (hx : Fin x) (hy : Fin y) : (D.order x y == some .eq) = decide (U x = U y) := by
  rw [order_fin hx hy]; unfold cmpI
  by_cases h : U x < U y
  · have : U x ≠ U y := by omega
    simp [h, this]
  · by_cases h2 : U x = U y <;> simp [h, h2]
theorem gt_fin {x y : Nat} (hx : Fin x) (hy : Fin y) : (D.order x y == some .gt) = decide (U y < U x) := by
  rw [order_fin hx hy]; unfold cmpI
  by_cases h : U x < U y
  · have : ¬ U y < U x := by omega
    simp [h, this]
  · by_cases h2 : U x = U y
    · simp [h, h2]
    · have : U y < U x := by omega
      simp [h, h2, this]
/-! ### rounding -/
def cutE (u e : Nat) : Nat := u / 2 ^ e + (if 2 ^ e < 2 * (u % 2 ^ e) ∨ (2 ^ e = 2 * (u % 2 ^ e) ∧ u / 2 ^ e % 2 = 1) then 1 else 0)
def rr (u : Nat) : Nat := if u = 0 then 0 else min ((u.log2 - 52) * 4503599627370496 + cutE u (u.log2 - 52)) 9218868437227405312
theorem log2_eq {u l : Nat} (h1 : 2 ^ l ≤ u) (h2 : u < 2 ^ (l + 1)) : u.log2 = l := by
  have h0 : u ≠ 0 := by have := Nat.two_pow_pos l; omega
  have a := (Nat.le_log2 h0).2 h1
  have b := (Nat.log2_lt h0).2 h2
  omega
theorem log2_scale (m p : Nat) (h : m ≠ 0) : (m * 2 ^ p).log2 = m.log2 + p := by
  apply log2_eq
  · rw [Nat.pow_add]; exact Nat.mul_le_mul_right _ (Nat.log2_self_le h)
  · rw [show m.log2 + p + 1 = (m.log2 + 1) + p by omega, Nat.pow_add]
    exact Nat.mul_lt_mul_of_pos_right Nat.lt_log2_self (Nat.two_pow_pos _)
theorem cut_even (neg : Bool) (n drop : Nat) (h : drop ≤ n.log2 + 2) : Toward.even.cut neg n drop = cutE n drop := by
  unfold Toward.cut cutE
  simp only [Nat.min_eq_left h, Nat.shiftLeft_eq, Nat.one_mul]
  by_cases h1 : 2 ^ drop < 2 * (n % 2 ^ drop)
  · simp [h1]
  · by_cases h2 : 2 ^ drop = 2 * (n % 2 ^ drop)
    · by_cases h3 : n / 2 ^ drop % 2 = 1
      · rw [if_pos (.inr ⟨h2, h3⟩)]; simp [← h2, h3]
      · rw [if_neg (by rintro (h | ⟨_, h⟩); exact h1 h; exact h3 h)]; simp [← h2, h3]
    · rw [if_neg (by rintro (h | ⟨h, _⟩); exact h1 h; exact h2 h)]; simp [h1, h2]
theorem cutE_scale (m a p : Nat) : cutE (m * 2 ^ p) (a + p) = cutE m a := by
  unfold cutE
  have hp := Nat.two_pow_pos p
  rw [Nat.pow_add, Nat.mul_div_mul_right _ _ hp, Nat.mul_mod_mul_right]
  have e1 : (2 ^ a * 2 ^ p < 2 * (m % 2 ^ a * 2 ^ p)) ↔ 2 ^ a < 2 * (m % 2 ^ a) := by
    rw [← Nat.mul_assoc]; exact ⟨fun h => Nat.lt_of_mul_lt_mul_right h, fun h => Nat.mul_lt_mul_of_pos_right h hp⟩
  have e2 : (2 ^ a * 2 ^ p = 2 * (m % 2 ^ a * 2 ^ p)) ↔ 2 ^ a = 2 * (m % 2 ^ a) := by
    rw [← Nat.mul_assoc]; exact ⟨fun h => Nat.eq_of_mul_eq_mul_right hp h, fun h => congrArg (· * 2 ^ p) h⟩
  simp only [e1, e2]
theorem cutE_zero (u : Nat) : cutE u 0 = u := by
  unfold cutE
  simp [Nat.mod_one]
theorem cutE_exact (c e : Nat) : cutE (c * 2 ^ e) e = c := by
  have := cutE_scale c 0 e
  rw [Nat.zero_add, cutE_zero] at this
  exact this
theorem nearest_units (neg : Bool) (mag p : Nat) : D.nearest neg mag (-(K1 : Int) + (p : Nat)) = D.word neg (rr (mag * 2 ^ p)) := by
  unfold Format.nearest rr
  by_cases h0 : mag = 0
  · simp [h0]
  · have hu : mag * 2 ^ p ≠ 0 := Nat.mul_ne_zero h0 (by have := Nat.two_pow_pos p; omega)
    rw [if_neg h0, if_neg hu]
    simp only [D_least, D_binade, D_inf, log2_scale mag p h0]
    obtain ⟨l, hl⟩ : ∃ l, mag.log2 = l := ⟨_, rfl⟩
    rw [hl]
    have hf : (D.fractionBits : Int) = 52 := rfl
    rw [hf]
    have hm : max (-(K1 : Int) + (p : Nat) + (l : Nat) - 52) (-(K1 : Int)) = -(K1 : Int) + ((l + p - 52 : Nat) : Int) := by omega
    rw [hm]
    have e0 : (-(K1 : Int) + ((l + p - 52 : Nat) : Int) - -(K1 : Int)).toNat = l + p - 52 := by omega
    rw [e0]
    congr 2
    congr 1
    rcases Nat.lt_or_ge p (l + p - 52) with h | h
    · have e1 : (-(K1 : Int) + (p : Nat) - (-(K1 : Int) + ((l + p - 52 : Nat) : Int))).toNat = 0 := by omega
      have e2 : (-(K1 : Int) + ((l + p - 52 : Nat) : Int) - (-(K1 : Int) + (p : Nat))).toNat = l - 52 := by omega
      rw [e1, e2, Nat.shiftLeft_zero, cut_even _ _ _ (by omega), show l + p - 52 = (l - 52) + p by omega, cutE_scale]
    · have e1 : (-(K1 : Int) + (p : Nat) - (-(K1 : Int) + ((l + p - 52 : Nat) : Int))).toNat = p - (l + p - 52) := by omega
      have e2 : (-(K1 : Int) + ((l + p - 52 : Nat) : Int) - (-(K1 : Int) + (p : Nat))).toNat = 0 := by omega
      rw [e1, e2, cut_even _ _ _ (by omega), cutE_zero, Nat.shiftLeft_eq]
      have := cutE_exact (mag * 2 ^ (p - (l + p - 52))) (l + p - 52)
      rw [Nat.mul_assoc, ← Nat.pow_add, Nat.sub_add_cancel h] at this
      exact this.symm
/-- What is a whole number of few digits stays as it is. -/
theorem rr_exact (M k : Nat) (hM : M < 2 ^ 53) (hk : k ≤ 2045) : um (rr (M * 2 ^ k)) = M * 2 ^ k ∧ rr (M * 2 ^ k) < 9218868437227405312 := by
  obtain ⟨u, hu⟩ : ∃ u, M * 2 ^ k = u := ⟨_, rfl⟩
  rw [hu]
  by_cases h0 : u = 0
  · subst h0; simp [rr, um]
  · unfold rr
    rw [if_neg h0]
    obtain ⟨e, he⟩ : ∃ e, u.log2 - 52 = e := ⟨_, rfl⟩
    rw [he]
    have hlt : u < 2 ^ (53 + k) := by rw [← hu, Nat.pow_add]; exact Nat.mul_lt_mul_of_pos_right hM (Nat.two_pow_pos _)
    have hl := (Nat.log2_lt h0).2 hlt
    have hek : e ≤ k := by omega
    obtain ⟨c, hc⟩ : ∃ c, u = c * 2 ^ e := ⟨M * 2 ^ (k - e), by rw [Nat.mul_assoc, ← Nat.pow_add, Nat.sub_add_cancel hek, hu]⟩
    have hlo := Nat.log2_self_le h0
    have hhi := @Nat.lt_log2_self u
    have hc1 : c < 2 ^ 53 := by
      have h1 : u < 2 ^ (53 + e) := Nat.lt_of_lt_of_le hhi (Nat.pow_le_pow_right (by omega) (by omega))
      rw [hc, Nat.pow_add] at h1
      exact Nat.lt_of_mul_lt_mul_right h1
    have hc2 : 0 < e → 4503599627370496 ≤ c := by
      intro hpos
      have h1 : 2 ^ (52 + e) ≤ u := Nat.le_trans (Nat.pow_le_pow_right (by omega) (by omega)) hlo
      rw [hc, Nat.pow_add, p52] at h1
      exact Nat.le_of_mul_le_mul_right h1 (Nat.two_pow_pos _)
    rw [p53] at hc1
    have hcut : cutE u e = c := by rw [hc]; exact cutE_exact c e
    rw [hcut, Nat.min_eq_left (by omega)]
    refine ⟨?_, by omega⟩
    unfold um
    rcases Nat.eq_zero_or_pos e with h | h
    · subst h
      rw [Nat.pow_zero, Nat.mul_one] at hc
      split
      · omega
      · rw [show (0 * 4503599627370496 + c) / 4503599627370496 - 1 = 0 by omega, Nat.pow_zero]; omega
    · have h2 := hc2 h
      rw [if_neg (by omega), show (e * 4503599627370496 + c) / 4503599627370496 - 1 = e by omega, show 4503599627370496 + (e * 4503599627370496 + c) % 4503599627370496 = c by omega, hc]
theorem rr_um {r : Nat} (h : r < 9218868437227405312) : rr (um r) = r := by
  unfold um
  split
  · rename_i hs
    unfold rr
    by_cases h0 : r = 0
    · simp [h0]
    · rw [if_neg h0]
      have hl := (Nat.log2_lt h0).2 (show r < 2 ^ 52 by rw [p52]; exact hs)
      rw [show r.log2 - 52 = 0 by omega, cutE_zero]
      omega
  · rename_i hs
    obtain ⟨k, hk⟩ : ∃ k, r / 4503599627370496 - 1 = k := ⟨_, rfl⟩
    obtain ⟨c, hc⟩ : ∃ c, 4503599627370496 + r % 4503599627370496 = c := ⟨_, rfl⟩
    rw [hk, hc]
    have hu : c * 2 ^ k ≠ 0 := Nat.mul_ne_zero (by omega) (by have := Nat.two_pow_pos k; omega)
    unfold rr
    rw [if_neg hu, log2_scale c k (by omega), show c.log2 = 52 from log2_eq (by rw [p52]; omega) (by rw [show 52 + 1 = 53 from rfl, p53]; omega), show 52 + k - 52 = k by omega, cutE_exact]
    omega
theorem um_inj {r t : Nat} (hr : r < 9218868437227405312) (ht : t < 9218868437227405312) (h : um r = um t) : r = t := by rw [← rr_um hr, ← rr_um ht, h]
/-! ### words -/
theorem word_parts (neg : Bool) (r : Nat) (h : r < 9223372036854775808) : D.word neg r < 2 * 9223372036854775808 ∧ sg (D.word neg r) = neg ∧ rg (D.word neg r) = r := by
  unfold Format.word sg rg
  rw [D_sw]
  cases neg
  · simp
    refine ⟨by omega, by omega, by omega⟩
  · simp
    refine ⟨by omega, by omega, by omega⟩
theorem word_fin (neg : Bool) (r : Nat) (h : r < 9218868437227405312) : Fin (D.word neg r) ∧ U (D.word neg r) = if neg then -(um r : Int) else (um r : Int) := by
  obtain ⟨h1, h2, h3⟩ := word_parts neg r (by omega)
  exact ⟨⟨h1, by rw [h3]; exact h⟩, by unfold U; rw [h2, h3]⟩
theorem word_eta {x : Nat} (h : x < 2 * 9223372036854775808) : D.word (sg x) (rg x) = x := by
  unfold Format.word sg rg
  rw [D_sw]
  by_cases hs : x / 9223372036854775808 % 2 = 1
  · simp [hs]; omega
  · simp [hs]; omega
theorem U_inj {x y : Nat} (hx : Fin x) (hy : Fin y) (h : U x = U y) (h0 : U x ≠ 0) : x = y := by
  rw [← word_eta hx.1, ← word_eta hy.1]
  unfold U at h h0
  cases hs : sg x <;> cases ht : sg y <;> simp [hs, ht] at h h0
  · rw [um_inj hx.2 hy.2 (by omega)]
  · omega
  · omega
  · rw [um_inj hx.2 hy.2 (by omega)]
theorem U_abs (x : Nat) : (U x).natAbs = um (rg x) := by unfold U; split <;> omega
theorem U_neg {x : Nat} (h : U x ≠ 0) : sg x = decide (U x < 0) := by
  unfold U at *
  cases hs : sg x <;> simp [hs] at h ⊢ <;> omega

end Go.Proofs.Ytkfnllonahlfeaa.Rf
