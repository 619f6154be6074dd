/- The printed comparison of digits tells which integer is less. No condition beyond small lengths. -/
import Derived.Test.YtlhfmbpijcniaaaGreatWdMag
namespace Go.Proofs.YtlhfmbpijcniaaaGreat.WidemagDiv
open Go.RowKit Go.Proofs.YtlhfmbpijcniaaaGreat.PmagDiv Go.Proofs.YtlhfmbpijcniaaaGreatW.PrintWords Go.Proofs.YtlhfmbpijcniaaaGreatW.PrintLast Go.Proofs.YtlhfmbpijcniaaaGreatW.PrintMore

/-! ### comparing -/
def cmpI (x y : Int) : Int := if x < y then -1 else if y < x then 1 else 0
theorem magCmp_l (n : Nat) : ∀ (k : Nat) (a b : List Int), Dig a → Dig b → n ≤ a.length → a.length = b.length → a.length ≤ 1099511627776 → n < k → mag (a.drop n) = mag (b.drop n) →
    spec_magCmp.l0 k a b ((n : Int) - 1) = some (cmpI (mag a) (mag b)) := by
  induction n with
  | zero =>
    intro k a b ha hb hn hl hm hk he
    obtain ⟨k, rfl⟩ : ∃ m, k = m + 1 := ⟨k - 1, by omega⟩
    simp only [List.drop_zero] at he
    simp only [spec_magCmp.l0]
    rw [if_neg (by omega), he]
    simp [cmpI]
  | succ n ih =>
    intro k a b ha hb hn hl hm hk he
    obtain ⟨k, rfl⟩ : ∃ m, k = m + 1 := ⟨k - 1, by omega⟩
    have hi : ((n + 1 : Nat) : Int) - 1 = (n : Int) := by omega
    simp only [spec_magCmp.l0]
    rw [hi, if_pos (by omega), if_pos (by omega), if_pos (by omega), if_pos (by omega)]
    have a1 := mag_cut a n (by omega)
    have b1 := mag_cut b n (by omega)
    rw [mag_drop] at a1 b1
    have a2 := mag_lt (ha.take n)
    have b2 := mag_lt (hb.take n)
    have a3 := mag_nonneg (ha.take n)
    have b3 := mag_nonneg (hb.take n)
    rw [List.length_take, Nat.min_eq_left (by omega)] at a2 b2
    rw [he] at a1
    have key : ∀ x y : Int, x < y → pw n * (x + 4294967296 * mag (b.drop (n + 1))) + pw n ≤ pw n * (y + 4294967296 * mag (b.drop (n + 1))) := by
      intro x y hxy
      have h := Int.mul_le_mul_of_nonneg_left (show x + 1 + 4294967296 * mag (b.drop (n + 1)) ≤ y + 4294967296 * mag (b.drop (n + 1)) by omega) (show 0 ≤ pw n by have := pw_pos n; omega)
      have e : pw n * (x + 1 + 4294967296 * mag (b.drop (n + 1))) = pw n * (x + 4294967296 * mag (b.drop (n + 1))) + pw n := by
        rw [show x + 1 + 4294967296 * mag (b.drop (n + 1)) = (x + 4294967296 * mag (b.drop (n + 1))) + 1 by omega, Int.mul_add, Int.mul_one]
      rw [e] at h
      exact h
    by_cases h1 : rd a (n : Int) < rd b (n : Int)
    · rw [if_pos h1]
      have := key _ _ h1
      have : mag a < mag b := by omega
      simp [cmpI, this]
    · rw [if_neg h1]
      by_cases h2 : rd b (n : Int) < rd a (n : Int)
      · rw [if_pos h2]
        have := key _ _ h2
        have h3 : mag b < mag a := by omega
        have h4 : ¬ mag a < mag b := by omega
        simp [cmpI, h3, h4]
      · rw [if_neg h2, w64 _ (by omega)]
        refine ih k a b ha hb (by omega) hl hm (by omega) ?_
        rw [mag_drop a n, mag_drop b n, he]
        omega
theorem magCmp_f (k : Nat) (a b : List Int) (ha : Dig a) (hb : Dig b) (na : Nrm a) (nb : Nrm b) (hm : a.length ≤ 1099511627776) (hk : a.length < k) :
    spec_magCmp.f k a b = some (cmpI (mag a) (mag b)) := by
  unfold spec_magCmp.f
  by_cases hl : a.length = b.length
  · rw [if_pos (by omega), w64 _ (by omega)]
    exact magCmp_l a.length k a b ha hb (Nat.le_refl _) hl hm hk (by rw [List.drop_of_length_le (Nat.le_refl _), List.drop_of_length_le (by omega)])
  · rw [if_neg (by omega)]
    by_cases h2 : a.length < b.length
    · rw [if_pos (by omega)]
      have h : mag a < mag b := by
        rcases Int.lt_or_le (mag a) (mag b) with h | h
        · exact h
        · have := len_le_of_le hb ha nb h; omega
      simp [cmpI, h]
    · rw [if_neg (by omega)]
      have h : mag b < mag a := by
        rcases Int.lt_or_le (mag b) (mag a) with h | h
        · exact h
        · have := len_le_of_le ha hb na h; omega
      have h3 : ¬ mag a < mag b := by omega
      simp [cmpI, h, h3]

end Go.Proofs.YtlhfmbpijcniaaaGreat.WidemagDiv
