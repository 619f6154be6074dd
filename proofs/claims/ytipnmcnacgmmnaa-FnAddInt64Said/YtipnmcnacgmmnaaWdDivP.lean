/- Dividing bit by bit: what is left behind the bits from a place on. No condition. -/
import Derived.Test.YtipnmcnacgmmnaaWdSub
namespace Go.Proofs.Ytipnmcnacgmmnaa.WidemagDiv
open Go.RowKit Go.Proofs.Ytipnmcnacgmmnaa.PmagDiv Go.Proofs.YtipnmcnacgmmnaaW.PrintWords Go.Proofs.YtipnmcnacgmmnaaW.PrintLast Go.Proofs.YtipnmcnacgmmnaaW.PrintMore
set_option linter.unusedVariables false
set_option linter.unusedSimpArgs false

theorem bit_high (j : Nat) (hj : j < 32) (d X : Int) : (d + 4294967296 * X) / 2 ^ j % 2 = d / 2 ^ j % 2 := by
  have h : (4294967296 : Int) = 2 ^ j * (2 * 2 ^ (31 - j)) := by
    rw [← Int.mul_assoc, ← Int.pow_succ, ← Int.pow_add, show j + 1 + (31 - j) = 32 by omega]
    rfl
  have hp := two_pos j
  rw [h, Int.mul_assoc, Int.add_mul_ediv_left _ _ (by omega), Int.mul_assoc]
  omega
theorem mag_bit {l : List Int} (hd : Dig l) (n : Nat) (hn : n / 32 < l.length) : mag l / 2 ^ n % 2 = rd l ((n / 32 : Nat) : Int) / 2 ^ (n % 32) % 2 := by
  have hc := mag_cut l (n / 32) (by omega)
  have hlt := mag_lt (hd.take (n / 32))
  have h0 := mag_nonneg (hd.take (n / 32))
  rw [List.length_take, Nat.min_eq_left (by omega)] at hlt
  have hp := pw_pos (n / 32)
  have hdiv : mag l / pw (n / 32) = mag (l.drop (n / 32)) := by
    rw [hc, Int.add_mul_ediv_left _ _ (by omega), Int.ediv_eq_zero_of_lt h0 hlt, Int.zero_add]
  have hpow : (2 : Int) ^ n = pw (n / 32) * 2 ^ (n % 32) := by
    rw [two_pw, ← Int.pow_add]
    congr 1
    omega
  rw [hpow, ← Int.ediv_ediv_of_nonneg (by omega), hdiv, mag_drop, bit_high _ (Nat.mod_lt _ (by omega))]
theorem and_one (v : Int) (h : 0 ≤ v ∧ v ≤ 4294967295) : Go.bits .and .u32 v 1 = v % 2 := by
  obtain ⟨n, rfl⟩ := Int.eq_ofNat_of_zero_le h.1
  have h1 : (BitVec.ofInt 32 (n : Int)).toNat = n := by
    rw [BitVec.ofInt_natCast, BitVec.toNat_ofNat]; exact Nat.mod_eq_of_lt (by omega)
  show IntKind.u32.wrap ((BitVec.ofInt 32 (n : Int) &&& BitVec.ofInt 32 1).toNat : Int) = _
  rw [BitVec.toNat_and, h1, show (BitVec.ofInt 32 1).toNat = 1 from rfl, Nat.and_one_is_mod, IntKind.wrap_u32]
  omega
theorem bits_u32 (op : BinOp) (x y : Int) : 0 ≤ Go.bits op .u32 x y ∧ Go.bits op .u32 x y ≤ 4294967295 := by
  have h : ∀ z : Int, 0 ≤ IntKind.u32.wrap z ∧ IntKind.u32.wrap z ≤ 4294967295 := fun z => by rw [IntKind.wrap_u32]; omega
  unfold Go.bits
  exact h _
theorem step_mod (A B Q r s bit : Int) (hA : A = 2 * (B * Q + r) + bit) (hs : s = 2 * r + bit) : A % B = s % B := by
  have h : A = s + B * (2 * Q) := by
    rw [Int.mul_left_comm]
    omega
  rw [h, Int.add_mul_emod_self_left]

/-- What is left behind the bits from n on. -/
structure DivInv (a b r : List Int) (n : Nat) : Prop where
  dig : Dig r
  nrm : Nrm r
  val : mag r = mag a / 2 ^ n % mag b
theorem DivInv.start {a b : List Int} (ha : Dig a) : DivInv a b [] (32 * a.length) := by
  refine ⟨Dig.nil, .inl rfl, ?_⟩
  have hlt : mag a < 2 ^ (32 * a.length) := by rw [← two_pw]; exact mag_lt ha
  rw [Int.ediv_eq_zero_of_lt (mag_nonneg ha) hlt]
  simp [mag]
theorem DivInv.bound {a b r : List Int} {n : Nat} (h : DivInv a b r n) (hb0 : 0 < mag b) : 0 ≤ mag r ∧ mag r < mag b := ⟨mag_nonneg h.dig, by rw [h.val]; exact Int.emod_lt_of_pos _ hb0⟩
theorem DivInv.len {a b r : List Int} {n : Nat} (h : DivInv a b r n) (hb : Dig b) (hb0 : 0 < mag b) : r.length ≤ b.length := len_le_of_lt h.dig hb h.nrm (h.bound hb0).2
theorem DivInv.next {a b r : List Int} {n : Nat} (h : DivInv a b r (n + 1)) (hb0 : 0 < mag b) (s : Int) (hs : s = 2 * mag r + mag a / 2 ^ n % 2) : mag a / 2 ^ n % mag b = if mag b ≤ s then s - mag b else s := by
  have hdm := Int.mul_ediv_add_emod (mag a / 2 ^ (n + 1)) (mag b)
  obtain ⟨h0, h1⟩ := h.bound hb0
  rw [← h.val] at hdm
  have hnext : mag a / 2 ^ n = 2 * (mag a / 2 ^ (n + 1)) + mag a / 2 ^ n % 2 := by
    have hp := two_pos n
    rw [Int.pow_succ, ← Int.ediv_ediv_of_nonneg (by omega)]
    omega
  rw [step_mod (mag a / 2 ^ n) (mag b) (mag a / 2 ^ (n + 1) / mag b) (mag r) s (mag a / 2 ^ n % 2) (by rw [hdm]; exact hnext) hs]
  split
  · rw [← Int.sub_emod_right, Int.emod_eq_of_lt (by omega) (by omega)]
  · exact Int.emod_eq_of_lt (by omega) (by omega)
theorem DivInv.keep {a b r u : List Int} {n : Nat} (h : DivInv a b r (n + 1)) (hb0 : 0 < mag b) (hd : Dig u) (hn : Nrm u) (hm : mag u = 2 * mag r + mag a / 2 ^ n % 2) (hlt : ¬ mag b ≤ 2 * mag r + mag a / 2 ^ n % 2) : DivInv a b u n :=
  ⟨hd, hn, by rw [h.next hb0 _ rfl, if_neg hlt, hm]⟩
theorem DivInv.off {a b r v : List Int} {n : Nat} (h : DivInv a b r (n + 1)) (hb0 : 0 < mag b) (hd : Dig v) (hn : Nrm v) (hm : mag v = 2 * mag r + mag a / 2 ^ n % 2 - mag b) (hge : mag b ≤ 2 * mag r + mag a / 2 ^ n % 2) : DivInv a b v n :=
  ⟨hd, hn, by rw [h.next hb0 _ rfl, if_pos hge, hm]⟩
theorem bit_shift {a : List Int} (hd : Dig a) (n : Nat) (hn : n / 32 < a.length) : Go.bits .and .u32 (shr .u32 (rd a ((n / 32 : Nat) : Int)) ((n % 32 : Nat) : Int)) 1 = mag a / 2 ^ n % 2 := by
  have hx := rd_dig hd (n / 32)
  have hp := two_pos (n % 32)
  have hs : shr .u32 (rd a ((n / 32 : Nat) : Int)) ((n % 32 : Nat) : Int) = rd a ((n / 32 : Nat) : Int) / 2 ^ (n % 32) := by
    unfold shr
    rw [Int.toNat_natCast, Nat.min_eq_left (by simp only [IntKind.bits]; omega)]
  rw [hs, and_one _ ⟨Int.ediv_nonneg hx.1 (by omega), Int.le_trans (Int.ediv_le_self _ hx.1) hx.2⟩, ← mag_bit hd n hn]

end Go.Proofs.Ytipnmcnacgmmnaa.WidemagDiv
