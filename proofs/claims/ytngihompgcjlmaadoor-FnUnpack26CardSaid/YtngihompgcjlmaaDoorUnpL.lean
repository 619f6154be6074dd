/- The reference's bits, told by the printed functions: numbers of w bits that are the data's bits are told to be unpacked. No condition beyond small lengths. -/
import Derived.Test.YtngihompgcjlmaaDoorUnpS
namespace Go.Proofs.YtngihompgcjlmaaDoor.Unp
open Go.RowKit Go.Proofs.YtngihompgcjlmaaDoorW.PrintWords Go.Proofs.YtngihompgcjlmaaDoorW.PrintLast Go.Proofs.YtngihompgcjlmaaDoorW.PrintMore Go.Proofs.YtngihompgcjlmaaDoor.Punpacked Go.Proofs.YtngihompgcjlmaaDoor.Plowest
set_option linter.unusedVariables false
set_option linter.unusedSimpArgs false

theorem w64 (x : Int) (h : -9223372036854775808 ≤ x ∧ x ≤ 9223372036854775807) : wrap64 x = x := by unfold wrap64; omega
theorem tdiv_nat (a b : Nat) : Int.tdiv (a : Int) (b : Int) = ((a / b : Nat) : Int) := by
  rw [Int.tdiv_eq_ediv_of_nonneg (by omega)]; exact (Int.natCast_ediv a b).symm
theorem tmod_nat (a b : Nat) : Int.tmod (a : Int) (b : Int) = ((a % b : Nat) : Int) := by
  rw [Int.tmod_eq_emod_of_nonneg (by omega)]; exact (Int.natCast_emod a b).symm
theorem byte_bit (x : Int) (j : Nat) (hj : j < 8) (hx : 0 ≤ x ∧ x ≤ 255) : Go.bits .and .u8 (shr .u8 x (j : Int)) 1 = x / 2 ^ j % 2 := by
  have hs : shr .u8 x (j : Int) = x / 2 ^ j := by
    unfold shr
    rw [Int.toNat_natCast, Nat.min_eq_left (by simp only [IntKind.bits]; omega)]
  have hp := p2_pos j
  have h0 : 0 ≤ x / 2 ^ j := Int.ediv_nonneg hx.1 (by omega)
  have h1 : x / 2 ^ j ≤ x := Int.ediv_le_self _ hx.1
  rw [hs]
  obtain ⟨n, hn⟩ := Int.eq_ofNat_of_zero_le h0
  rw [hn]
  have hn2 : n ≤ 255 := by omega
  have e1 : (BitVec.ofInt 8 (n : Int)).toNat = n := by
    rw [BitVec.ofInt_natCast, BitVec.toNat_ofNat]; exact Nat.mod_eq_of_lt (by omega)
  show IntKind.u8.wrap ((BitVec.ofInt 8 (n : Int) &&& BitVec.ofInt 8 1).toNat : Int) = _
  rw [BitVec.toNat_and, e1, show (BitVec.ofInt 8 1).toNat = 1 from rfl, Nat.and_one_is_mod, IntKind.wrap_u8]
  omega
theorem shl_bit (b : Int) (k : Nat) (hk : k ≤ 31) (hb : 0 ≤ b ∧ b ≤ 1) : shl .u64 b (k : Int) = b * 2 ^ k := by
  have hp := p2_pos k
  have h2 : (2 : Int) ^ k * 1 ≤ 2 ^ k * 2 ^ (31 - k) := Int.mul_le_mul_of_nonneg_left (p2_pos _) (by omega)
  rw [← p2_add, show k + (31 - k) = 31 by omega, Int.mul_one, show (2 : Int) ^ 31 = 2147483648 from rfl] at h2
  unfold shl
  rw [Int.toNat_natCast, Nat.min_eq_left (by simp only [IntKind.bits]; omega), IntKind.wrap_u64]
  refine Int.emod_eq_of_lt (Int.mul_nonneg hb.1 (by omega)) ?_
  rcases (show b = 0 ∨ b = 1 by omega) with h | h <;> subst h <;> omega

theorem rd_told (N : Int) (w i j : Nat) (h : j < 32) : rd (told N w i) (j : Int) = upTo N w i j := by
  rw [rd_at _ _ (by rw [told_len]; exact h)]
  simp [told]
theorem unpack_loop (w : Nat) (hw : 0 < w) (hw32 : w ≤ 32) (l : List Int) (hT : Byt l) (hl : l.length = 4 * w) (d : Nat) : ∀ (i k : Nat), i + d = 32 * w → d < k →
    spec_UnpackBits.l0 k l 0 (w : Int) 32 (told (num l) w i) (i : Int) = some (told (num l) w (32 * w), true) := by
  induction d with
  | zero =>
    intro i k hi hk
    obtain ⟨k, rfl⟩ : ∃ m, k = m + 1 := ⟨k - 1, by omega⟩
    obtain rfl : i = 32 * w := by omega
    simp only [spec_UnpackBits.l0]
    rw [w64 (32 * (w : Int)) (by omega), if_neg (by omega)]
  | succ d ih =>
    intro i k hi hk
    obtain ⟨k, rfl⟩ : ∃ m, k = m + 1 := ⟨k - 1, by omega⟩
    have hiw : i / w < 32 := Nat.div_lt_of_lt_mul (by rw [Nat.mul_comm]; omega)
    have g0 : (0 : Int) ≤ ((i / w : Nat) : Int) := Int.natCast_nonneg _
    have g1 : ((i / w : Nat) : Int) < 32 := by exact_mod_cast hiw
    have g2 : (0 : Int) ≤ ((i % w : Nat) : Int) := Int.natCast_nonneg _
    have hi8 : i / 8 < l.length := by omega
    have hm := Nat.mod_lt i hw
    have hbyte := rd_byte hT (i / 8)
    have hbit := num_bit hT i hi8
    have hbd := upTo_bd (num l) w i hw
    have hp := p2_pos (i % w)
    simp only [spec_UnpackBits.l0]
    rw [w64 (32 * (w : Int)) (by omega), if_pos (by omega), if_neg (by omega)]
    rw [tdiv_nat, tmod_nat, Int.zero_add, w64 (i : Int) (by omega)]
    rw [show (8 : Int) = ((8 : Nat) : Int) from rfl, tdiv_nat i 8, tmod_nat i 8]
    rw [w64 ((i / w : Nat) : Int) (by omega), w64 ((i / 8 : Nat) : Int) (by omega)]
    rw [if_pos (by omega), if_pos (by rw [told_len]; omega), if_pos (by omega), if_pos (by omega), if_pos (by omega), if_pos (by omega)]
    rw [byte_bit _ _ (Nat.mod_lt _ (by omega)) hbyte, rd_at l _ hi8, ← hbit]
    have h01 : 0 ≤ num l / 2 ^ i % 2 ∧ num l / 2 ^ i % 2 ≤ 1 := by omega
    rw [show IntKind.u64.wrap (num l / 2 ^ i % 2) = num l / 2 ^ i % 2 by rw [IntKind.wrap_u64]; omega, shl_bit _ _ (by omega) h01, rd_told _ _ _ _ hiw, Int.toNat_natCast]
    have hlt : upTo (num l) w i (i / w) + num l / 2 ^ i % 2 * 2 ^ (i % w) < 18446744073709551616 := by
      have h2 : (2 : Int) ^ (i % w) * 1 ≤ 2 ^ (i % w) * 2 ^ (31 - i % w) := Int.mul_le_mul_of_nonneg_left (p2_pos _) (by omega)
      rw [← p2_add, show i % w + (31 - i % w) = 31 by omega, Int.mul_one, show (2 : Int) ^ 31 = 2147483648 from rfl] at h2
      rcases (show num l / 2 ^ i % 2 = 0 ∨ num l / 2 ^ i % 2 = 1 by omega) with h | h <;> rw [h] <;> omega
    rw [or_u64 (i % w) _ _ hbd h01.1 hlt, told_step (num l) w i hw _ rfl, w64 ((i : Int) + 1) (by omega)]
    exact ih (i + 1) k (by omega) (by omega)
theorem unpack_f (w : Nat) (hw : 0 < w) (hw32 : w ≤ 32) (l : List Int) (hT : Byt l) (hl : l.length = 4 * w) (k : Nat) (hk : 32 * w < k) :
    spec_UnpackBits.f k l 0 (w : Int) 32 = some (told (num l) w (32 * w), true) := by
  have h := unpack_loop w hw hw32 l hT hl (32 * w) 0 k (by omega) hk
  rw [told_start] at h
  unfold spec_UnpackBits.f
  rw [w64 (32 * (w : Int)) (by omega), w64 (0 + 32 * (w : Int)) (by omega), w64 (8 * (l.length : Int)) (by omega), if_neg (by omega), if_pos (by omega), if_pos (by decide)]
  exact h
/-- All numbers of w bits that data have. -/
def unpacks (N : Int) (w : Nat) : List Int := (List.range 32).map fun j => bitsAt N (w * j) w
theorem rd_unpacks (N : Int) (w j : Nat) (h : j < 32) : rd (unpacks N w) (j : Int) = bitsAt N (w * j) w := by
  rw [rd_at _ _ (by simp [unpacks, h])]
  simp [unpacks]
theorem same_loop (w : Nat) (hw32 : w ≤ 32) (N : Int) (d : Nat) : ∀ (i k : Nat), i + d = 32 → d < k → laws_unpacked.l0 k (unpacks N w) (told N w (32 * w)) (i : Int) = some true := by
  induction d with
  | zero =>
    intro i k hi hk
    obtain ⟨k, rfl⟩ : ∃ m, k = m + 1 := ⟨k - 1, by omega⟩
    obtain rfl : i = 32 := by omega
    simp only [laws_unpacked.l0]
    rw [if_neg (by decide)]
  | succ d ih =>
    intro i k hi hk
    obtain ⟨k, rfl⟩ : ∃ m, k = m + 1 := ⟨k - 1, by omega⟩
    have e : rd (told N w (32 * w)) (i : Int) = bitsAt N (w * i) w := by
      rw [rd_told _ _ _ _ (by omega)]
      refine upTo_end _ _ _ _ ?_
      rw [Nat.mul_comm 32]
      exact Nat.mul_le_mul_left w (by omega)
    have hb : 0 ≤ bitsAt N (w * i) w ∧ bitsAt N (w * i) w < 18446744073709551616 := by
      unfold bitsAt
      have hp := p2_pos w
      have h2 : (2 : Int) ^ w * 1 ≤ 2 ^ w * 2 ^ (32 - w) := Int.mul_le_mul_of_nonneg_left (p2_pos _) (by omega)
      rw [← p2_add, show w + (32 - w) = 32 by omega, Int.mul_one, show (2 : Int) ^ 32 = 4294967296 from rfl] at h2
      have h3 := Int.emod_lt_of_pos (N / 2 ^ (w * i)) (show 0 < (2 : Int) ^ w by omega)
      exact ⟨Int.emod_nonneg _ (by omega), by omega⟩
    simp only [laws_unpacked.l0]
    rw [if_pos (by omega), if_pos (by omega), if_pos (by simp [unpacks]; omega), if_pos (by rw [told_len]; omega), rd_unpacks _ _ _ (by omega), e, IntKind.wrap_u64, Int.emod_eq_of_lt hb.1 hb.2, if_pos rfl, w64 ((i : Int) + 1) (by omega)]
    exact ih (i + 1) k (by omega) (by omega)
theorem unpacked_f (w : Nat) (hw : 0 < w) (hw32 : w ≤ 32) (l : List Int) (hT : Byt l) (hl : l.length = 4 * w) : laws_unpacked.f (32 * w + 100) l (w : Int) (unpacks (num l) w) true = some true := by
  unfold laws_unpacked.f
  rw [unpack_f w hw hw32 l hT hl _ (by omega)]
  simp only [Option.bind_some, if_true]
  rw [show 32 * w + 100 = (32 * w + 99) + 1 from rfl, laws_unpacked.j0, if_neg (by simp [unpacks])]
  exact same_loop w hw32 (num l) 32 0 _ (by omega) (by omega)
/-- So many bytes, the first one 1. -/
def low (n : Nat) : List Int := (List.replicate n 0).set 0 1
theorem low_len (n : Nat) : (low n).length = n := by simp [low]
theorem low_byt (n : Nat) : Byt (low n) := by
  intro b hb
  rcases List.mem_or_eq_of_mem_set hb with h | rfl
  · rw [List.mem_replicate] at h; omega
  · omega
theorem lowest_f (n : Nat) (h0 : 0 < n) (hn : n ≤ 1000) : laws_lowest.f (n : Int) = some (low n) := by
  unfold laws_lowest.f
  rw [if_pos (by omega), if_pos (by omega)]
  simp only [Option.bind_some, Int.toNat_natCast, List.length_replicate]
  rw [if_pos (by omega)]
  rfl

end Go.Proofs.YtngihompgcjlmaaDoor.Unp
