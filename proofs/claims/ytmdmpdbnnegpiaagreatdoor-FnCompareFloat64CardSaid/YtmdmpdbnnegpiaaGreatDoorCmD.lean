/- Bits that are told are what is due: the reference's own check. Plain. -/
import Derived.Test.YtmdmpdbnnegpiaaGreatDoorCmB
import Derived.Test.YtmdmpdbnnegpiaaGreatDoorPbitsDuex1
namespace Go.Proofs.YtmdmpdbnnegpiaaGreatDoor.Cmp
open Go.RowKit Go.Proofs.YtmdmpdbnnegpiaaGreatDoorW.PrintWords Go.Proofs.YtmdmpdbnnegpiaaGreatDoorW.PrintLast Go.Proofs.YtmdmpdbnnegpiaaGreatDoorW.PrintMore Go.Proofs.YtmdmpdbnnegpiaaGreatDoor.PbitsDue
set_option linter.unusedVariables false
set_option linter.unusedSimpArgs false

theorem wrap_small (x : Int) (h0 : 0 ≤ x) (h1 : x ≤ 1000000) : wrap64 x = x := by
  unfold wrap64
  omega
theorem bit_f (bs : List Int) (hb : Bytes bs) (i : Nat) (hi : i < 8 * bs.length) (hs : bs.length ≤ 1000) : spec_Bit.f bs i = some (bitAt bs i) := by
  have e1 : Int.tdiv (i : Int) 8 = ((i / 8 : Nat) : Int) := by rw [Int.tdiv_eq_ediv_of_nonneg (by omega)]; omega
  have e2 : Int.tmod (i : Int) 8 = ((i % 8 : Nat) : Int) := by rw [Int.tmod_eq_emod_of_nonneg (by omega)]; omega
  have e3 : wrap64 ((i / 8 : Nat) : Int) = ((i / 8 : Nat) : Int) := wrap_small _ (by omega) (by omega)
  unfold spec_Bit.f
  rw [e1, e2, e3, if_pos (by omega), if_pos (by omega), if_pos (by omega)]
  congr 1
  unfold bitAt rd
  rw [Int.toNat_natCast]
  obtain ⟨h0, h1⟩ := hb.at (i / 8)
  generalize bs.getD (i / 8) 0 = x at h0 h1 ⊢
  have hr : i % 8 < 8 := by omega
  generalize i % 8 = r at hr ⊢
  obtain ⟨a, rfl⟩ := Int.eq_ofNat_of_zero_le h0
  have ha : a < 2 ^ 8 := by omega
  have e4 : shr .u8 (a : Int) (r : Int) = ((a / 2 ^ r : Nat) : Int) := by
    unfold shr
    simp [IntKind.bits, Nat.min_eq_left (by omega : r ≤ 8)]
  have hq : a / 2 ^ r < 2 ^ 8 := Nat.lt_of_le_of_lt (Nat.div_le_self _ _) ha
  rw [e4, show (1 : Int) = ((1 : Nat) : Int) from rfl, and_nat .u8 8 (Nat.le_refl _) wraps_u8 _ 1 hq (by decide)]
  rw [Int.toNat_natCast, Nat.testBit_eq_decide_div_mod_eq, Nat.and_one_is_mod]
  by_cases h : a / 2 ^ r % 2 = 1
  · rw [h]; rfl
  · rw [show a / 2 ^ r % 2 = 0 by omega]; rfl
theorem due_l1 (bs bs' : List Int) (lo n : Nat) (f : Nat → Bool) (h : BitsAre bs bs' lo n f) (hn : lo + n ≤ 8 * bs.length) (hs : bs.length ≤ 1000) : ∀ (d j k : Nat), n - j = d → j ≤ n → d < k → laws_bitsDue.l1 k bs' lo ((List.range n).map f) (n : Int) (j : Int) = some true := by
  intro d
  induction d with
  | zero =>
    intro j k hd hj hk
    obtain ⟨k, rfl⟩ : ∃ k', k = k' + 1 := ⟨k - 1, by omega⟩
    rw [laws_bitsDue.l1, if_neg (by omega)]
  | succ d ih =>
    intro j k hd hj hk
    obtain ⟨k, rfl⟩ : ∃ k', k = k' + 1 := ⟨k - 1, by omega⟩
    rw [laws_bitsDue.l1, if_pos (by omega), if_pos (by omega), if_pos (by simp; omega)]
    have e1 : wrap64 ((lo : Int) + (j : Int)) = ((lo + j : Nat) : Int) := by rw [wrap_small _ (by omega) (by omega)]; omega
    have e2 : wrap64 ((j : Int) + 1) = ((j + 1 : Nat) : Int) := by rw [wrap_small _ (by omega) (by omega)]; omega
    rw [e1, bit_f bs' h.byt (lo + j) (by rw [h.len]; omega) (by rw [h.len]; exact hs), e2]
    have e3 : rdOf false ((List.range n).map f) (j : Int) = f j := by
      unfold rdOf
      rw [Int.toNat_natCast, List.getD_eq_getElem?_getD]
      simp [show j < n by omega]
    have e4 : bitAt bs' (lo + j) = f j := by rw [h.bit _ (by omega), if_pos (by omega)]; congr 1; omega
    rw [e3, e4]
    simp only [Option.bind_some, bne_self_eq_false, Bool.false_eq_true, if_false]
    exact ih (j + 1) k (by omega) (by omega) (by omega)
theorem due_l0 (bs bs' : List Int) (hb : Bytes bs) (lo n : Nat) (f : Nat → Bool) (h : BitsAre bs bs' lo n f) (hn : lo + n ≤ 8 * bs.length) (hs : bs.length ≤ 1000) : ∀ (d i k : Nat), lo - i = d → i ≤ lo → d + n + 1 < k → laws_bitsDue.l0 k bs bs' lo ((List.range n).map f) (i : Int) = some true := by
  intro d
  induction d with
  | zero =>
    intro i k hd hi hk
    obtain ⟨k, rfl⟩ : ∃ k', k = k' + 1 := ⟨k - 1, by omega⟩
    rw [laws_bitsDue.l0, if_neg (by omega)]
    have hl : (((List.range n).map f).length : Int) = (n : Int) := by simp
    rw [hl]
    exact due_l1 bs bs' lo n f h hn hs n 0 k rfl (Nat.zero_le _) (by omega)
  | succ d ih =>
    intro i k hd hi hk
    obtain ⟨k, rfl⟩ : ∃ k', k = k' + 1 := ⟨k - 1, by omega⟩
    rw [laws_bitsDue.l0, if_pos (by omega), bit_f bs hb i (by omega) hs, bit_f bs' h.byt i (by rw [h.len]; omega) (by rw [h.len]; exact hs)]
    have e2 : wrap64 ((i : Int) + 1) = ((i + 1 : Nat) : Int) := by rw [wrap_small _ (by omega) (by omega)]; omega
    have e4 : bitAt bs' i = bitAt bs i := by rw [h.bit _ (by omega), if_neg (by omega)]
    rw [e2, e4]
    simp only [Option.bind_some, bne_self_eq_false, Bool.false_eq_true, if_false]
    exact ih (i + 1) k (by omega) (by omega) (by omega)
theorem due_f (bs bs' : List Int) (hb : Bytes bs) (lo n : Nat) (f : Nat → Bool) (h : BitsAre bs bs' lo n f) (hn : lo + n ≤ 8 * bs.length) (hs : bs.length ≤ 1000) : laws_bitsDue.f (lo + n + 2) bs bs' lo ((List.range n).map f) = some true := by
  unfold laws_bitsDue.f
  rw [if_pos (by rw [h.len])]
  exact due_l0 bs bs' hb lo n f h hn hs lo 0 _ rfl (Nat.zero_le _) (by omega)

end Go.Proofs.YtmdmpdbnnegpiaaGreatDoor.Cmp
