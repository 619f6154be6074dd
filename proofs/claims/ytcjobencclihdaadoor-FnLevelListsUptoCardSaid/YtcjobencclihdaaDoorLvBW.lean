/- The writer of bits over the bits so far: Set, Clear, Next. -/
import Derived.Test.YtcjobencclihdaaDoorLvB
import Derived.Test.YtcjobencclihdaaDoorLvBP
namespace Go.Proofs.YtcjobencclihdaaDoor.Lv
open Go.RowKit Go.Proofs.YtcjobencclihdaaDoorW.PrintWords Go.Proofs.YtcjobencclihdaaDoorW.PrintLast Go.Proofs.YtcjobencclihdaaDoorW.PrintMore
set_option linter.unusedVariables false
set_option linter.unusedSimpArgs false

/-- A bit of a byte, as the reference tells it. -/
theorem byte_bit : ∀ r, r < 8 → ∀ x, x < 256 → ((bits .and .u8 (shr .u8 ((x : Nat) : Int) ((r : Nat) : Int)) 1) == 1) = (x / 2 ^ r % 2 == 1) := by decide +kernel
/-- The bits of bytes. -/
def bitAt (bs : List Int) (k : Nat) : Bool := (bits .and .u8 (shr .u8 (bs.getD (k / 8) 0) ((k % 8 : Nat) : Int)) 1) == 1
theorem bit_of (S : List Bool) (bs : List Int) (hb : Bs S bs) (hc : S.length % 8 = 0 ∨ bs.getD (S.length / 8) 0 = curB S) (k : Nat) (hk : k < S.length) : bitAt bs k = S.getD k false := by
  have key : ∀ l : List Bool, k % 8 < l.length → l.length ≤ 8 → l.getD (k % 8) false = S.getD k false → bs.getD (k / 8) 0 = (pk l : Int) → bitAt bs k = S.getD k false := by
    intro l hl hl8 h1 h2
    have hlt := pk_lt l
    have h8 : 2 ^ l.length ≤ 2 ^ 8 := Nat.pow_le_pow_right (by omega) hl8
    unfold bitAt
    rw [h2, byte_bit (k % 8) (Nat.mod_lt _ (by omega)) (pk l) (by omega), ← h1, Bool.eq_iff_iff, beq_iff_eq]
    exact pk_bit l (k % 8) hl
  by_cases h : k / 8 < S.length / 8
  · refine key ((S.drop (8 * (k / 8))).take 8) (by simp; omega) (by simp; omega) ?_ (hb.full _ h)
    simp only [List.getD_eq_getElem?_getD]
    rw [List.getElem?_take_of_lt (by omega), List.getElem?_drop, show 8 * (k / 8) + k % 8 = k by omega]
  · have e : k / 8 = S.length / 8 := by omega
    refine key (S.drop (8 * (S.length / 8))) (by simp; omega) (by simp; omega) ?_ ?_
    · simp only [List.getD_eq_getElem?_getD]
      rw [List.getElem?_drop, ← e, show 8 * (k / 8) + k % 8 = k by omega]
    · rw [e]
      rcases hc with hc | hc
      · omega
      · exact hc
theorem or_mask (S : List Bool) : bits .or .u8 (curB S) (maskB S) = curB S + maskB S := by
  obtain ⟨h1, h2, h3⟩ := cur_lt S
  have hr : S.length % 8 < 8 := Nat.mod_lt _ (by omega)
  unfold curB maskB at *
  generalize S.length % 8 = r at *
  generalize pk (S.drop (8 * (S.length / 8))) = x at *
  have hx : x < 2 ^ r := by omega
  have hx2 : x < 256 := by omega
  clear h1 h2 h3
  revert x
  rcases (show r = 0 ∨ r = 1 ∨ r = 2 ∨ r = 3 ∨ r = 4 ∨ r = 5 ∨ r = 6 ∨ r = 7 by omega) with rfl | rfl | rfl | rfl | rfl | rfl | rfl | rfl <;> decide
/-- The writer: the bits S are written, and the bit b if there is one. -/
structure Wr (w : World) (b q nb c : Nat) (pos len : Int) (S : List Bool) (cur : Int) (rest : List Value) (bs : List Int) : Prop where
  blk : WB w b (.slice (some ⟨q, 0, none⟩) nb c) pos len cur (maskB S) ((S.length / 8 : Nat) : Int)
  byt : W8 w q 5 rest bs
  ful : Bs S bs
  len : bs.length = nb
theorem Wr.step {w w1 : World} {b q nb c : Nat} {pos len : Int} {S : List Bool} {cur : Int} {rest : List Value} {bs : List Int} (h : Wr w b q nb c pos len S cur rest bs) (hb : w1.heap[b]? = w.heap[b]?) (hq : w1.heap[q]? = w.heap[q]?) : Wr w1 b q nb c pos len S cur rest bs :=
  ⟨⟨hb.trans h.blk.blk⟩, hq.trans h.byt, h.ful, h.len⟩
/-- What a call of the writer leaves. -/
def WrR (w : World) (b q nb c : Nat) (pos len : Int) (S : List Bool) (cur : Int) (rest : List Value) (e : Ending) (w' : World) : Prop := e = .returned (.tuple #[]) ∧ (∃ bs, Wr w' b q nb c pos len S cur rest bs) ∧ Two w w' b q
theorem wr_set (w : World) (b q nb c : Nat) (pos len : Int) (S : List Bool) (rest : List Value) (bs : List Int) (h : Wr w b q nb c pos len S (curB S) rest bs) :
    Calls Tryd.prog 53 #[.pointer (some ⟨b, 0, none⟩)] w (WrR w b q nb c pos len S (curB S + maskB S) rest) := by
  have hne : q ≠ b := fun e => by have h1 := h.blk.blk; have h2 : w.heap[q]? = _ := h.byt; rw [e, h1] at h2; simp at h2
  refine (set_fn w b _ _ _ _ _ _ h.blk).mono fun e w' => ?_
  rintro ⟨rfl, h1, h2⟩
  rw [or_mask] at h1
  exact ⟨rfl, ⟨bs, h1, (h2.block q (block_lt h.byt) (by simpa using hne)).trans h.byt, h.ful, h.len⟩, Two.of_grown h2 q⟩
theorem wr_clear (w : World) (b q nb c : Nat) (pos len : Int) (S : List Bool) (rest : List Value) (bs : List Int) (h : Wr w b q nb c pos len S (curB S) rest bs) :
    Calls Tryd.prog 48 #[.pointer (some ⟨b, 0, none⟩)] w (WrR w b q nb c pos len S (curB S) rest) := by
  refine (clear_fn w b).mono fun e w' => ?_
  rintro ⟨rfl, rfl⟩
  exact ⟨rfl, ⟨bs, h⟩, Two.refl _ _ _⟩
theorem wr_next (w : World) (b q nb c : Nat) (pos len : Int) (S : List Bool) (x : Bool) (rest : List Value) (bs : List Int) (h : Wr w b q nb c pos len S (curB S + x.toNat * maskB S) rest bs) (hr : S.length / 8 < nb) (hn : nb ≤ 1048576) (hp : 0 ≤ pos ∧ pos < 1000000000) :
    Calls Tryd.prog 50 #[.pointer (some ⟨b, 0, none⟩)] w (WrR w b q nb c (pos + 1) len (S ++ [x]) (curB (S ++ [x])) rest) := by
  have hne : q ≠ b := fun e => by have h1 := h.blk.blk; have h2 : w.heap[q]? = _ := h.byt; rw [e, h1] at h2; simp at h2
  have hq8 : S.length % 8 < 8 := Nat.mod_lt _ (by omega)
  have hm := mask_next (S.length % 8) hq8
  by_cases h7 : S.length % 8 < 7
  · obtain ⟨e1, e2, e3⟩ := low S x h7
    rw [if_pos h7] at hm
    have hm2 : maskB S * 2 % 256 = maskB (S ++ [x]) := by
      rw [e2]
      unfold maskB
      rw [hm, Nat.pow_succ]
      push_cast
      rfl
    have hm0 : maskB (S ++ [x]) ≠ 0 := by
      unfold maskB
      have : 0 < 2 ^ ((S ++ [x]).length % 8) := Nat.pow_pos (by omega)
      omega
    refine (next_low w b _ pos len _ _ _ _ h.blk hm2 hm0 hp).mono fun e w' => ?_
    rintro ⟨rfl, h1, h2⟩
    rw [← e1] at h1
    refine ⟨rfl, ⟨bs, by rw [e3]; exact h1, (h2.block q (block_lt h.byt) (by simpa using hne)).trans h.byt, low_full S x bs h7 h.ful, h.len⟩, Two.of_grown h2 q⟩
  · have h7' : S.length % 8 = 7 := by omega
    obtain ⟨e1, e2, e3, e4⟩ := high S x h7'
    rw [if_neg h7] at hm
    have hb := h.blk
    have hw := h.byt
    refine (next_high w b q nb c (S.length / 8) pos len _ (maskB S) rest bs hb hw (by rw [h.len]; omega) hr hn (by unfold maskB; exact hm) hp).mono fun e w' => ?_
    rintro ⟨rfl, h1, h2, h3⟩
    rw [e1]
    refine ⟨rfl, ⟨_, by rw [e2, e3]; exact h1, h2, high_full S x bs h7' (by rw [h.len]; exact hr) h.ful, by rw [List.length_set]; exact h.len⟩, h3⟩

end Go.Proofs.YtcjobencclihdaaDoor.Lv
