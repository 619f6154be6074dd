/- Bytes as a number, the lowest first; the bits of it from a place on; words of 32 bits of it. No condition. -/
import Derived.WalkKit
namespace Go.Proofs.YtngihompgcjlmaaDoor.Unp

/-- The number that bytes are, the lowest first. -/
def num : List Int → Int
  | [] => 0
  | b :: l => b + 256 * num l
def Byt (l : List Int) : Prop := ∀ b ∈ l, 0 ≤ b ∧ b ≤ 255
theorem Byt.cons {d : Int} {l : List Int} (h : Byt (d :: l)) : (0 ≤ d ∧ d ≤ 255) ∧ Byt l := ⟨h d List.mem_cons_self, fun x hx => h x (List.mem_cons_of_mem _ hx)⟩
theorem Byt.drop {a : List Int} (h : Byt a) (i : Nat) : Byt (a.drop i) := fun x hx => h x (List.mem_of_mem_drop hx)
theorem num_nonneg {l : List Int} (h : Byt l) : 0 ≤ num l := by
  induction l with
  | nil => exact Int.le_refl 0
  | cons d l ih => have := ih h.cons.2; have := h.cons.1; simp only [num]; omega
theorem p2_pos (n : Nat) : 1 ≤ (2 : Int) ^ n := by
  induction n with
  | zero => simp
  | succ n ih => rw [Int.pow_succ]; omega
theorem p2_add (m n : Nat) : (2 : Int) ^ (m + n) = 2 ^ m * 2 ^ n := Int.pow_add ..
theorem num_drop {l : List Int} (h : Byt l) : ∀ k : Nat, num l / 2 ^ (8 * k) = num (l.drop k) := by
  intro k
  induction k generalizing l with
  | zero => simp
  | succ k ih =>
    cases l with
    | nil => simp [num]
    | cons b l =>
      have hb := h.cons.1
      have h1 := ih h.cons.2
      rw [List.drop_succ_cons, ← h1, show 8 * (k + 1) = 8 + 8 * k by omega, p2_add, ← Int.ediv_ediv_of_nonneg (by decide)]
      congr 1
      simp only [num]
      omega
/-- The word of 32 bits that stands at a place. -/
def word (N : Int) (m : Nat) : Int := N / 2 ^ (32 * m) % 4294967296
theorem word_bd (N : Int) (m : Nat) : 0 ≤ word N m ∧ word N m ≤ 4294967295 := by unfold word; omega
theorem word_four {l : List Int} (h : Byt l) (m : Nat) (a b c d : Int) (t : List Int) (hd : l.drop (4 * m) = a :: b :: c :: d :: t) : word (num l) m = a + 256 * b + 65536 * c + 16777216 * d := by
  have hB := h.drop (4 * m)
  rw [hd] at hB
  have h1 := hB.cons.1
  have h2 := hB.cons.2.cons.1
  have h3 := hB.cons.2.cons.2.cons.1
  have h4 := hB.cons.2.cons.2.cons.2.cons.1
  unfold word
  rw [show 32 * m = 8 * (4 * m) by omega, num_drop h, hd]
  simp only [num]
  omega
/-- So many bits from a place on. -/
def bitsAt (N : Int) (from_ w : Nat) : Int := N / 2 ^ from_ % 2 ^ w
theorem low_bits (M : Int) (s w : Nat) (h : s + w ≤ 32) : M / 2 ^ s % 2 ^ w = M % 4294967296 / 2 ^ s % 2 ^ w := by
  have hm : M = M % 4294967296 + 4294967296 * (M / 4294967296) := by omega
  have e : (4294967296 : Int) = 2 ^ s * (2 ^ w * 2 ^ (32 - s - w)) := by
    rw [← p2_add, ← p2_add, show s + (w + (32 - s - w)) = 32 by omega]; rfl
  have hp := p2_pos s
  conv => lhs; rw [hm]
  generalize M / 4294967296 = q
  generalize M % 4294967296 = r
  rw [e, Int.mul_assoc, Int.add_mul_ediv_left _ _ (by omega), Int.mul_assoc, Int.add_mul_emod_self_left]
theorem split_bits (M : Int) (s w t : Nat) (hs : s < 32) (ht : s + w = 32 + t) (ht32 : t ≤ 32) : M / 2 ^ s % 2 ^ w = M % 4294967296 / 2 ^ s + M / 4294967296 % 4294967296 % 2 ^ t * 2 ^ (32 - s) := by
  have hm : M = M % 4294967296 + 4294967296 * (M / 4294967296) := by omega
  have hr : 0 ≤ M % 4294967296 ∧ M % 4294967296 < 4294967296 := by omega
  have e : (4294967296 : Int) = 2 ^ s * 2 ^ (32 - s) := by
    rw [← p2_add, show s + (32 - s) = 32 by omega]; rfl
  have e2 : (2 : Int) ^ w = 2 ^ (32 - s) * 2 ^ t := by rw [← p2_add]; congr 1; omega
  have e3 : (4294967296 : Int) = 2 ^ t * 2 ^ (32 - t) := by
    rw [← p2_add, show t + (32 - t) = 32 by omega]; rfl
  have hp := p2_pos s
  have hp1 := p2_pos (32 - s)
  have hp2 := p2_pos t
  have hlow : M / 4294967296 % 4294967296 % 2 ^ t = M / 4294967296 % 2 ^ t := by
    rw [Int.emod_emod_of_dvd]
    exact ⟨2 ^ (32 - t), e3⟩
  rw [hlow]
  conv => lhs; rw [hm]
  generalize M / 4294967296 = q at *
  generalize M % 4294967296 = r at *
  have hd : (r + 4294967296 * q) / 2 ^ s = r / 2 ^ s + 2 ^ (32 - s) * q := by
    rw [e, Int.mul_assoc, Int.add_mul_ediv_left _ _ (by omega)]
  have hrs : 0 ≤ r / 2 ^ s ∧ r / 2 ^ s < 2 ^ (32 - s) := by
    refine ⟨Int.ediv_nonneg hr.1 (by omega), Int.ediv_lt_of_lt_mul (by omega) ?_⟩
    rw [Int.mul_comm, ← e]; exact hr.2
  rw [hd, e2]
  have hq : q = q % 2 ^ t + 2 ^ t * (q / 2 ^ t) := (Int.emod_add_mul_ediv q (2 ^ t)).symm
  have hqt : 0 ≤ q % 2 ^ t ∧ q % 2 ^ t < 2 ^ t := ⟨Int.emod_nonneg _ (by omega), Int.emod_lt_of_pos _ (by omega)⟩
  conv => lhs; rw [hq]
  rw [Int.mul_add, ← Int.mul_assoc (2 ^ (32 - s)) (2 ^ t), ← Int.add_assoc, Int.add_mul_emod_self_left, Int.mul_comm (q % 2 ^ t)]
  refine Int.emod_eq_of_lt (Int.add_nonneg hrs.1 (Int.mul_nonneg (by omega) hqt.1)) ?_
  have h1 : 2 ^ (32 - s) * (q % 2 ^ t) ≤ (2 : Int) ^ (32 - s) * (2 ^ t - 1) := Int.mul_le_mul_of_nonneg_left (by omega) (by omega)
  rw [Int.mul_sub, Int.mul_one] at h1
  omega
theorem word_next (N : Int) (m : Nat) : word N (m + 1) = N / 2 ^ (32 * m) / 4294967296 % 4294967296 := by
  unfold word
  rw [show 32 * (m + 1) = 32 * m + 32 by omega, p2_add, ← Int.ediv_ediv_of_nonneg (by have := p2_pos (32 * m); omega)]
  rfl
theorem at_from (N : Int) (m s : Nat) : N / 2 ^ (32 * m + s) = N / 2 ^ (32 * m) / 2 ^ s := by
  rw [p2_add, ← Int.ediv_ediv_of_nonneg (by have := p2_pos (32 * m); omega)]
/-- Bits that lie within a word. -/
theorem in_word (N : Int) (j m s w : Nat) (hj : j = 32 * m + s) (h : s + w ≤ 32) : bitsAt N j w = word N m / 2 ^ s % 2 ^ w := by
  subst hj
  unfold bitsAt word
  rw [at_from, low_bits _ _ _ h]
theorem end_word (N : Int) (j m s w : Nat) (hj : j = 32 * m + s) (h : s + w = 32) : bitsAt N j w = word N m / 2 ^ s := by
  rw [in_word N j m s w hj (by omega)]
  have hb := word_bd N m
  have hp := p2_pos s
  have e : (4294967296 : Int) = 2 ^ w * 2 ^ s := by rw [← p2_add, show w + s = 32 by omega]; rfl
  refine Int.emod_eq_of_lt (Int.ediv_nonneg hb.1 (by omega)) (Int.ediv_lt_of_lt_mul (by omega) ?_)
  rw [← e]; omega
/-- Bits that lie in two words. -/
theorem two_words (N : Int) (j m s w t : Nat) (hj : j = 32 * m + s) (hs : s < 32) (ht : s + w = 32 + t) (h : t ≤ 32) : bitsAt N j w = word N m / 2 ^ s + word N (m + 1) % 2 ^ t * 2 ^ (32 - s) := by
  subst hj
  unfold bitsAt
  rw [at_from, split_bits _ s w t hs ht h, word_next]
  rfl
theorem emod_two (N : Int) (a b : Nat) : N % 2 ^ (a + b) = N % 2 ^ a + 2 ^ a * (N / 2 ^ a % 2 ^ b) := by
  have ha := p2_pos a
  have hb := p2_pos b
  have h1 : N = N % 2 ^ a + 2 ^ a * (N / 2 ^ a) := (Int.emod_add_mul_ediv N (2 ^ a)).symm
  have h2 : N / 2 ^ a = N / 2 ^ a % 2 ^ b + 2 ^ b * (N / 2 ^ a / 2 ^ b) := (Int.emod_add_mul_ediv _ (2 ^ b)).symm
  have hr : 0 ≤ N % 2 ^ a ∧ N % 2 ^ a < 2 ^ a := ⟨Int.emod_nonneg _ (by omega), Int.emod_lt_of_pos _ (by omega)⟩
  have hq : 0 ≤ N / 2 ^ a % 2 ^ b ∧ N / 2 ^ a % 2 ^ b < 2 ^ b := ⟨Int.emod_nonneg _ (by omega), Int.emod_lt_of_pos _ (by omega)⟩
  have h3 : N = N % 2 ^ a + 2 ^ a * (N / 2 ^ a % 2 ^ b) + 2 ^ (a + b) * (N / 2 ^ a / 2 ^ b) := by
    conv => lhs; rw [h1, h2]
    rw [p2_add, Int.mul_add, Int.mul_assoc, Int.add_assoc]
  conv => lhs; rw [h3]
  rw [Int.add_mul_emod_self_left]
  refine Int.emod_eq_of_lt (Int.add_nonneg hr.1 (Int.mul_nonneg (by omega) hq.1)) ?_
  have h4 : (2 : Int) ^ a * (N / 2 ^ a % 2 ^ b) ≤ 2 ^ a * (2 ^ b - 1) := Int.mul_le_mul_of_nonneg_left (by omega) (by omega)
  rw [Int.mul_sub, Int.mul_one, ← p2_add] at h4
  omega
/-- Number j of those of w bits, as far as i bits tell. -/
def upTo (N : Int) (w i j : Nat) : Int := N % 2 ^ (min i (w * (j + 1))) / 2 ^ (w * j)
theorem upTo_end (N : Int) (w j i : Nat) (h : w * (j + 1) ≤ i) : upTo N w i j = bitsAt N (w * j) w := by
  unfold upTo bitsAt
  rw [Nat.min_eq_right h, Nat.mul_succ, emod_two]
  have hp := p2_pos (w * j)
  rw [Int.add_mul_ediv_left _ _ (by omega), Int.ediv_eq_zero_of_lt (Int.emod_nonneg _ (by omega)) (Int.emod_lt_of_pos _ (by omega)), Int.zero_add]
theorem upTo_none (N : Int) (w j i : Nat) (h : i ≤ w * j) : upTo N w i j = 0 := by
  unfold upTo
  have h1 : i ≤ w * (j + 1) := by rw [Nat.mul_succ]; omega
  rw [Nat.min_eq_left h1]
  have hp := p2_pos i
  have h2 : (2 : Int) ^ i * 1 ≤ 2 ^ i * 2 ^ (w * j - i) := Int.mul_le_mul_of_nonneg_left (p2_pos _) (by omega)
  rw [← p2_add, show i + (w * j - i) = w * j by omega, Int.mul_one] at h2
  have h3 := Int.emod_lt_of_pos N (show 0 < (2 : Int) ^ i by omega)
  exact Int.ediv_eq_zero_of_lt (Int.emod_nonneg _ (by omega)) (by omega)
theorem upTo_bd (N : Int) (w i : Nat) (hw : 0 < w) : 0 ≤ upTo N w i (i / w) ∧ upTo N w i (i / w) < 2 ^ (i % w) := by
  have hi : i = w * (i / w) + i % w := (Nat.div_add_mod i w).symm
  have hm := Nat.mod_lt i hw
  unfold upTo
  rw [Nat.min_eq_left (by rw [Nat.mul_succ]; omega)]
  have hp := p2_pos (w * (i / w))
  have hp2 := p2_pos i
  refine ⟨Int.ediv_nonneg (Int.emod_nonneg _ (by omega)) (by omega), Int.ediv_lt_of_lt_mul (by omega) ?_⟩
  rw [← p2_add, show i % w + w * (i / w) = i by omega]
  exact Int.emod_lt_of_pos _ (by omega)
theorem upTo_this (N : Int) (w i : Nat) (hw : 0 < w) : upTo N w (i + 1) (i / w) = upTo N w i (i / w) + N / 2 ^ i % 2 * 2 ^ (i % w) := by
  have hi : i = w * (i / w) + i % w := (Nat.div_add_mod i w).symm
  have hm := Nat.mod_lt i hw
  have hp := p2_pos (w * (i / w))
  unfold upTo
  rw [Nat.min_eq_left (by rw [Nat.mul_succ]; omega), Nat.min_eq_left (by rw [Nat.mul_succ]; omega), emod_two N i 1]
  have e : (2 : Int) ^ i = 2 ^ (w * (i / w)) * 2 ^ (i % w) := by rw [← p2_add, ← hi]
  conv => lhs; rw [show (2 : Int) ^ i * (N / 2 ^ i % 2 ^ 1) = 2 ^ (w * (i / w)) * (2 ^ (i % w) * (N / 2 ^ i % 2 ^ 1)) by rw [← Int.mul_assoc, ← e]]
  rw [Int.add_mul_ediv_left _ _ (by omega), Int.mul_comm (2 ^ (i % w)), show (2 : Int) ^ 1 = 2 from rfl]
theorem upTo_other (N : Int) (w i j : Nat) (hw : 0 < w) (h : j ≠ i / w) : upTo N w (i + 1) j = upTo N w i j := by
  have hi : i = w * (i / w) + i % w := (Nat.div_add_mod i w).symm
  have hm := Nat.mod_lt i hw
  rcases Nat.lt_or_ge j (i / w) with hlt | hge
  · have h1 : w * (j + 1) ≤ w * (i / w) := Nat.mul_le_mul_left w hlt
    rw [upTo_end _ _ _ _ (by omega), upTo_end _ _ _ _ (by omega)]
  · have h1 : w * (i / w + 1) ≤ w * j := Nat.mul_le_mul_left w (by omega)
    rw [Nat.mul_succ] at h1
    rw [upTo_none _ _ _ _ (by omega), upTo_none _ _ _ _ (by omega)]
def told (N : Int) (w i : Nat) : List Int := (List.range 32).map (upTo N w i)
theorem told_len (N : Int) (w i : Nat) : (told N w i).length = 32 := by simp [told]
theorem told_at (N : Int) (w i j : Nat) (h : j < 32) : (told N w i).getD j 0 = upTo N w i j := by
  simp [told, List.getD_eq_getElem?_getD, List.getElem?_map, List.getElem?_range h]
theorem told_start (N : Int) (w : Nat) : told N w 0 = List.replicate 32 0 := by
  apply List.ext_getElem
  · simp [told]
  · intro j h1 h2
    simp only [told, List.getElem_map, List.getElem_range, List.getElem_replicate]
    exact upTo_none _ _ _ _ (Nat.zero_le _)
theorem told_step (N : Int) (w i : Nat) (hw : 0 < w) (y : Int) (hy : y = upTo N w i (i / w) + N / 2 ^ i % 2 * 2 ^ (i % w)) : (told N w i).set (i / w) y = told N w (i + 1) := by
  subst hy
  apply List.ext_getElem
  · simp [told]
  · intro j h1 h2
    rw [List.getElem_set]
    simp only [told, List.getElem_map, List.getElem_range]
    split
    · rename_i h
      rw [← h, upTo_this N w i hw]
    · rename_i h
      exact (upTo_other N w i j hw (fun e => h e.symm)).symm
theorem told_end (N : Int) (w : Nat) : told N w (32 * w) = (List.range 32).map (fun j => bitsAt N (w * j) w) := by
  apply List.ext_getElem
  · simp [told]
  · intro j h1 h2
    simp only [told, List.getElem_map, List.getElem_range]
    refine upTo_end _ _ _ _ ?_
    have : j < 32 := by simpa [told] using h1
    rw [Nat.mul_comm 32]
    exact Nat.mul_le_mul_left w this
/-- The bit that stands at a place. -/
theorem num_bit {l : List Int} (h : Byt l) (i : Nat) (hi : i / 8 < l.length) : num l / 2 ^ i % 2 = l[i / 8] / 2 ^ (i % 8) % 2 := by
  have hd := num_drop h (i / 8)
  have hp := p2_pos (8 * (i / 8))
  rw [show (2 : Int) ^ i = 2 ^ (8 * (i / 8)) * 2 ^ (i % 8) by rw [← p2_add]; congr 1; omega, ← Int.ediv_ediv_of_nonneg (by omega), hd, List.drop_eq_getElem_cons hi]
  simp only [num]
  generalize num (List.drop (i / 8 + 1) l) = X
  generalize l[i / 8] = d
  have hj : i % 8 < 8 := Nat.mod_lt _ (by omega)
  generalize i % 8 = j at hj
  have e : (256 : Int) = 2 ^ j * (2 * 2 ^ (7 - j)) := by
    rw [← Int.mul_assoc, ← Int.pow_succ, ← Int.pow_add, show j + 1 + (7 - j) = 8 by omega]
    rfl
  have hp := p2_pos j
  rw [e, Int.mul_assoc, Int.add_mul_ediv_left _ _ (by omega), Int.mul_assoc]
  omega

end Go.Proofs.YtngihompgcjlmaaDoor.Unp
