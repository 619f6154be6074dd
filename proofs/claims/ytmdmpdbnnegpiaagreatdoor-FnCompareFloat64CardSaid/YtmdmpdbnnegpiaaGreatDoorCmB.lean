/- Bits of bytes: one is set, eight are packed into a byte. Plain. -/
import Derived.Test.YtmdmpdbnnegpiaaGreatDoorCmW
namespace Go.Proofs.YtmdmpdbnnegpiaaGreatDoor.Cmp
open Go.RowKit Go.Proofs.YtmdmpdbnnegpiaaGreatDoorW.PrintWords Go.Proofs.YtmdmpdbnnegpiaaGreatDoorW.PrintLast Go.Proofs.YtmdmpdbnnegpiaaGreatDoorW.PrintMore
set_option linter.unusedVariables false
set_option linter.unusedSimpArgs false

/-- Bit i of bytes. -/
def bitAt (bs : List Int) (i : Nat) : Bool := (bs.getD (i / 8) 0).toNat.testBit (i % 8)
def Bytes (bs : List Int) : Prop := ∀ b ∈ bs, 0 ≤ b ∧ b < 256
theorem Bytes.at {bs : List Int} (h : Bytes bs) (j : Nat) : 0 ≤ bs.getD j 0 ∧ bs.getD j 0 < 256 := by
  rw [List.getD_eq_getElem?_getD]
  by_cases hj : j < bs.length
  · rw [List.getElem?_eq_getElem hj]
    exact h _ (List.getElem_mem hj)
  · rw [List.getElem?_eq_none (by omega)]
    decide
theorem Bytes.put {bs : List Int} (h : Bytes bs) (j : Nat) {x : Int} (h0 : 0 ≤ x) (h1 : x < 256) : Bytes (bs.set j x) := fun b hb => by
  rcases List.mem_or_eq_of_mem_set hb with hb | rfl
  · exact h b hb
  · exact ⟨h0, h1⟩
/-- From a bit on n bits are f's; the others stand as they were. -/
structure BitsAre (bs bs' : List Int) (lo n : Nat) (f : Nat → Bool) : Prop where
  len : bs'.length = bs.length
  byt : Bytes bs'
  bit : ∀ i, i < 8 * bs.length → bitAt bs' i = if lo ≤ i ∧ i < lo + n then f (i - lo) else bitAt bs i
theorem BitsAre.none {bs : List Int} (h : Bytes bs) (lo : Nat) (f : Nat → Bool) : BitsAre bs bs lo 0 f :=
  ⟨rfl, h, fun i _ => by rw [if_neg (by omega)]⟩
theorem BitsAre.trans {bs bs' bs'' : List Int} {lo m k : Nat} {f g : Nat → Bool} (h : BitsAre bs bs' lo m f) (h' : BitsAre bs' bs'' (lo + m) k g) (hg : ∀ i, i < k → g i = f (m + i)) : BitsAre bs bs'' lo (m + k) f := by
  refine ⟨h'.len.trans h.len, h'.byt, fun i hi => ?_⟩
  rw [h'.bit i (by rw [h.len]; exact hi), h.bit i hi]
  by_cases h1 : lo + m ≤ i ∧ i < lo + m + k
  · rw [if_pos h1, if_pos (by omega), hg _ (by omega)]
    congr 1
    omega
  · rw [if_neg h1]
    by_cases h2 : lo ≤ i ∧ i < lo + m
    · rw [if_pos h2, if_pos (by omega)]
    · rw [if_neg h2, if_neg (by omega)]
theorem bitAt_put (bs : List Int) (j : Nat) (x : Int) (i : Nat) (hj : j < bs.length) : bitAt (bs.set j x) i = if i / 8 = j then x.toNat.testBit (i % 8) else bitAt bs i := by
  unfold bitAt
  rw [List.getD_eq_getElem?_getD, List.getElem?_set]
  by_cases h : i / 8 = j
  · rw [if_pos h.symm, if_pos h, if_pos (by omega)]
    rfl
  · rw [if_neg (fun e => h e.symm), if_neg h, List.getD_eq_getElem?_getD]
/-- One byte is written of which bit k turned to b. -/
theorem BitsAre.one {bs : List Int} (h : Bytes bs) (k : Nat) (b : Bool) (x : Int) (hk : k / 8 < bs.length) (h0 : 0 ≤ x) (h1 : x < 256) (hx : ∀ j, j < 8 → x.toNat.testBit j = if j = k % 8 then b else (bs.getD (k / 8) 0).toNat.testBit j) :
    BitsAre bs (bs.set (k / 8) x) k 1 (fun _ => b) := by
  refine ⟨List.length_set .., h.put _ h0 h1, fun i hi => ?_⟩
  rw [bitAt_put _ _ _ _ hk]
  by_cases he : i / 8 = k / 8
  · rw [if_pos he, hx _ (by omega)]
    by_cases hm : i % 8 = k % 8
    · rw [if_pos hm, if_pos (by omega)]
    · rw [if_neg hm, if_neg (by omega), ← he]
      rfl
  · rw [if_neg he, if_neg (by omega)]
/-- One byte is written whole. -/
theorem BitsAre.byte {bs : List Int} (h : Bytes bs) (o : Nat) (f : Nat → Bool) (x : Int) (ho : o < bs.length) (h0 : 0 ≤ x) (h1 : x < 256) (hx : ∀ j, j < 8 → x.toNat.testBit j = f j) :
    BitsAre bs (bs.set o x) (8 * o) 8 f := by
  refine ⟨List.length_set .., h.put _ h0 h1, fun i hi => ?_⟩
  rw [bitAt_put _ _ _ _ ho]
  by_cases he : i / 8 = o
  · rw [if_pos he, if_pos (by omega), hx _ (by omega)]
    congr 1
    omega
  · rw [if_neg he, if_neg (by omega)]
theorem wraps_u8 (n : Int) (h0 : 0 ≤ n) (h1 : n < 2 ^ IntKind.u8.bits) : IntKind.u8.wrap n = n := by
  have e : (2 : Int) ^ IntKind.u8.bits = 256 := rfl
  rw [IntKind.wrap_u8]; omega
theorem and_nat (kd : IntKind) (B : Nat) (hB : B ≤ kd.bits) (hk : ∀ n : Int, 0 ≤ n → n < 2 ^ kd.bits → kd.wrap n = n) (a b : Nat) (ha : a < 2 ^ B) (hb : b < 2 ^ B) : Go.bits .and kd (a : Int) (b : Int) = ((a &&& b : Nat) : Int) := by
  have hle : (2 : Nat) ^ B ≤ 2 ^ kd.bits := Nat.pow_le_pow_right (by omega) hB
  have key : ∀ n : Nat, n < 2 ^ B → kd.wrap (n : Int) = n := fun n hn => hk n (by omega) (by exact_mod_cast Nat.lt_of_lt_of_le hn hle)
  have toNat : ∀ n : Nat, n < 2 ^ B → (BitVec.ofInt kd.bits (n : Int)).toNat = n := by
    intro n hn
    rw [BitVec.ofInt_natCast, BitVec.toNat_ofNat]
    exact Nat.mod_eq_of_lt (Nat.lt_of_lt_of_le hn hle)
  show kd.wrap ((BitVec.ofInt kd.bits a &&& BitVec.ofInt kd.bits b).toNat : Int) = _
  rw [BitVec.toNat_and, toNat a ha, toNat b hb]
  exact key _ (Nat.and_lt_two_pow _ hb)
/-- A bit is set by a mask. -/
theorem mask_set (b : Int) (k : Nat) (hk : k < 8) (h0 : 0 ≤ b) (h1 : b < 256) (m : Int) (hm : m = ((2 ^ k : Nat) : Int)) :
    0 ≤ Go.bits .or .u8 b m ∧ Go.bits .or .u8 b m < 256 ∧ ∀ j, j < 8 → (Go.bits .or .u8 b m).toNat.testBit j = if j = k then true else b.toNat.testBit j := by
  obtain ⟨a, rfl⟩ := Int.eq_ofNat_of_zero_le h0
  have ha : a < 2 ^ 8 := by omega
  have hp : 2 ^ k < 2 ^ 8 := Nat.pow_lt_pow_right (by omega) hk
  rw [hm, bits_nat .u8 8 (Nat.le_refl _) wraps_u8 a (2 ^ k) ha hp]
  have hlt : a ||| 2 ^ k < 2 ^ 8 := Nat.or_lt_two_pow ha hp
  refine ⟨by omega, by omega, fun j hj => ?_⟩
  rw [Int.toNat_natCast, Int.toNat_natCast, Nat.testBit_or, Nat.testBit_two_pow]
  by_cases e : j = k
  · subst e; simp
  · rw [if_neg e, decide_eq_false (fun h => e h.symm), Bool.or_false]
theorem flip_bits : ∀ k j : Fin 8, Nat.testBit (255 - 2 ^ k.val) j.val = (j.val != k.val) := by decide
/-- A bit is cleared by a mask. -/
theorem mask_clear (b : Int) (k : Nat) (hk : k < 8) (h0 : 0 ≤ b) (h1 : b < 256) (m : Int) (hm : m = ((255 - 2 ^ k : Nat) : Int)) :
    0 ≤ Go.bits .and .u8 b m ∧ Go.bits .and .u8 b m < 256 ∧ ∀ j, j < 8 → (Go.bits .and .u8 b m).toNat.testBit j = if j = k then false else b.toNat.testBit j := by
  obtain ⟨a, rfl⟩ := Int.eq_ofNat_of_zero_le h0
  have ha : a < 2 ^ 8 := by omega
  have hp : 255 - 2 ^ k < 2 ^ 8 := Nat.lt_of_le_of_lt (Nat.sub_le _ _) (by decide)
  rw [hm, and_nat .u8 8 (Nat.le_refl _) wraps_u8 a (255 - 2 ^ k) ha hp]
  have hlt : a &&& (255 - 2 ^ k) < 2 ^ 8 := Nat.and_lt_two_pow _ hp
  refine ⟨by omega, by omega, fun j hj => ?_⟩
  rw [Int.toNat_natCast, Int.toNat_natCast, Nat.testBit_and, flip_bits ⟨k, hk⟩ ⟨j, hj⟩]
  by_cases e : j = k
  · subst e; simp
  · rw [if_neg e, show (j != k) = true from bne_iff_ne.2 e, Bool.and_true]
def b2i (b : Bool) : Int := if b then 1 else 0
theorem b2i_range (b : Bool) : 0 ≤ b2i b ∧ b2i b ≤ 1 := by cases b <;> decide
theorem eight : ∀ a b c d e f g h : Bool, ∀ j : Fin 8, Nat.testBit (a.toNat + 2 * b.toNat + 4 * c.toNat + 8 * d.toNat + 16 * e.toNat + 32 * f.toNat + 64 * g.toNat + 128 * h.toNat) j.val = [a, b, c, d, e, f, g, h].getD j.val false := by decide
theorem b2i_nat (b : Bool) : b2i b = (b.toNat : Int) := by cases b <;> rfl
/-- Eight words of one bit are a byte. -/
theorem pack_eq (a b c d e f g h : Bool) :
    Go.bits .or .u32 (Go.bits .or .u32 (Go.bits .or .u32 (Go.bits .or .u32 (Go.bits .or .u32 (Go.bits .or .u32 (Go.bits .or .u32 (b2i a) (b2i b * 2)) (b2i c * 4)) (b2i d * 8)) (b2i e * 16)) (b2i f * 32)) (b2i g * 64)) (b2i h * 128) =
      b2i a + 2 * b2i b + 4 * b2i c + 8 * b2i d + 16 * b2i e + 32 * b2i f + 64 * b2i g + 128 * b2i h := by
  obtain ⟨a0, a1⟩ := b2i_range a
  obtain ⟨b0, b1⟩ := b2i_range b
  obtain ⟨c0, c1⟩ := b2i_range c
  obtain ⟨d0, d1⟩ := b2i_range d
  obtain ⟨e0, e1⟩ := b2i_range e
  obtain ⟨f0, f1⟩ := b2i_range f
  obtain ⟨g0, g1⟩ := b2i_range g
  obtain ⟨h0, h1⟩ := b2i_range h
  generalize b2i a = a at *
  generalize b2i b = b at *
  generalize b2i c = c at *
  generalize b2i d = d at *
  generalize b2i e = e at *
  generalize b2i f = f at *
  generalize b2i g = g at *
  generalize b2i h = h at *
  have k1 := or_u32 1 a b (by omega) b0 (by omega)
  have k2 := or_u32 2 (a + b * 2) c (by omega) c0 (by omega)
  have k3 := or_u32 3 (a + b * 2 + c * 4) d (by omega) d0 (by omega)
  have k4 := or_u32 4 (a + b * 2 + c * 4 + d * 8) e (by omega) e0 (by omega)
  have k5 := or_u32 5 (a + b * 2 + c * 4 + d * 8 + e * 16) f (by omega) f0 (by omega)
  have k6 := or_u32 6 (a + b * 2 + c * 4 + d * 8 + e * 16 + f * 32) g (by omega) g0 (by omega)
  have k7 := or_u32 7 (a + b * 2 + c * 4 + d * 8 + e * 16 + f * 32 + g * 64) h (by omega) h0 (by omega)
  rw [show (2 : Int) ^ 1 = 2 from rfl] at k1
  rw [show (2 : Int) ^ 2 = 4 from rfl] at k2
  rw [show (2 : Int) ^ 3 = 8 from rfl] at k3
  rw [show (2 : Int) ^ 4 = 16 from rfl] at k4
  rw [show (2 : Int) ^ 5 = 32 from rfl] at k5
  rw [show (2 : Int) ^ 6 = 64 from rfl] at k6
  rw [show (2 : Int) ^ 7 = 128 from rfl] at k7
  rw [k1, k2, k3, k4, k5, k6, k7]
  omega
/-- The byte's bits. -/
theorem pack_bits (f : Nat → Bool) : ∀ j, j < 8 → (b2i (f 0) + 2 * b2i (f 1) + 4 * b2i (f 2) + 8 * b2i (f 3) + 16 * b2i (f 4) + 32 * b2i (f 5) + 64 * b2i (f 6) + 128 * b2i (f 7)).toNat.testBit j = f j := by
  intro j hj
  have h := eight (f 0) (f 1) (f 2) (f 3) (f 4) (f 5) (f 6) (f 7) ⟨j, hj⟩
  simp only [b2i_nat]
  rw [show ((f 0).toNat : Int) + 2 * ((f 1).toNat : Int) + 4 * ((f 2).toNat : Int) + 8 * ((f 3).toNat : Int) + 16 * ((f 4).toNat : Int) + 32 * ((f 5).toNat : Int) + 64 * ((f 6).toNat : Int) + 128 * ((f 7).toNat : Int) = (((f 0).toNat + 2 * (f 1).toNat + 4 * (f 2).toNat + 8 * (f 3).toNat + 16 * (f 4).toNat + 32 * (f 5).toNat + 64 * (f 6).toNat + 128 * (f 7).toNat : Nat) : Int) by omega, Int.toNat_natCast, h]
  match j, hj with
  | 0, _ | 1, _ | 2, _ | 3, _ | 4, _ | 5, _ | 6, _ | 7, _ => rfl
/-- What stands in a row of words of which m are told by f. -/
def outs (f : Nat → Bool) (m : Nat) (us : List Int) : List Int := (List.range m).map (fun i => b2i (f i)) ++ us.drop m
theorem outs_len (f : Nat → Bool) (m : Nat) (us : List Int) (h : m ≤ us.length) : (outs f m us).length = us.length := by simp [outs]; omega
theorem outs_none (f : Nat → Bool) (us : List Int) : outs f 0 us = us := by simp [outs]
theorem outs_step (f : Nat → Bool) (k : Nat) (us : List Int) (h : k < us.length) : (outs f k us).set k (b2i (f k)) = outs f (k + 1) us := by
  unfold outs
  rw [List.set_append_right _ _ (by simp), List.length_map, List.length_range, Nat.sub_self, List.range_succ, List.map_append, List.append_assoc, List.drop_eq_getElem_cons h]
  rfl
theorem outs_get (f : Nat → Bool) (m : Nat) (us : List Int) (i : Nat) (h : i < m) : (outs f m us).getD i 0 = b2i (f i) := by
  unfold outs
  rw [List.getD_eq_getElem?_getD, List.getElem?_append_left (by simpa using h)]
  simp [h]
theorem outs_eq (f g : Nat → Bool) (m : Nat) (us : List Int) (h : ∀ i, i < m → f i = g i) : outs f m us = outs g m us := by
  unfold outs
  congr 1
  exact List.map_congr_left (fun i hi => by rw [h i (List.mem_range.1 hi)])

end Go.Proofs.YtmdmpdbnnegpiaaGreatDoor.Cmp
