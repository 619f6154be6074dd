/- The plain law of run ends as bytes: the reference's reading and writing of numbers. -/
import Derived.Test.YtldkpgjpfhoekaaJrI0
import Derived.Test.YtldkpgjpfhoekaaPOffsetsOfx1
import Derived.Test.YtldkpgjpfhoekaaPBytesOfx1
import Derived.Test.YtldkpgjpfhoekaaPsameBytesx1
namespace Go.Proofs.Ytldkpgjpfhoekaa.Join
open Go.RowKit Go.Proofs.YtldkpgjpfhoekaaW.PrintWords Go.Proofs.YtldkpgjpfhoekaaW.PrintLast Go.Proofs.YtldkpgjpfhoekaaW.PrintMore
open Go.Proofs.Ytldkpgjpfhoekaa.POffsetsOf Go.Proofs.Ytldkpgjpfhoekaa.PBytesOf Go.Proofs.Ytldkpgjpfhoekaa.PsameBytes
set_option linter.unusedVariables false
set_option linter.unusedSimpArgs false

theorem p256 (k : Nat) : (2 : Int) ^ (8 * k) = 256 ^ k := by rw [Int.pow_mul]; rfl
theorem p256_pos (k : Nat) : (0 : Int) < 256 ^ k := Int.pow_pos (by decide)
theorem byteAt_add (x b : Int) (t s : Nat) (h : s < t) : byteAt (x + b * 256 ^ t) s = byteAt x s := by
  unfold byteAt
  obtain ⟨d, rfl⟩ : ∃ d, t = s + 1 + d := ⟨t - (s + 1), by omega⟩
  rw [p256]
  have e : b * 256 ^ (s + 1 + d) = b * 256 ^ d * 256 * (256 : Int) ^ s := by
    rw [Int.pow_add, Int.pow_succ]
    simp only [Int.mul_assoc, Int.mul_comm, Int.mul_left_comm]
  rw [e, Int.add_mul_ediv_right _ _ (by have := p256_pos s; omega), Int.add_mul_emod_self_right]
theorem byteAt_mod (n : Int) (z t : Nat) (h : t < z) : byteAt (n % 256 ^ z) t = byteAt n t := by
  have e : n = n % 256 ^ z + n / 256 ^ z * 256 ^ z := by rw [Int.mul_comm]; exact (Int.emod_add_mul_ediv n _).symm
  have h1 := byteAt_add (n % 256 ^ z) (n / 256 ^ z) z t h
  rw [← e] at h1
  exact h1.symm
/-- The number that t bytes from place i on are. -/
def ub (l : List Int) (i : Nat) : Nat → Int
  | 0 => 0
  | t + 1 => ub l i t + l.getD (i + t) 0 * 256 ^ t
def ByteL (l : List Int) : Prop := ∀ x ∈ l, 0 ≤ x ∧ x ≤ 255
theorem ByteL.at_ {l : List Int} (h : ByteL l) (j : Nat) : 0 ≤ l.getD j 0 ∧ l.getD j 0 ≤ 255 := by
  rcases Nat.lt_or_ge j l.length with hj | hj
  · rw [List.getD_eq_getElem?_getD, List.getElem?_eq_getElem hj]
    exact h _ (List.getElem_mem hj)
  · simp [List.getD_eq_getElem?_getD, List.getElem?_eq_none hj]
theorem ub_range {l : List Int} (h : ByteL l) (i t : Nat) : 0 ≤ ub l i t ∧ ub l i t < 256 ^ t := by
  induction t with
  | zero => simp [ub]
  | succ t ih =>
    obtain ⟨h0, h1⟩ := h.at_ (i + t)
    have hp := p256_pos t
    rw [ub, Int.pow_succ]
    generalize l.getD (i + t) 0 = b at *
    have h2 := Int.mul_nonneg h0 (Int.le_of_lt hp)
    have h3 := Int.mul_le_mul_of_nonneg_right h1 (Int.le_of_lt hp)
    exact ⟨by omega, by omega⟩
theorem le_ub {l : List Int} (h : ByteL l) (i t : Nat) : le (ub l i t) t = (List.range t).map (fun s => l.getD (i + s) 0) := by
  induction t with
  | zero => rfl
  | succ t ih =>
    rw [le_succ, List.range_succ, List.map_append, ← ih]
    congr 1
    · unfold le
      apply List.map_congr_left
      intro s hs
      rw [ub, byteAt_add _ _ _ _ (List.mem_range.1 hs)]
    · obtain ⟨h0, h1⟩ := h.at_ (i + t)
      obtain ⟨h2, h3⟩ := ub_range h i t
      simp only [List.map_cons, List.map_nil, List.cons.injEq, and_true]
      unfold byteAt
      rw [p256, ub, Int.add_mul_ediv_right _ _ (by have := p256_pos t; omega), Int.ediv_eq_zero_of_lt h2 h3]
      omega
theorem chunk (l : List Int) (i z : Nat) (h : i + z ≤ l.length) : l.take i ++ (List.range z).map (fun s => l.getD (i + s) 0) = l.take (i + z) := by
  rw [List.take_add]
  congr 1
  apply List.ext_getElem
  · simp; omega
  · intro j h1 h2
    simp at h1
    simp [List.getD_eq_getElem?_getD, List.getElem?_eq_getElem (show i + j < l.length by omega)]
/-- What the reference makes of z bytes. -/
def signed (z : Nat) (U : Int) : Int := shr .i64 (wrap64 (shl .u64 U (wrap64 (64 - wrap64 (8 * (z : Int)))))) (wrap64 (64 - wrap64 (8 * (z : Int))))
theorem w64 (x : Int) (h0 : -9223372036854775808 ≤ x) (h1 : x ≤ 9223372036854775807) : wrap64 x = x := by
  unfold wrap64
  omega
theorem w64_mod (x : Int) : wrap64 x = (x + 9223372036854775808) % 18446744073709551616 - 9223372036854775808 := by
  simp only [wrap64]
theorem signed_mod (z : Nat) (hz : z = 2 ∨ z = 4 ∨ z = 8) (U : Int) (h0 : 0 ≤ U) (h1 : U < 256 ^ z) : signed z U % 256 ^ z = U := by
  unfold signed shr shl
  rcases hz with rfl | rfl | rfl
  · rw [w64 (8 * ((2 : Nat) : Int)) (by omega) (by omega), w64 (64 - 8 * ((2 : Nat) : Int)) (by omega) (by omega)]
    have e1 : (64 - 8 * ((2 : Nat) : Int)).toNat = 48 := rfl
    rw [e1, w64_mod, IntKind.wrap_u64]
    simp [IntKind.bits] at h1 ⊢
    omega
  · rw [w64 (8 * ((4 : Nat) : Int)) (by omega) (by omega), w64 (64 - 8 * ((4 : Nat) : Int)) (by omega) (by omega)]
    have e1 : (64 - 8 * ((4 : Nat) : Int)).toNat = 32 := rfl
    rw [e1, w64_mod, IntKind.wrap_u64]
    simp [IntKind.bits] at h1 ⊢
    omega
  · rw [w64 (8 * ((8 : Nat) : Int)) (by omega) (by omega), w64 (64 - 8 * ((8 : Nat) : Int)) (by omega) (by omega)]
    have e1 : (64 - 8 * ((8 : Nat) : Int)).toNat = 0 := rfl
    rw [e1, w64_mod, IntKind.wrap_u64]
    simp [IntKind.bits] at h1 ⊢
    omega
theorem or_byte (x b : Int) (t : Nat) (ht : t < 8) (hx : 0 ≤ x ∧ x < 256 ^ t) (hb : 0 ≤ b ∧ b ≤ 255) : Go.bits .or .u64 x (shl .u64 (IntKind.u64.wrap b) (wrap64 (8 * (t : Int)))) = x + b * 256 ^ t := by
  have e1 : IntKind.u64.wrap b = b := by rw [IntKind.wrap_u64]; omega
  rw [e1, w64 _ (by omega) (by omega)]
  have e2 : (8 * (t : Int)).toNat = 8 * t := by omega
  have hp : (256 : Int) ^ t * 256 ≤ 18446744073709551616 := by
    have h : t = 0 ∨ t = 1 ∨ t = 2 ∨ t = 3 ∨ t = 4 ∨ t = 5 ∨ t = 6 ∨ t = 7 := by omega
    rcases h with rfl | rfl | rfl | rfl | rfl | rfl | rfl | rfl <;> decide
  have hbp : b * 256 ^ t ≤ 255 * 256 ^ t := Int.mul_le_mul_of_nonneg_right hb.2 (Int.le_of_lt (p256_pos t))
  have hb0 : 0 ≤ b * 256 ^ t := Int.mul_nonneg hb.1 (Int.le_of_lt (p256_pos t))
  unfold shl
  rw [e2, show min (8 * t) IntKind.u64.bits = 8 * t by simp [IntKind.bits]; omega, p256, show IntKind.u64.wrap (b * 256 ^ t) = b * 256 ^ t by rw [IntKind.wrap_u64]; omega, ← p256]
  exact or_u64 (8 * t) x b (by rw [p256]; exact hx) hb.1 (by rw [p256]; omega)
theorem offs_in (z : Nat) (hz : z = 2 ∨ z = 4 ∨ z = 8) (l out : List Int) (hb : ByteL l) (hl : l.length ≤ 2147483647) (i : Nat) (hi : i + z ≤ l.length) (ho : out.length ≤ 2147483647) (k : Nat) (r : List Int)
    (h : spec_OffsetsOf.l0 k l z (out ++ [signed z (ub l i z)]) ((i + z : Nat) : Int) = some r) :
    ∀ j, j ≤ z → spec_OffsetsOf.l1 (k + 1 + j) l z out i (ub l i (z - j)) ((z - j : Nat) : Int) = some r := by
  intro j
  induction j with
  | zero =>
    intro _
    show spec_OffsetsOf.l1 (k + 1) l z out i (ub l i z) ((z : Nat) : Int) = some r
    rw [spec_OffsetsOf.l1, if_neg (by omega), if_pos (by rw [w64 (8 * (z : Int)) (by omega) (by omega), w64 (64 - 8 * (z : Int)) (by omega) (by omega)]; omega), if_pos (by omega)]
    rw [show wrap64 ((i : Int) + (z : Int)) = ((i + z : Nat) : Int) by rw [w64 _ (by omega) (by omega)]; push_cast; rfl]
    exact h
  | succ j ih =>
    intro hj
    have h1 := ih (by omega)
    obtain ⟨t, ht⟩ : ∃ t, z - (j + 1) = t := ⟨_, rfl⟩
    rw [show z - j = t + 1 by omega] at h1
    rw [ht]
    show spec_OffsetsOf.l1 ((k + 1 + j) + 1) l z out i (ub l i t) ((t : Nat) : Int) = some r
    have hit : wrap64 ((i : Int) + (t : Int)) = ((i + t : Nat) : Int) := by rw [w64 _ (by omega) (by omega)]; push_cast; rfl
    have hrd : rd l ((i + t : Nat) : Int) = l.getD (i + t) 0 := by unfold rd; rw [Int.toNat_natCast]
    rw [spec_OffsetsOf.l1, if_pos (by omega), hit, if_pos (by omega), if_pos (by omega), if_pos (by rw [w64 _ (by omega) (by omega)]; omega), hrd, or_byte _ _ t (by omega) (ub_range hb i t) (hb.at_ _)]
    rw [show wrap64 ((t : Int) + 1) = ((t + 1 : Nat) : Int) by rw [w64 _ (by omega) (by omega)]; push_cast; rfl]
    exact h1
theorem usz_snoc (z : Nat) (l : List Int) (v : Int) : bytesL z (usz z (l ++ [v])) = bytesL z (usz z l) ++ le (v % 256 ^ z) z := by
  simp [usz, bytesL]
theorem offs_all (z : Nat) (hz : z = 2 ∨ z = 4 ∨ z = 8) (l : List Int) (hb : ByteL l) (hl : l.length ≤ 2147483647) :
    ∀ d m i, l.length - i ≤ d → i = m * z → i ≤ l.length → ∀ out : List Int, out.length = m → bytesL z (usz z out) = l.take i → ∃ k r, spec_OffsetsOf.l0 k l z out (i : Int) = some r ∧ (l.length % z = 0 → bytesL z (usz z r) = l) := by
  intro d
  induction d with
  | zero =>
    intro m i hd hi hil out ho hbo
    refine ⟨1, out, ?_, fun _ => by rw [hbo]; exact List.take_of_length_le (by omega)⟩
    rw [spec_OffsetsOf.l0, if_neg (by rw [w64 _ (by omega) (by omega)]; omega)]
  | succ d ih =>
    intro m i hd hi hil out ho hbo
    by_cases hc : i + z ≤ l.length
    · have hmi : m ≤ i := by rw [hi]; exact Nat.le_mul_of_pos_right _ (by omega)
      have hu := ub_range hb i z
      obtain ⟨k, r, hk, hr⟩ := ih (m + 1) (i + z) (by omega) (by rw [hi, Nat.add_mul, Nat.one_mul]) hc (out ++ [signed z (ub l i z)]) (by simp [ho]) (by rw [usz_snoc, signed_mod z hz _ hu.1 hu.2, hbo, le_ub hb]; exact chunk l i z hc)
      refine ⟨k + 1 + z + 1, r, ?_, hr⟩
      have h1 := offs_in z hz l out hb hl i hc (by omega) k r hk z (Nat.le_refl _)
      rw [Nat.sub_self] at h1
      rw [spec_OffsetsOf.l0, if_pos (by rw [w64 _ (by omega) (by omega)]; omega)]
      exact h1
    · refine ⟨1, out, ?_, fun hm => ?_⟩
      · rw [spec_OffsetsOf.l0, if_neg (by rw [w64 _ (by omega) (by omega)]; omega)]
      · rw [hbo]
        refine List.take_of_length_le ?_
        have h1 := Nat.div_add_mod l.length z
        rw [hm] at h1
        rcases hz with rfl | rfl | rfl <;> omega
theorem offs (z : Nat) (hz : z = 2 ∨ z = 4 ∨ z = 8) (l : List Int) (hb : ByteL l) (hl : l.length ≤ 2147483647) : ∃ k r, spec_OffsetsOf.f k l z = some r ∧ (l.length % z = 0 → bytesL z (usz z r) = l) :=
  offs_all z hz l hb hl l.length 0 0 (by omega) (by omega) (by omega) [] rfl rfl
theorem byte_out (n : Int) (t : Nat) (ht : t < 8) : shr .u64 (IntKind.u64.wrap n) (wrap64 (8 * (t : Int))) % 256 = byteAt n t := by
  unfold shr byteAt
  rw [w64 _ (by omega) (by omega), IntKind.wrap_u64]
  have h : t = 0 ∨ t = 1 ∨ t = 2 ∨ t = 3 ∨ t = 4 ∨ t = 5 ∨ t = 6 ∨ t = 7 := by omega
  rcases h with rfl | rfl | rfl | rfl | rfl | rfl | rfl | rfl <;> (simp [IntKind.bits]; try omega)
theorem byts_in (z : Nat) (hz : z ≤ 8) (n : Int) (x9 : List Int) (x10 : Int) (i : Nat) (hi : i < 2147483647) (k : Nat) (r : List Int) : ∀ (j : Nat) (out : List Int), j ≤ z → out.length + z ≤ 100000000 + (z - j) →
    spec_BytesOf.l0 k z (out ++ ((List.range z).drop (z - j)).map (byteAt n)) x9 x10 ((i + 1 : Nat) : Int) = some r → spec_BytesOf.l1 (k + 1 + j) z out n ((z - j : Nat) : Int) x9 x10 i = some r := by
  intro j
  induction j with
  | zero =>
    intro out _ _ h
    show spec_BytesOf.l1 (k + 1) z out n ((z : Nat) : Int) x9 x10 i = some r
    rw [spec_BytesOf.l1, if_neg (by omega), show wrap64 ((i : Int) + 1) = ((i + 1 : Nat) : Int) by rw [w64 _ (by omega) (by omega)]; push_cast; rfl]
    rw [Nat.sub_zero, List.drop_eq_nil_of_le (by simp), List.map_nil, List.append_nil] at h
    exact h
  | succ j ih =>
    intro out hj hol h
    obtain ⟨t, ht⟩ : ∃ t, z - (j + 1) = t := ⟨_, rfl⟩
    rw [ht] at h ⊢
    show spec_BytesOf.l1 ((k + 1 + j) + 1) z out n ((t : Nat) : Int) x9 x10 i = some r
    have hd : (List.range z).drop t = t :: (List.range z).drop (t + 1) := by
      rw [List.drop_eq_getElem_cons (by simp; omega)]
      simp
    rw [hd, List.map_cons] at h
    have h1 := ih (out ++ [byteAt n t]) (by omega) (by simp; omega) (by rw [show z - j = t + 1 by omega, List.append_assoc]; exact h)
    rw [show z - j = t + 1 by omega] at h1
    rw [spec_BytesOf.l1, if_pos (by omega), if_pos (by rw [w64 _ (by omega) (by omega)]; omega), if_pos (by omega), byte_out n t (by omega), show wrap64 ((t : Int) + 1) = ((t + 1 : Nat) : Int) by rw [w64 _ (by omega) (by omega)]; push_cast; rfl]
    exact h1
theorem le_mod (n : Int) (z : Nat) : le (n % 256 ^ z) z = (List.range z).map (byteAt n) := by
  unfold le
  apply List.map_congr_left
  intro s hs
  exact byteAt_mod n z s (List.mem_range.1 hs)
theorem byts_all (z : Nat) (hz : z ≤ 8) (l : List Int) (hl : l.length ≤ 100000) : ∀ d i, l.length - i = d → i ≤ l.length → ∃ k, spec_BytesOf.l0 k z (bytesL z (usz z (l.take i))) l (l.length : Int) i = some (bytesL z (usz z l)) := by
  intro d
  induction d with
  | zero =>
    intro i hd hi
    refine ⟨1, ?_⟩
    rw [spec_BytesOf.l0, if_neg (by omega), List.take_of_length_le (by omega)]
  | succ d ih =>
    intro i hd hi
    obtain ⟨k, hk⟩ := ih (i + 1) (by omega) (by omega)
    refine ⟨k + 1 + z + 1, ?_⟩
    have e : bytesL z (usz z (l.take (i + 1))) = bytesL z (usz z (l.take i)) ++ ((List.range z).drop (z - z)).map (byteAt (l.getD i 0)) := by
      rw [Nat.sub_self, List.drop_zero, ← le_mod, List.take_succ_eq_append_getElem (by omega), usz_snoc]
      simp [List.getD_eq_getElem?_getD, List.getElem?_eq_getElem (show i < l.length by omega)]
    rw [e] at hk
    have hb : (bytesL z (usz z (l.take i))).length ≤ 800000 := by
      rw [bytesL_len, usz_len, List.length_take]
      have := Nat.mul_le_mul (show min i l.length ≤ 100000 by omega) hz
      omega
    have h1 := byts_in z hz (l.getD i 0) l (l.length : Int) i (by omega) k _ z _ (Nat.le_refl _) (by omega) hk
    rw [Nat.sub_self] at h1
    rw [spec_BytesOf.l0, if_pos (by omega), if_pos (by omega), if_pos (by omega)]
    exact h1
theorem byts (z : Nat) (hz : z ≤ 8) (l : List Int) (hl : l.length ≤ 100000) : ∃ k, spec_BytesOf.f k l z = some (bytesL z (usz z l)) := by
  obtain ⟨k, h⟩ := byts_all z hz l hl l.length 0 (by omega) (by omega)
  exact ⟨k, by simpa [spec_BytesOf.f, bytesL, usz] using h⟩
theorem same_self (l : List Int) : laws_sameBytes.f l l = some true := by simp [laws_sameBytes.f]

end Go.Proofs.Ytldkpgjpfhoekaa.Join
