/- Plain facts on integers that are lists of digits of base 2^32, and that the printed functions on them compute sums, products, comparisons and remainders. No condition beyond small lengths. -/
import Derived.Test.YtlhfmbpijcniaaaGreatPmagDivx1
import Derived.Laws.Bits64
import Derived.Laws.BitsAllLaws
import Derived.Laws.BitsLemmas
namespace Go.Proofs.YtlhfmbpijcniaaaGreat.WidemagDiv
open Go.RowKit Go.Proofs.YtlhfmbpijcniaaaGreat.PmagDiv Go.Proofs.YtlhfmbpijcniaaaGreatW.PrintWords Go.Proofs.YtlhfmbpijcniaaaGreatW.PrintLast Go.Proofs.YtlhfmbpijcniaaaGreatW.PrintMore

/-- The number that digits of base 2^32 are, the lowest first. -/
def mag : List Int → Int
  | [] => 0
  | d :: l => d + 4294967296 * mag l
def Dig (l : List Int) : Prop := ∀ d ∈ l, 0 ≤ d ∧ d ≤ 4294967295
/-- No zero at the end. -/
def Nrm (l : List Int) : Prop := l = [] ∨ ∃ l' d, l = l' ++ [d] ∧ d ≠ 0
def pw (n : Nat) : Int := 4294967296 ^ n

theorem pw_zero : pw 0 = 1 := rfl
theorem pw_succ (n : Nat) : pw (n + 1) = pw n * 4294967296 := Int.pow_succ _ _
theorem pw_pos (n : Nat) : 1 ≤ pw n := by
  induction n with
  | zero => simp [pw_zero]
  | succ n ih => rw [pw_succ]; omega
theorem pw_mono {m n : Nat} (h : m ≤ n) : pw m ≤ pw n := by
  obtain ⟨k, rfl⟩ : ∃ k, n = m + k := ⟨n - m, by omega⟩
  induction k with
  | zero => exact Int.le_refl _
  | succ k ih =>
    have h1 := ih (by omega)
    have h2 := pw_pos (m + k)
    rw [show m + (k + 1) = (m + k) + 1 from rfl, pw_succ]
    omega

theorem Dig.cons {d : Int} {l : List Int} (h : Dig (d :: l)) : (0 ≤ d ∧ d ≤ 4294967295) ∧ Dig l := ⟨h d List.mem_cons_self, fun x hx => h x (List.mem_cons_of_mem _ hx)⟩
theorem Dig.mk_cons {d : Int} {l : List Int} (h : 0 ≤ d ∧ d ≤ 4294967295) (k : Dig l) : Dig (d :: l) := fun x hx => by
  rcases List.mem_cons.1 hx with rfl | hx
  · exact h
  · exact k x hx
theorem Dig.nil : Dig [] := fun x hx => by cases hx
theorem Dig.append {a b : List Int} (h : Dig a) (k : Dig b) : Dig (a ++ b) := fun x hx => by
  rcases List.mem_append.1 hx with hx | hx
  · exact h x hx
  · exact k x hx
theorem Dig.left {a b : List Int} (h : Dig (a ++ b)) : Dig a := fun x hx => h x (List.mem_append_left _ hx)
theorem Dig.right {a b : List Int} (h : Dig (a ++ b)) : Dig b := fun x hx => h x (List.mem_append_right _ hx)
theorem Dig.drop {a : List Int} (h : Dig a) (i : Nat) : Dig (a.drop i) := fun x hx => h x (List.mem_of_mem_drop hx)
theorem Dig.take {a : List Int} (h : Dig a) (i : Nat) : Dig (a.take i) := fun x hx => h x (List.mem_of_mem_take hx)
theorem Dig.set {a : List Int} (h : Dig a) (i : Nat) {d : Int} (hd : 0 ≤ d ∧ d ≤ 4294967295) : Dig (a.set i d) := fun x hx => by
  rcases List.mem_or_eq_of_mem_set hx with hx | rfl
  · exact h x hx
  · exact hd

theorem mag_nonneg {l : List Int} (h : Dig l) : 0 ≤ mag l := by
  induction l with
  | nil => exact Int.le_refl 0
  | cons d l ih => have := ih h.cons.2; have := h.cons.1; simp only [mag]; omega
theorem mag_lt {l : List Int} (h : Dig l) : mag l < pw l.length := by
  induction l with
  | nil => simp [mag, pw_zero]
  | cons d l ih => have h1 := ih h.cons.2; have h2 := h.cons.1; simp only [mag, List.length_cons]; rw [pw_succ]; omega
theorem mag_append (a b : List Int) : mag (a ++ b) = mag a + pw a.length * mag b := by
  induction a with
  | nil => simp [mag, pw_zero]
  | cons d l ih =>
    simp only [List.cons_append, mag, List.length_cons, ih, pw_succ]
    rw [Int.mul_add, Int.mul_comm (pw l.length) 4294967296, Int.mul_assoc]
    omega
theorem mag_snoc (a : List Int) (d : Int) : mag (a ++ [d]) = mag a + pw a.length * d := by
  rw [mag_append]; simp [mag]
theorem mag_zeros (n : Nat) : mag (List.replicate n 0) = 0 := by
  induction n with
  | zero => rfl
  | succ n ih => simp [List.replicate_succ, mag, ih]
theorem mag_ge {l : List Int} (h : Dig l) (hn : Nrm l) (h0 : l ≠ []) : pw (l.length - 1) ≤ mag l := by
  rcases hn with rfl | ⟨l', d, rfl, hd⟩
  · exact absurd rfl h0
  · rw [mag_snoc]
    have h1 := mag_nonneg h.left
    have h2 := h.right.cons.1
    have h3 : pw l'.length * 1 ≤ pw l'.length * d := Int.mul_le_mul_of_nonneg_left (by omega) (by have := pw_pos l'.length; omega)
    simp only [List.length_append, List.length_cons, List.length_nil, Nat.add_sub_cancel]
    omega
theorem len_le_of_lt {a b : List Int} (ha : Dig a) (hb : Dig b) (hn : Nrm a) (h : mag a < mag b) : a.length ≤ b.length := by
  rcases Nat.lt_or_ge b.length a.length with hlt | hge
  · have h0 : a ≠ [] := by rintro rfl; simp at hlt
    have h1 := mag_ge ha hn h0
    have h2 := mag_lt hb
    have h3 := pw_mono (show b.length ≤ a.length - 1 by omega)
    omega
  · exact hge
theorem len_le_of_le {a b : List Int} (ha : Dig a) (hb : Dig b) (hn : Nrm a) (h : mag a ≤ mag b) : a.length ≤ b.length := by
  rcases Nat.lt_or_ge b.length a.length with hlt | hge
  · have h0 : a ≠ [] := by rintro rfl; simp at hlt
    have h1 := mag_ge ha hn h0
    have h2 := mag_lt hb
    have h3 := pw_mono (show b.length ≤ a.length - 1 by omega)
    omega
  · exact hge
theorem nil_of_mag {l : List Int} (h : Dig l) (hn : Nrm l) (h0 : mag l = 0) : l = [] := by
  by_cases e : l = []
  · exact e
  · have h1 := mag_ge h hn e
    have h2 := pw_pos (l.length - 1)
    omega

theorem rd_lt (l : List Int) (i : Nat) (h : i < l.length) : rd l (i : Int) = l[i] := by
  simp [rd, List.getD_eq_getElem?_getD, List.getElem?_eq_getElem h]
theorem rd_ge (l : List Int) (i : Nat) (h : l.length ≤ i) : rd l (i : Int) = 0 := by
  simp [rd, List.getD_eq_getElem?_getD, List.getElem?_eq_none h]
theorem rd_dig {l : List Int} (h : Dig l) (i : Nat) : 0 ≤ rd l (i : Int) ∧ rd l (i : Int) ≤ 4294967295 := by
  rcases Nat.lt_or_ge i l.length with hi | hi
  · rw [rd_lt l i hi]; exact h _ (List.getElem_mem hi)
  · rw [rd_ge l i hi]; omega
/-- What stands from a place on, its lowest digit told. -/
theorem mag_drop (l : List Int) (i : Nat) : mag (l.drop i) = rd l (i : Int) + 4294967296 * mag (l.drop (i + 1)) := by
  rcases Nat.lt_or_ge i l.length with hi | hi
  · rw [List.drop_eq_getElem_cons hi, rd_lt l i hi]; rfl
  · rw [rd_ge l i hi, List.drop_of_length_le hi, List.drop_of_length_le (by omega)]; simp [mag]
theorem mag_take (l : List Int) (i : Nat) (hi : i < l.length) : mag (l.take (i + 1)) = mag (l.take i) + pw i * rd l (i : Int) := by
  rw [List.take_succ_eq_append_getElem hi, mag_snoc, rd_lt l i hi, List.length_take, Nat.min_eq_left (by omega)]
theorem mag_cut (l : List Int) (i : Nat) (hi : i ≤ l.length) : mag l = mag (l.take i) + pw i * mag (l.drop i) := by
  have h := mag_append (l.take i) (l.drop i)
  rw [List.take_append_drop, List.length_take, Nat.min_eq_left hi] at h
  exact h

theorem w64 (x : Int) (h : -9223372036854775808 ≤ x ∧ x ≤ 9223372036854775807) : wrap64 x = x := by unfold wrap64; omega
theorem stepw (n : Nat) (h : n ≤ 4398046511104) : wrap64 ((n : Int) + 1) = ((n + 1 : Nat) : Int) := by rw [w64 _ (by omega)]; omega
theorem u64 (x : Int) (h : 0 ≤ x ∧ x ≤ 18446744073709551615) : IntKind.u64.wrap x = x := by rw [IntKind.wrap_u64]; omega
theorem u64m (x : Int) : IntKind.u64.wrap x = x % 18446744073709551616 := IntKind.wrap_u64 x

/-! ### trim -/
theorem trim_tells (n : Nat) : ∀ (k : Nat) (l : List Int), l.length = n → n < k → n ≤ 1099511627776 →
    ∃ r, spec_trim.l0 k l = some r ∧ mag r = mag l ∧ Nrm r ∧ r.length ≤ l.length ∧ (Dig l → Dig r) := by
  induction n with
  | zero =>
    intro k l hl hk hb
    obtain ⟨k, rfl⟩ : ∃ m, k = m + 1 := ⟨k - 1, by omega⟩
    have e : l = [] := List.eq_nil_of_length_eq_zero hl
    subst e
    exact ⟨[], by simp [spec_trim.l0], rfl, .inl rfl, by simp, fun h => h⟩
  | succ n ih =>
    intro k l hl hk hb
    obtain ⟨k, rfl⟩ : ∃ m, k = m + 1 := ⟨k - 1, by omega⟩
    rcases List.eq_nil_or_concat l with e | ⟨l', d, e⟩
    · subst e; simp at hl
    · rw [List.concat_eq_append] at e
      subst e
      have hl' : l'.length = n := by simpa using hl
      have hw : wrap64 (((l' ++ [d]).length : Int) - 1) = (l'.length : Int) := by
        rw [w64 _ (by rw [List.length_append, List.length_cons, List.length_nil]; omega)]; simp
      have hr : rd (l' ++ [d]) (l'.length : Int) = d := by rw [rd_lt _ _ (by simp)]; simp
      simp only [spec_trim.l0]
      rw [hw, hr, if_pos (by simp <;> omega), if_pos (by omega), if_pos (by simp <;> omega)]
      by_cases hd : d = 0
      · subst hd
        rw [if_pos rfl, if_pos (by simp <;> omega), Int.toNat_natCast, List.take_left]
        obtain ⟨r, h1, h2, h3, h4, h5⟩ := ih k l' hl' (by omega) (by omega)
        exact ⟨r, h1, by rw [h2, mag_snoc]; simp, h3, by simp; omega, fun h => h5 h.left⟩
      · rw [if_neg hd]
        exact ⟨_, rfl, rfl, .inr ⟨l', d, rfl, hd⟩, Nat.le_refl _, fun h => h⟩
theorem trim_f (k : Nat) (l : List Int) (hk : l.length < k) (hb : l.length ≤ 1099511627776) :
    ∃ r, spec_trim.f k l = some r ∧ mag r = mag l ∧ Nrm r ∧ r.length ≤ l.length ∧ (Dig l → Dig r) := by
  unfold spec_trim.f
  exact trim_tells l.length k l rfl hk hb

/-! ### an integer: a sign and digits -/
structure Rep (b : Bool) (l : List Int) (z : Int) : Prop where
  dig : Dig l
  nrm : Nrm l
  neg : b = true → z = - mag l ∧ l ≠ []
  pos : b = false → z = mag l
theorem Rep.neg_lt {b : Bool} {l : List Int} {z : Int} (h : Rep b l z) (hb : b = true) : z < 0 := by
  obtain ⟨h1, h2⟩ := h.neg hb
  have := mag_ge h.dig h.nrm h2
  have := pw_pos (l.length - 1)
  omega
theorem Rep.pos_le {b : Bool} {l : List Int} {z : Int} (h : Rep b l z) (hb : b = false) : 0 ≤ z := by
  have := h.pos hb
  have := mag_nonneg h.dig
  omega
/-- What 'wide' makes of a sign and digits. -/
theorem rep_wide {b : Bool} {l r : List Int} (h2 : mag r = mag l) (h3 : Nrm r) (h5 : Dig r) : Rep (b && decide ((0 : Int) < (r.length : Int))) r (if b = true then - mag l else mag l) := by
  cases b with
  | false => exact ⟨h5, h3, (by intro h; cases h), fun _ => by simp [h2]⟩
  | true =>
    refine ⟨h5, h3, fun h => ?_, fun h => ?_⟩
    · have h0 : (0 : Int) < (r.length : Int) := by simpa using h
      exact ⟨by simp [h2], by rintro rfl; simp at h0⟩
    · have h0 : ¬ (0 : Int) < (r.length : Int) := by simpa using h
      have e : r = [] := List.eq_nil_of_length_eq_zero (by omega)
      subst e
      simp [mag] at h2 ⊢
      omega
theorem dig_pair (u : Int) : Dig [u % 4294967296, (u / 4294967296) % 4294967296] := Dig.mk_cons (by omega) (Dig.mk_cons (by omega) Dig.nil)
theorem mag_pair (u : Int) (h : 0 ≤ u ∧ u ≤ 18446744073709551615) : mag [u % 4294967296, (u / 4294967296) % 4294967296] = u := by simp only [mag]; omega

end Go.Proofs.YtlhfmbpijcniaaaGreat.WidemagDiv
