/- math.Frexp, math.Ldexp, math.Mod: whether a whole number is even. -/
import Derived.Test.YtkfnllonahlfeaaRfE
namespace Go.Proofs.Ytkfnllonahlfeaa.Rf
open Go.RowKit Ieee
set_option linter.unusedVariables false
set_option linter.unusedSimpArgs false

theorem xor_top (r : Nat) (h : r < 9223372036854775808) : r ^^^ 2 ^ 63 = 9223372036854775808 + r := by
  have e63 : (2 : Nat) ^ 63 = 9223372036854775808 := by decide
  have e := Nat.two_pow_add_eq_or_of_lt (i := 63) (b := r) (by rw [e63]; exact h) 1
  rw [Nat.mul_one, e63] at e
  rw [e, e63]
  apply Nat.eq_of_testBit_eq
  intro i
  rw [Nat.testBit_xor, Nat.testBit_or, ← e63, Nat.testBit_two_pow]
  by_cases hi : 63 = i
  · subst hi
    have : r.testBit 63 = false := Nat.testBit_lt_two_pow (by omega)
    rw [this]; simp
  · simp [hi]
theorem neg_val {x : Nat} (hx : Fin x) : Fin (Op.negFloat .f64 x) ∧ U (Op.negFloat .f64 x) = -U x := by
  have e : Op.negFloat .f64 x = D.word (!sg x) (rg x) := by
    show x ^^^ 2 ^ 63 = _
    have h0 := x_split hx.1
    have hr := (rg_word hx.1).1
    unfold Format.word
    rw [D_sw]
    cases hs : sg x
    · rw [hs] at h0
      simp only [Bool.false_eq_true, if_false, Nat.zero_add] at h0
      simp only [Bool.not_false, if_true]
      rw [← xor_top (rg x) hr, ← h0]
    · rw [hs] at h0
      simp only [if_true] at h0
      simp only [Bool.not_true, Bool.false_eq_true, if_false]
      have h1 := xor_top (rg x) hr
      rw [h0, ← h1, Nat.xor_assoc, Nat.xor_self, Nat.xor_zero]
      have h2 : rg (rg x ^^^ 2 ^ 63) = rg x := by rw [h1]; unfold rg; omega
      exact h2.symm
  obtain ⟨a, b⟩ := word_fin (!sg x) (rg x) hx.2
  rw [e]
  refine ⟨a, ?_⟩
  rw [b]
  unfold U
  cases sg x <;> simp
theorem fneg {x r : Nat} (h : Op.negFloat .f64 x = r) : Op.unary .neg (.float .f64 x) = pure (.float .f64 r) := by
  rw [← h]
  rfl
/-! ### where a whole number lies -/
theorem ex_of {r a : Nat} (h1 : 2 ^ a ≤ um r) (h2 : um r < 2 ^ (a + 1)) (ha : 53 ≤ a) : 4503599627370496 ≤ r ∧ r / 4503599627370496 = a - 51 := by
  have hpa : 2 ^ 53 ≤ 2 ^ a := Nat.pow_le_pow_right (by omega) ha
  rw [p53] at hpa
  have hge : 4503599627370496 ≤ r := by
    rcases Nat.lt_or_ge r 4503599627370496 with h | h
    · unfold um at h1; rw [if_pos h] at h1; omega
    · exact h
  refine ⟨hge, ?_⟩
  have hu : um r = (4503599627370496 + r % 4503599627370496) * 2 ^ (r / 4503599627370496 - 1) := by unfold um; rw [if_neg (by omega)]
  obtain ⟨k, hk⟩ : ∃ k, r / 4503599627370496 = k + 1 := ⟨r / 4503599627370496 - 1, by omega⟩
  rw [hk, Nat.add_sub_cancel] at hu
  have hp := Nat.two_pow_pos k
  have e1 : 2 ^ (52 + k) ≤ um r := by rw [hu, Nat.pow_add, p52]; exact Nat.mul_le_mul_right _ (by omega)
  have e2 : um r < 2 ^ (53 + k) := by rw [hu, Nat.pow_add, p53]; exact Nat.mul_lt_mul_of_pos_right (by omega) hp
  have f1 : 52 + k < a + 1 := (Nat.pow_lt_pow_iff_right (show 1 < 2 by omega)).1 (Nat.lt_of_le_of_lt e1 h2)
  have f2 : a < 53 + k := (Nat.pow_lt_pow_iff_right (show 1 < 2 by omega)).1 (Nat.lt_of_le_of_lt h1 e2)
  omega
/-- A double that is the whole number K, above zero. -/
structure IsI (r K : Nat) : Prop where
  fin : Fin r
  val : U r = (K : Int) * ONE
theorem IsI.um {r K : Nat} (h : IsI r K) : um (rg r) = K * ONE := by
  have := U_abs r
  rw [h.val, Int.natAbs_mul, Int.natAbs_natCast, Int.natAbs_natCast] at this
  exact this.symm
theorem IsI.pos {r K : Nat} (h : IsI r K) (hK : 0 < K) : sg r = false ∧ rg r = r ∧ r < 9223372036854775808 := by
  have hp : 0 < U r := by rw [h.val]; exact Int.mul_pos (by omega) (by have := ONE_pos; omega)
  have hs : sg r = false := by
    have := U_neg (x := r) (by omega)
    rw [this]; exact decide_eq_false (by omega)
  have h0 := x_split h.fin.1
  rw [hs] at h0
  simp only [Bool.false_eq_true, if_false, Nat.zero_add] at h0
  exact ⟨hs, h0.symm, by rw [h0]; exact (rg_word h.fin.1).1⟩
theorem IsI.exp {r K l : Nat} (h : IsI r K) (h1 : 2 ^ l ≤ K) (h2 : K < 2 ^ (l + 1)) : 4503599627370496 ≤ r ∧ ex r = 1023 + l := by
  have hK : 0 < K := by have := Nat.two_pow_pos l; omega
  obtain ⟨_, b, _⟩ := h.pos hK
  have hu := h.um
  have hKK := K1_eq
  have e := ex_of (r := rg r) (a := l + K1) (by rw [hu, Nat.pow_add]; exact Nat.mul_le_mul_right _ h1) (by rw [hu, show l + K1 + 1 = (l + 1) + K1 by omega, Nat.pow_add]; exact Nat.mul_lt_mul_of_pos_right h2 ONE_pos) (by omega)
  unfold ex
  rw [b] at e ⊢
  exact ⟨e.1, by rw [e.2]; omega⟩
theorem fin_two : IsI 4611686018427387904 2 := ⟨⟨by decide +kernel, by decide +kernel⟩, by decide +kernel⟩
theorem fin_small : Fin 4503599627370496 ∧ U 4503599627370496 = 4503599627370496 := ⟨⟨by decide +kernel, by decide +kernel⟩, by decide +kernel⟩
theorem one_big : (4503599627370496 : Int) < ONE := by
  have h : (2 : Nat) ^ 53 ≤ ONE := Nat.pow_le_pow_right (by omega) (by have := K1_eq; omega)
  rw [p53] at h
  omega
theorem IsI.not_small {r K : Nat} (h : IsI r K) (hK : 0 < K) : (FloatKind.f64.format.order r 4503599627370496 == some .lt) = false := by
  show (D.order r 4503599627370496 == some .lt) = false
  rw [lt_fin h.fin fin_small.1, h.val, fin_small.2]
  have h2 := one_big
  have h3 := Int.mul_le_mul_of_nonneg_right (show (1 : Int) ≤ (K : Int) by omega) (show (0 : Int) ≤ (ONE : Int) by omega)
  exact decide_eq_false (by omega)
theorem IsI.not_zero {r K : Nat} (h : IsI r K) (hK : 0 < K) : (FloatKind.f64.format.order r 0 == some .eq) = false := by
  show (D.order r 0 == some .eq) = false
  rw [eq_fin h.fin fin_zero.1, h.val, fin_zero.2]
  have h2 := one_big
  have h3 := Int.mul_le_mul_of_nonneg_right (show (1 : Int) ≤ (K : Int) by omega) (show (0 : Int) ≤ (ONE : Int) by omega)
  exact decide_eq_false (by omega)
set_option maxRecDepth 100000 in
theorem normalize_fn (r K : Nat) (h : IsI r K) (hK : 0 < K) (w : World) : Calls Try.prog 51 #[.float .f64 r] w (fun e w' => e = .returned (.tuple #[.float .f64 r, .int .i64 0]) ∧ w = w') := by
  have h1 := h.not_small hK
  have ha := Aside0.mk (fun W => abs_fn r h.fin.1 W)
  rw [(h.pos hK).2.1] at ha
  clear h hK
  go_enter Try.func51, Try.ntmps51
  go_wp2_with (go_at_call 11; refine (ha.out _).mono ?_; rintro e w' ⟨rfl, rfl⟩)
  go_ret2
  exact ⟨rfl, rfl⟩
theorem test_no {r K : Nat} (h : IsI r K) (hK : 0 < K) : rg r ≠ 9218868437227405312 := by have := h.fin.2; omega
/-- What math.Frexp makes of a whole number. -/
def fr (r : Nat) : Nat := 1022 * 4503599627370496 + r % 4503599627370496
set_option maxRecDepth 100000 in
theorem frexp_in (r K l : Nat) (h : IsI r K) (h1 : 2 ^ l ≤ K) (h2 : K < 2 ^ (l + 1)) (hl : l ≤ 60) (w : World) : Calls Try.prog 48 #[.float .f64 r] w (fun e w' => e = .returned (.tuple #[.float .f64 (fr r), .int .i64 ((ex r : Int) - 1023 + 1)]) ∧ w = w') := by
  have hK : 0 < K := by have := Nat.two_pow_pos l; omega
  have hz := h.not_zero hK
  have hi := Aside0.mk (fun W => isInf_fn r h.fin.num W)
  rw [decide_eq_false (test_no h hK)] at hi
  have hn := Aside0.mk (fun W => isNaN_fn r h.fin.num W)
  have ho := Aside0.mk (fun W => normalize_fn r K h hK W)
  have hb := bits64 r
  obtain ⟨_, p2, p3⟩ := h.pos hK
  have he := exp_bits r h.fin.1
  have hex := (h.exp h1 h2).2
  obtain ⟨E, hE⟩ : ∃ E, ex r = E := ⟨_, rfl⟩
  rw [hE] at he hex ⊢
  have hE1 : 1023 ≤ E := by omega
  have hE2 : E ≤ 1083 := by omega
  have hlo := low_bits r p3
  obtain ⟨f, hf⟩ : ∃ f, r % 4503599627370496 = f := ⟨_, rfl⟩
  have hfl : f < 4503599627370496 := by omega
  rw [hf] at hlo
  have hpe := put_exp f 1022 hfl (by omega)
  unfold fr
  rw [hf]
  obtain ⟨z, hz1⟩ : ∃ z, 1022 * 4503599627370496 + f = z := ⟨_, rfl⟩
  rw [hz1] at hpe ⊢
  have hpe' : Go.bits .or .u64 (f : Int) 4602678819172646912 = (z : Int) := hpe
  have h3 := from64 (z : Int)
  rw [Int.toNat_natCast] at h3
  clear h h1 h2 hK p2 p3 hpe hf hfl hz1 hex hE
  go_enter Try.func48, Try.ntmps48
  go_wp2_with (first | (go_at_call 7; refine (hi.out _).mono ?_; rintro e w' ⟨rfl, rfl⟩) | (go_at_call 35; refine (hn.out _).mono ?_; rintro e w' ⟨rfl, rfl⟩) | (go_at_call 51; refine (ho.out _).mono ?_; rintro e w' ⟨rfl, rfl⟩))
  go_ret2
  exact ⟨rfl, rfl⟩
set_option maxRecDepth 100000 in
theorem frexp_fn (r K l : Nat) (h : IsI r K) (h1 : 2 ^ l ≤ K) (h2 : K < 2 ^ (l + 1)) (hl : l ≤ 60) (w : World) : Calls Try.prog 40 #[.float .f64 r] w (fun e w' => e = .returned (.tuple #[.float .f64 (fr r), .int .i64 ((l + 1 : Nat) : Int)]) ∧ w = w') := by
  have hi := Aside0.mk (fun W => frexp_in r K l h h1 h2 hl W)
  rw [show (ex r : Int) - 1023 + 1 = ((l + 1 : Nat) : Int) by rw [(h.exp h1 h2).2]; omega] at hi
  clear h h1 h2
  generalize l + 1 = y at hi ⊢
  go_enter Try.func40, Try.ntmps40
  go_wp2_with (go_at_call 48; refine (hi.out _).mono ?_; rintro e w' ⟨rfl, rfl⟩)
  go_ret2
  exact ⟨rfl, rfl⟩
theorem fr_not {r K : Nat} (h : IsI r K) (hK : 0 < K) : (FloatKind.f64.format.order (fr r) 4602678819172646912 == some .lt) = false := by
  show (D.order (fr r) 4602678819172646912 == some .lt) = false
  have hr : fr r < 9223372036854775808 := by unfold fr; omega
  have hf : Fin (fr r) := ⟨by omega, by unfold fr rg; omega⟩
  rw [lt_fin hf fin_half.1]
  have hs : sg (fr r) = false := by unfold sg; rw [Nat.div_eq_of_lt hr]; rfl
  have hrg : rg (fr r) = fr r := by unfold rg; exact Nat.mod_eq_of_lt hr
  have hu : U (fr r) = (um (fr r) : Int) := by unfold U; rw [hs, hrg]; rfl
  have hm := um_mid (r := fr r) (by unfold fr; omega) (by unfold fr; omega)
  have h2 := fin_half.2.1
  exact decide_eq_false (by omega)
/-! ### Ldexp of two -/
def pw (l : Nat) : Nat := (1023 + l) * 4503599627370496
theorem pw_val (l : Nat) (hl : l ≤ 60) : IsI (pw l) (2 ^ l) := by
  have hr : pw l < 9223372036854775808 := by unfold pw; omega
  have hs : sg (pw l) = false := by unfold sg; rw [Nat.div_eq_of_lt hr]; rfl
  have hrg : rg (pw l) = pw l := by unfold rg; exact Nat.mod_eq_of_lt hr
  refine ⟨⟨by omega, by rw [hrg]; unfold pw; omega⟩, ?_⟩
  have e : um (pw l) = 2 ^ l * ONE := by
    have h1 : pw l = (1022 + l) * 4503599627370496 + 4503599627370496 := by unfold pw; omega
    rw [h1, um_kept _ _ (by omega) (by omega), ← p52, ← Nat.pow_add]
    unfold ONE
    rw [← Nat.pow_add]
    exact congrArg (fun n : Nat => 2 ^ n) (by have := K1_eq; omega)
  unfold U
  rw [hs, hrg, e]
  push_cast
  rfl
theorem one_mul_pw (l : Nat) (hl : l ≤ 60) : D.mul 4607182418800017408 (pw l) = some (pw l) := by
  have hp := pw_val l hl
  have hr : pw l < 9223372036854775808 := by unfold pw; omega
  have hs : sg (pw l) = false := by unfold sg; rw [Nat.div_eq_of_lt hr]; rfl
  have hrg : rg (pw l) = pw l := by unfold rg; exact Nat.mod_eq_of_lt hr
  have hmp : mp (pw l) = 4503599627370496 ∧ kp (pw l) = 1022 + l := by
    unfold mp kp pw
    rw [if_neg (by omega), if_neg (by omega)]
    exact ⟨by omega, by omega⟩
  have o1 : mp (rg 4607182418800017408) = 4503599627370496 := by decide +kernel
  have o2 : kp (rg 4607182418800017408) = 1022 := by decide +kernel
  have o3 : sg 4607182418800017408 = false := by decide +kernel
  have h := mul_units fin_one.1 hp.fin (by rw [o2, hrg, hmp.2]; have := K1_eq; omega)
  rw [o1, o2, o3, hrg, hs, hmp.1, hmp.2] at h
  rw [h]
  have hu := hp.um
  rw [hrg] at hu
  have e : 4503599627370496 * 4503599627370496 * 2 ^ (1022 + (1022 + l) - K1) = um (pw l) := by
    rw [hu, ← p52, ← Nat.pow_add, ← Nat.pow_add]
    unfold ONE
    rw [← Nat.pow_add]
    exact congrArg (fun n : Nat => 2 ^ n) (by have := K1_eq; omega)
  rw [e, rr_um (by have := hp.fin.2; rw [hrg] at this; exact this)]
  rfl
set_option maxRecDepth 100000 in
theorem ldexp_in (l : Nat) (hl1 : 1 ≤ l) (hl : l ≤ 60) (w : World) : Calls Try.prog 50 #[.float .f64 4611686018427387904, .int .i64 ((l : Int) - 1)] w (fun e w' => e = .returned (.float .f64 (pw l)) ∧ w = w') := by
  have hz := fin_two.not_zero (by omega)
  have hi := Aside0.mk (fun W => isInf_fn _ fin_two.fin.num W)
  rw [decide_eq_false (test_no fin_two (by omega))] at hi
  have hn := Aside0.mk (fun W => isNaN_fn _ fin_two.fin.num W)
  have ho := Aside0.mk (fun W => normalize_fn _ 2 fin_two (by omega) W)
  have hb := bits64 4611686018427387904
  have e1 : Go.bits .and .i64 1024 2047 = 1024 := by decide +kernel
  have e2 : Go.bits .andNot .u64 4611686018427387904 9218868437227405312 = 0 := by decide +kernel
  obtain ⟨z, hz1⟩ : ∃ z, pw l = z := ⟨_, rfl⟩
  have e3 : IntKind.u64.wrap (((l : Int) + 1023) * 4503599627370496) = (z : Int) := by
    rw [IntKind.wrap_u64, ← hz1]
    unfold pw
    omega
  have e4 : Go.bits .or .u64 0 (z : Int) = (z : Int) := by
    have h := u64_or_nat 0 z (by omega) (by rw [← hz1]; unfold pw; omega)
    rw [Nat.zero_or] at h
    exact h
  have h3 := from64 (z : Int)
  rw [Int.toNat_natCast] at h3
  have hm := fmul (one_mul_pw l hl)
  rw [hz1] at hm ⊢
  clear hz1
  go_enter Try.func50, Try.ntmps50
  go_wp2_with (first | (go_at_call 7; refine (hi.out _).mono ?_; rintro e w' ⟨rfl, rfl⟩) | (go_at_call 35; refine (hn.out _).mono ?_; rintro e w' ⟨rfl, rfl⟩) | (go_at_call 51; refine (ho.out _).mono ?_; rintro e w' ⟨rfl, rfl⟩))
  go_ret
  exact ⟨rfl, rfl⟩
set_option maxRecDepth 100000 in
theorem ldexp_fn (l : Nat) (hl1 : 1 ≤ l) (hl : l ≤ 60) (w : World) : Calls Try.prog 41 #[.float .f64 4611686018427387904, .int .i64 ((l : Int) - 1)] w (fun e w' => e = .returned (.float .f64 (pw l)) ∧ w = w') := by
  have hi := Aside0.mk (fun W => ldexp_in l hl1 hl W)
  obtain ⟨z, hz⟩ : ∃ z, pw l = z := ⟨_, rfl⟩
  rw [hz] at hi ⊢
  clear hz
  generalize (l : Int) - 1 = y at hi ⊢
  go_enter Try.func41, Try.ntmps41
  go_wp2_with (go_at_call 50; refine (hi.out _).mono ?_; rintro e w' ⟨rfl, rfl⟩)
  go_ret
  exact ⟨rfl, rfl⟩

end Go.Proofs.Ytkfnllonahlfeaa.Rf
