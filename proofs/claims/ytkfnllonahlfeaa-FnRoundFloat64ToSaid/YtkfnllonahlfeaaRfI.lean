/- math.Mod of a whole number by two. -/
import Derived.Test.YtkfnllonahlfeaaRfH
namespace Go.Proofs.Ytkfnllonahlfeaa.Rf
open Go.RowKit Ieee
set_option linter.unusedVariables false
set_option linter.unusedSimpArgs false

def fb : Value → Nat
  | .float _ b => b
  | _ => 0
def ModR (L : Int) (w : World) (e : Ending) (w' : World) : Prop := ∃ a, e = .returned (.float .f64 a) ∧ (FloatKind.f64.format.order a 0 == some .eq) = decide (L % 2 = 0) ∧ w = w'
theorem IsI.gt_two {r R : Nat} (h : IsI r R) : (FloatKind.f64.format.order r 4611686018427387904 == some .gt) = decide (2 < R) ∧ (FloatKind.f64.format.order r 4611686018427387904 == some .eq) = decide (R = 2) := by
  have hO := ONE_pos
  have e1 : (2 * (ONE : Int) < (R : Int) * ONE) ↔ 2 < R := ⟨fun h => by have := Int.lt_of_mul_lt_mul_right h (by omega); omega, fun h => Int.mul_lt_mul_of_pos_right (by omega) (by omega)⟩
  have e2 : ((R : Int) * ONE = 2 * (ONE : Int)) ↔ R = 2 := ⟨fun h => by have := Int.eq_of_mul_eq_mul_right (by omega) h; omega, fun h => by rw [h]; rfl⟩
  refine ⟨?_, ?_⟩
  · show (D.order r 4611686018427387904 == some .gt) = _
    rw [gt_fin h.fin fin_two.fin, h.val, fin_two.val]
    simp only [show ((2 : Nat) : Int) = 2 from rfl, e1]
  · show (D.order r 4611686018427387904 == some .eq) = _
    rw [eq_fin h.fin fin_two.fin, h.val, fin_two.val]
    simp only [show ((2 : Nat) : Int) = 2 from rfl, e2]
theorem sub_pw {r R l : Nat} (h : IsI r R) (h1 : 2 ^ l ≤ R) (hR : R < 2 ^ 53) (hl : l ≤ 60) : ∃ r', D.sub r (pw l) = some r' ∧ IsI r' (R - 2 ^ l) := by
  have hp := pw_val l hl
  have e : U r - U (pw l) = ((R - 2 ^ l : Nat) : Int) * ONE := by
    rw [h.val, hp.val, ← Int.sub_mul, Int.ofNat_sub h1]
  obtain ⟨M, k, m1, m2, m3⟩ := whole_exact ((R - 2 ^ l : Nat) : Int) (by rw [Int.natAbs_natCast]; exact Nat.lt_of_le_of_lt (Nat.sub_le _ _) hR) _ e
  obtain ⟨r', a1, a2, a3⟩ := sub_exact h.fin hp.fin M k m1 m2 m3
  exact ⟨r', a1, ⟨a2, by rw [a3, e]⟩⟩
theorem pow_even {l : Nat} (h : 1 ≤ l) : 2 ^ l % 2 = 0 := by
  obtain ⟨k, rfl⟩ : ∃ k, l = k + 1 := ⟨l - 1, by omega⟩
  rw [Nat.pow_succ]; omega
theorem end_eq {a : Nat} {L : Int} {R : Nat} (hf : Fin a) (hU : (U a).natAbs = R * ONE) (hR : R < 2) (hp : (R : Int) % 2 = L % 2) : (FloatKind.f64.format.order a 0 == some .eq) = decide (L % 2 = 0) := by
  show (D.order a 0 == some .eq) = _
  rw [eq_fin hf fin_zero.1, fin_zero.2]
  have hO := ONE_pos
  rcases (show R = 0 ∨ R = 1 by omega) with rfl | rfl
  · rw [decide_eq_true (by omega), decide_eq_true (by omega)]
  · rw [decide_eq_false (by omega), decide_eq_false (by omega)]
set_option maxRecDepth 100000 in
set_option maxHeartbeats 2000000 in
theorem mod_in (x : Nat) (hx : Fin x) (L : Int) (hL : U x = L * ONE) (h0 : -4503599627370496 ≤ L) (h1 : L ≤ 4503599627370496) (w : World) : Calls Try.prog 20 #[.float .f64 x, .float .f64 4611686018427387904] w (ModR L w) := by
  have hO := ONE_pos
  have z2 := fin_two.not_zero (by omega)
  have hix := Aside0.mk (fun W => isInf_fn x hx.num W)
  rw [decide_eq_false (show rg x ≠ 9218868437227405312 by have := hx.2; omega)] at hix
  have hnx := Aside0.mk (fun W => isNaN_fn x hx.num W)
  have hn2 := Aside0.mk (fun W => isNaN_fn _ fin_two.fin.num W)
  have ha2 := Aside0.mk (fun W => abs_fn _ fin_two.fin.1 W)
  rw [(fin_two.pos (by omega)).2.1] at ha2
  have hf2 := Aside0.mk (fun W => frexp_fn _ 2 1 fin_two (by omega) (by omega) (by omega) W)
  have e2 : fr 4611686018427387904 = 4602678819172646912 := by decide
  rw [e2] at hf2
  have hlt : (FloatKind.f64.format.order x 0 == some .lt) = decide (L < 0) := by
    show (D.order x 0 == some .lt) = _
    rw [lt_fin hx fin_zero.1, fin_zero.2, hL]
    have : (L * (ONE : Int) < 0) ↔ L < 0 := ⟨fun h => by
      rcases Int.lt_or_le L 0 with h2 | h2
      · exact h2
      · have := Int.mul_nonneg h2 (show (0 : Int) ≤ (ONE : Int) by omega); omega, fun h => Int.mul_neg_of_neg_of_pos h (by omega)⟩
    simp only [this]
  obtain ⟨nx, hnxe⟩ : ∃ nx, Op.negFloat .f64 x = nx := ⟨_, rfl⟩
  have hneg := fneg hnxe
  have hnv := neg_val hx
  rw [hnxe, hL] at hnv
  have HX := Aside0.mk (And.intro hx hL)
  have HN := Aside0.mk hnv
  clear hx hL hnv hnxe e2
  by_cases hl : L < 0
  · rw [decide_eq_true hl] at hlt
    have hr0 := Aside0.mk (show IsI nx L.natAbs from ⟨HN.out.1, by rw [HN.out.2, ← Int.neg_mul]; congr 1; omega⟩)
    go_enter Try.func20, Try.ntmps20
    go_wp2_with (first
      | (go_at_call 7; refine (hix.out _).mono ?_; rintro e w' ⟨rfl, rfl⟩)
      | (go_at_call 35; refine (hnx.out _).mono ?_; rintro e w' ⟨rfl, rfl⟩)
      | (go_at_call 35; refine (hn2.out _).mono ?_; rintro e w' ⟨rfl, rfl⟩)
      | (go_at_call 11; refine (ha2.out _).mono ?_; rintro e w' ⟨rfl, rfl⟩)
      | (go_at_call 40; refine (hf2.out _).mono ?_; rintro e w' ⟨rfl, rfl⟩))
    clear hix hnx hn2 ha2 hf2 z2
    go_loopw [7] (fun v wr => ∃ r R : Nat, v = .float .f64 r ∧ Aside0 (IsI r R) ∧ R < 2 ^ 53 ∧ Aside0 ((R : Int) % 2 = L % 2) ∧ w = wr) (fun v _ => (U (fb v)).toNat)
    case atStart => exact ⟨nx, L.natAbs, rfl, hr0, by rw [p53]; omega, ⟨by omega⟩, rfl⟩
    case round =>
      obtain ⟨r, R, rfl, HI, hR, HP, rfl⟩ := hrel
      obtain ⟨gt2, eq2⟩ := HI.out.gt_two
      by_cases hlt2 : R < 2
      · rw [decide_eq_false (by omega)] at gt2 eq2
        obtain ⟨nr, hnre⟩ : ∃ nr, Op.negFloat .f64 r = nr := ⟨_, rfl⟩
        have hnegr := fneg hnre
        have hnv := neg_val HI.out.fin
        rw [hnre] at hnv
        have HNV := Aside0.mk hnv
        clear hnv hnre
        go_wp2_with fail
        go_ret
        exact ⟨nr, rfl, end_eq HNV.out.1 (by rw [HNV.out.2, HI.out.val, Int.natAbs_neg, Int.natAbs_mul, Int.natAbs_natCast, Int.natAbs_natCast]) hlt2 HP.out, rfl⟩
      · obtain ⟨l, hl1⟩ : ∃ l, R.log2 = l := ⟨_, rfl⟩
        have hlo := Nat.log2_self_le (show R ≠ 0 by omega)
        have hhi := @Nat.lt_log2_self R
        rw [hl1] at hlo hhi
        have hl52 : l ≤ 52 := by
          have := (Nat.pow_lt_pow_iff_right (show 1 < 2 by omega)).1 (Nat.lt_of_le_of_lt hlo hR)
          omega
        have hl0 : 1 ≤ l := by
          rcases Nat.eq_zero_or_pos l with h | h
          · subst h; omega
          · exact h
        have HFR := Aside0.mk (fun W => frexp_fn r R l HI.out hlo hhi (by omega) W)
        have HLD := Aside0.mk (show ∀ W : World, Calls Try.prog 41 #[.float .f64 4611686018427387904, .int .i64 ((l : Int) + 1 - 2)] W (fun e w' => e = .returned (.float .f64 (pw l)) ∧ W = w') from fun W => by rw [show (l : Int) + 1 - 2 = (l : Int) - 1 by omega]; exact ldexp_fn l hl0 (by omega) W)
        have hfn := fr_not HI.out (by omega)
        obtain ⟨r', hs, hI'⟩ := sub_pw HI.out hlo hR (by omega)
        have hsub := fsub hs
        have HI2 := Aside0.mk hI'
        have HP2 := Aside0.mk (show ((R - 2 ^ l : Nat) : Int) % 2 = L % 2 by
          have h3 := pow_even hl0
          have h4 := HP.out
          omega)
        have HD := Aside0.mk (show (U r').toNat < (U r).toNat by
          rw [hI'.val, HI.out.val]
          have h5 := Nat.two_pow_pos l
          have h6 : ((R - 2 ^ l : Nat) : Int) * ONE < (R : Int) * ONE := Int.mul_lt_mul_of_pos_right (by omega) (by omega)
          have h7 : 0 ≤ ((R - 2 ^ l : Nat) : Int) * ONE := Int.mul_nonneg (by omega) (by omega)
          omega)
        have hR2 : R - 2 ^ l < 2 ^ 53 := Nat.lt_of_le_of_lt (Nat.sub_le _ _) hR
        generalize R - 2 ^ l = R' at HI2 HP2 hR2
        generalize fr r = fr1 at HFR hfn
        generalize pw l = pw1 at HLD hsub
        clear hs hI' hlo hhi hl1 hR
        rcases (show 2 < R ∨ R = 2 by omega) with h2 | h2
        · rw [decide_eq_true h2] at gt2
          rw [decide_eq_false (by omega)] at eq2
          clear h2 hlt2
          go_wp2_with (first
            | (go_at_call 40; refine (HFR.out _).mono ?_; rintro e w' ⟨rfl, rfl⟩)
            | (go_at_call 41; refine (HLD.out _).mono ?_; rintro e w' ⟨rfl, rfl⟩))
          go_roundw
          case rel => exact ⟨r', R', rfl, HI2, hR2, HP2, trivial⟩
          case measure => exact HD.out
        · rw [decide_eq_false (by omega)] at gt2
          rw [decide_eq_true h2] at eq2
          clear h2 hlt2
          go_wp2_with (first
            | (go_at_call 40; refine (HFR.out _).mono ?_; rintro e w' ⟨rfl, rfl⟩)
            | (go_at_call 41; refine (HLD.out _).mono ?_; rintro e w' ⟨rfl, rfl⟩))
          go_roundw
          case rel => exact ⟨r', R', rfl, HI2, hR2, HP2, trivial⟩
          case measure => exact HD.out
  · rw [decide_eq_false hl] at hlt
    have hr0 := Aside0.mk (show IsI x L.natAbs from ⟨HX.out.1, by rw [HX.out.2]; congr 1; omega⟩)
    go_enter Try.func20, Try.ntmps20
    go_wp2_with (first
      | (go_at_call 7; refine (hix.out _).mono ?_; rintro e w' ⟨rfl, rfl⟩)
      | (go_at_call 35; refine (hnx.out _).mono ?_; rintro e w' ⟨rfl, rfl⟩)
      | (go_at_call 35; refine (hn2.out _).mono ?_; rintro e w' ⟨rfl, rfl⟩)
      | (go_at_call 11; refine (ha2.out _).mono ?_; rintro e w' ⟨rfl, rfl⟩)
      | (go_at_call 40; refine (hf2.out _).mono ?_; rintro e w' ⟨rfl, rfl⟩))
    clear hix hnx hn2 ha2 hf2 z2
    go_loopw [7] (fun v wr => ∃ r R : Nat, v = .float .f64 r ∧ Aside0 (IsI r R) ∧ R < 2 ^ 53 ∧ Aside0 ((R : Int) % 2 = L % 2) ∧ w = wr) (fun v _ => (U (fb v)).toNat)
    case atStart => exact ⟨x, L.natAbs, rfl, hr0, by rw [p53]; omega, ⟨by omega⟩, rfl⟩
    case round =>
      obtain ⟨r, R, rfl, HI, hR, HP, rfl⟩ := hrel
      obtain ⟨gt2, eq2⟩ := HI.out.gt_two
      by_cases hlt2 : R < 2
      · rw [decide_eq_false (by omega)] at gt2 eq2
        go_wp2_with fail
        go_ret
        exact ⟨r, rfl, end_eq HI.out.fin (by rw [HI.out.val, Int.natAbs_mul, Int.natAbs_natCast, Int.natAbs_natCast]) hlt2 HP.out, rfl⟩
      · obtain ⟨l, hl1⟩ : ∃ l, R.log2 = l := ⟨_, rfl⟩
        have hlo := Nat.log2_self_le (show R ≠ 0 by omega)
        have hhi := @Nat.lt_log2_self R
        rw [hl1] at hlo hhi
        have hl52 : l ≤ 52 := by
          have := (Nat.pow_lt_pow_iff_right (show 1 < 2 by omega)).1 (Nat.lt_of_le_of_lt hlo hR)
          omega
        have hl0 : 1 ≤ l := by
          rcases Nat.eq_zero_or_pos l with h | h
          · subst h; omega
          · exact h
        have HFR := Aside0.mk (fun W => frexp_fn r R l HI.out hlo hhi (by omega) W)
        have HLD := Aside0.mk (show ∀ W : World, Calls Try.prog 41 #[.float .f64 4611686018427387904, .int .i64 ((l : Int) + 1 - 2)] W (fun e w' => e = .returned (.float .f64 (pw l)) ∧ W = w') from fun W => by rw [show (l : Int) + 1 - 2 = (l : Int) - 1 by omega]; exact ldexp_fn l hl0 (by omega) W)
        have hfn := fr_not HI.out (by omega)
        obtain ⟨r', hs, hI'⟩ := sub_pw HI.out hlo hR (by omega)
        have hsub := fsub hs
        have HI2 := Aside0.mk hI'
        have HP2 := Aside0.mk (show ((R - 2 ^ l : Nat) : Int) % 2 = L % 2 by
          have h3 := pow_even hl0
          have h4 := HP.out
          omega)
        have HD := Aside0.mk (show (U r').toNat < (U r).toNat by
          rw [hI'.val, HI.out.val]
          have h5 := Nat.two_pow_pos l
          have h6 : ((R - 2 ^ l : Nat) : Int) * ONE < (R : Int) * ONE := Int.mul_lt_mul_of_pos_right (by omega) (by omega)
          have h7 : 0 ≤ ((R - 2 ^ l : Nat) : Int) * ONE := Int.mul_nonneg (by omega) (by omega)
          omega)
        have hR2 : R - 2 ^ l < 2 ^ 53 := Nat.lt_of_le_of_lt (Nat.sub_le _ _) hR
        generalize R - 2 ^ l = R' at HI2 HP2 hR2
        generalize fr r = fr1 at HFR hfn
        generalize pw l = pw1 at HLD hsub
        clear hs hI' hlo hhi hl1 hR
        rcases (show 2 < R ∨ R = 2 by omega) with h2 | h2
        · rw [decide_eq_true h2] at gt2
          rw [decide_eq_false (by omega)] at eq2
          clear h2 hlt2
          go_wp2_with (first
            | (go_at_call 40; refine (HFR.out _).mono ?_; rintro e w' ⟨rfl, rfl⟩)
            | (go_at_call 41; refine (HLD.out _).mono ?_; rintro e w' ⟨rfl, rfl⟩))
          go_roundw
          case rel => exact ⟨r', R', rfl, HI2, hR2, HP2, trivial⟩
          case measure => exact HD.out
        · rw [decide_eq_false (by omega)] at gt2
          rw [decide_eq_true h2] at eq2
          clear h2 hlt2
          go_wp2_with (first
            | (go_at_call 40; refine (HFR.out _).mono ?_; rintro e w' ⟨rfl, rfl⟩)
            | (go_at_call 41; refine (HLD.out _).mono ?_; rintro e w' ⟨rfl, rfl⟩))
          go_roundw
          case rel => exact ⟨r', R', rfl, HI2, hR2, HP2, trivial⟩
          case measure => exact HD.out
set_option maxRecDepth 100000 in
theorem mod_fn (x : Nat) (hx : Fin x) (L : Int) (hL : U x = L * ONE) (h0 : -4503599627370496 ≤ L) (h1 : L ≤ 4503599627370496) (w : World) : Calls Try.prog 14 #[.float .f64 x, .float .f64 4611686018427387904] w (ModR L w) := by
  have hi := Aside0.mk (fun W => mod_in x hx L hL h0 h1 W)
  clear hx hL h0 h1
  go_enter Try.func14, Try.ntmps14
  go_wp2_with (go_at_call 20; refine (hi.out _).mono ?_; rintro e w' ⟨a, rfl, ha, rfl⟩; have HA := Aside0.mk ha; clear ha)
  go_ret
  exact ⟨a, rfl, HA.out, rfl⟩

end Go.Proofs.Ytkfnllonahlfeaa.Rf
