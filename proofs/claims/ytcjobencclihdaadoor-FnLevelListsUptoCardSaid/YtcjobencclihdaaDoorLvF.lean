/- Whether rows fit. -/
import Derived.Test.YtcjobencclihdaaDoorLvN
namespace Go.Proofs.YtcjobencclihdaaDoor.Lv
open Go.RowKit Go.Proofs.YtcjobencclihdaaDoorW.PrintWords Go.Proofs.YtcjobencclihdaaDoorW.PrintLast Go.Proofs.YtcjobencclihdaaDoorW.PrintMore
set_option linter.unusedVariables false
set_option linter.unusedSimpArgs false

/-- What rowsFit tells. -/
def FitR (lv : Int) (ts : List T) (w : World) (e : Ending) (w' : World) : Prop := ∃ b, e = .returned (.bool b) ∧ Below w.heap.size w w' ∧
  (b = true → 0 ≤ lv ∧ lv ≤ 4 ∧ ts.length ≤ 500 ∧ (∀ j : Nat, (j : Int) ≤ lv → (atT j ts).length ≤ 2000) ∧ ts.all (nested lv.toNat) = true)
theorem fit_no {lv : Int} {ts : List T} {w w' : World} (hb : Below w.heap.size w w') : FitR lv ts w (.returned (.bool false)) w' := ⟨false, rfl, hb, fun h => absurd h (by decide)⟩
theorem at5 (x : Nat) (hx : x ≤ 4) (A : Option Addr) (n c : Nat) (vs : List V) (ts : List T) (w : World) (h : Row w 5 A n vs ts) (hc : n ≤ c) (hs : ∀ j, j ≤ 5 → (atT j ts).length ≤ 1048576) :
    Calls Tryd.prog 6 #[.slice A n c, .int .i64 x] w (RetAt (5 - x) x ts w) :=
  at_fn (5 - x) x A n c vs ts w (by rw [show 5 - x + x = 5 by omega]; exact h) hc (by omega) (fun j hj => hs j (by omega))
set_option maxRecDepth 100000 in
set_option maxHeartbeats 2000000 in
theorem rowsFit_fn (lv : Int) (A : Option Addr) (n c : Nat) (vs : List V) (ts : List T) (w : World) (h : Row w 5 A n vs ts) (hc : n ≤ c) (hs : ∀ j, j ≤ 5 → (atT j ts).length ≤ 1048576) :
    Calls Tryd.prog 4 #[.slice A n c, .int .i64 lv] w (FitR lv ts w) := by
  have H0 := Aside0.mk h
  have HS := Aside0.mk hs
  obtain ⟨hvl, htl⟩ := h.len
  have hn : n ≤ 1048576 := by have := hs 0 (by omega); rw [show atT 0 ts = ts from rfl] at this; omega
  have HTL := Aside0.mk htl
  clear h hs htl hvl
  go_enter Tryd.func4, Tryd.ntmps4
  go_wp2_with fail
  all_goals first
    | (go_ret; exact fit_no (by go_grown))
    | skip
  obtain ⟨L, rfl⟩ : ∃ L : Nat, lv = L := ⟨lv.toNat, by omega⟩
  have hL : L ≤ 4 := by omega
  have e1 : decide ((L : Int) < 0) = false := by simp
  have e2 : decide (4 < (L : Int)) = false := by simp; omega
  have e3 : decide (500 < (n : Int)) = false := by simp; omega
  simp only [e1, e2, e3, Bool.or_false, Bool.or_self]
  go_loopw [5] (fun i wr => ∃ (x : Nat), x ≤ L + 1 ∧ i = .int .i64 x ∧ Aside0 (∀ j, j < x → (atT j ts).length ≤ 2000) ∧ Aside0 (Below w.heap.size w wr)) (fun i _ => L + 1 - (intOf i).toNat)
  case atStart => exact ⟨0, Nat.zero_le _, rfl, ⟨fun j h => absurd h (Nat.not_lt_zero _)⟩, ⟨by go_grown⟩⟩
  case round =>
    obtain ⟨x, hx, rfl, HJ, HB⟩ := hrel
    by_cases hlt : x ≤ L
    · go_wp2_with (go_at_call 6; refine (at5 x (by omega) A n c vs ts wr (H0.out.below HB.out) hc HS.out).mono ?_; refine stopHere ?_)
      unfold Stop
      rintro e w9 ⟨A9, c9, v9, rfl, hc9, _, hb9⟩
      have HB9 := Aside0.mk (HB.out.trans (hb9.mono HB.out.size))
      have HN := Aside0.mk (HS.out x (by omega))
      have HX := Aside0.mk (show (atT x ts).length ≤ 2000 → ∀ j, j < x + 1 → (atT j ts).length ≤ 2000 from fun h j hj => by
        rcases Nat.lt_or_ge j x with h2 | h2
        · exact HJ.out j h2
        · obtain rfl : j = x := by omega
          exact h)
      clear hb9
      generalize (atT x ts).length = m9 at HN HX hc9
      have hm9 := HN.out
      clear HN
      go_wp2_with fail
      · go_ret
        exact fit_no HB9.out
      · exact ⟨⟨x + 1, by omega, by go_num, ⟨HX.out (by omega)⟩, HB9⟩, by simp [intOf]; omega⟩
    · obtain rfl : x = L + 1 := by omega
      have HJ2 := Aside0.mk (show ∀ j : Nat, (j : Int) ≤ (L : Int) → (atT j ts).length ≤ 2000 from fun j h => HJ.out j (by omega))
      have HT2 := H0.out.len.2
      have e4 : decide ((L : Int) + 1 ≤ L) = false := decide_eq_false (by omega)
      go_wp2_with fail
      generalize ((L + 1 : Nat) : Int) = l1
      go_loopw [31] (fun i wr => ∃ (x : Nat), x ≤ n ∧ i = .int .i64 x ∧ Aside0 ((ts.take x).all (nested L) = true) ∧ Aside0 (Below w.heap.size w wr)) (fun i _ => n - (intOf i).toNat)
      case atStart => exact ⟨0, Nat.zero_le _, rfl, ⟨rfl⟩, HB⟩
      case round =>
        obtain ⟨x, hx, rfl, HP, HB3⟩ := hrel
        by_cases hlt2 : x < n
        · have HR0 := H0.out.below HB3.out
          have hvl := HR0.len.1
          obtain ⟨ad, rfl, c0, c1, c2, c3⟩ := at_V HR0.row x hlt2
          have HR := Aside0.mk ((All2.at_ z0 (T.mk false []) HR0.all x (by omega)).le (show L ≤ 5 by omega))
          have hxt : x < ts.length := by omega
          have HT := Aside0.mk (show (ts.take (x + 1)).all (nested L) = nested L (ts.getD x (T.mk false [])) by
            rw [List.take_succ_eq_append_getElem hxt, List.all_append, HP.out]
            simp [List.getD_eq_getElem?_getD, List.getElem?_eq_getElem hxt])
          have eg : (gv vs x).agg = .agg #[.bool (gv vs x).nul, .int .u64 (gv vs x).num, .string (gv vs x).txt, .slice (gv vs x).kA (gv vs x).kn (gv vs x).kc] := rfl
          clear HR0 hvl
          change Aside0 (Rd wr L (gv vs x) (ts.getD x (T.mk false []))) at HR
          generalize ts.getD x (T.mk false []) = kt at HR HT
          generalize gv vs x = p at c0 c1 c2 c3 HR eg
          rcases p with ⟨nul1, num1, txt1, kA1, kn1, kc1⟩
          dsimp only at c0 c1 c2 c3 eg
          go_wp2_with (go_at_call 11; refine (nested_fn L hL _ _ _ (HR.out.below (by go_grown))).mono ?_; rintro e w9 ⟨rfl, hb9⟩; have HB9 := Aside0.mk (HB3.out.trans ((((Below.refl _ _).alloc (Nat.le_refl _) _).trans (hb9.mono (by simp))).mono HB3.out.size)); clear hb9; obtain ⟨bb, hbb⟩ : ∃ b, nested L kt = b := ⟨_, rfl⟩; rw [hbb] at HT; rw [hbb]; clear hbb)
          · go_ret
            exact fit_no HB9.out
          · have ht : bb = true := by cases bb <;> simp_all
            subst ht
            go_roundw
            case rel => exact ⟨x + 1, by omega, by go_num, HT, HB9⟩
            case measure => simp [intOf]; omega
        · obtain rfl : x = n := by omega
          rw [List.take_of_length_le (by omega)] at HP
          go_wp2_with fail
          go_ret
          exact ⟨true, rfl, HB3.out, fun _ => ⟨by omega, by omega, by omega, HJ2.out, HP.out⟩⟩

end Go.Proofs.YtcjobencclihdaaDoor.Lv
