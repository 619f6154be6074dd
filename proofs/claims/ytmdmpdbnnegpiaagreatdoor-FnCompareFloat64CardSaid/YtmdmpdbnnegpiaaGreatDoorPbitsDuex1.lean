-- PRINTED BY print.sh 35421559b90ae4d0a3588c463048766b98c2df88dd9212a6774a882060cdf62d: not written by this session
import Derived.Test.YtmdmpdbnnegpiaaGreatDoorPbitsDuex0
namespace Go.Proofs.YtmdmpdbnnegpiaaGreatDoor.PbitsDue
open Go.RowKit Go.Proofs.YtmdmpdbnnegpiaaGreatDoorW.PrintWords Go.Proofs.YtmdmpdbnnegpiaaGreatDoorW.PrintLast Go.Proofs.YtmdmpdbnnegpiaaGreatDoorW.PrintMore
attribute [local go_sem] max2_int min2_int max_two min_two max_three min_three max_four min_four   -- for this text's walks alone
set_option linter.unusedVariables false
set_option linter.unusedSimpArgs false

/-! ### spec_Bit: function 21 -/
def spec_Bit.f (l0 : List Int) (a1 : Int) : Option (Bool) := if 0 ≤ (wrap64 (Int.tdiv a1 8)) then (if (wrap64 (Int.tdiv a1 8)) < (l0.length : Int) then (if 0 ≤ (Int.tmod a1 8) then (some ((Go.bits .and .u8 (shr .u8 (rd l0 (wrap64 (Int.tdiv a1 8))) (Int.tmod a1 8)) 1) == 1)) else (none)) else (none)) else (none)
set_option maxHeartbeats 8000000 in
set_option maxRecDepth 100000 in
theorem spec_Bit.calls (A0 : Option Addr) (c0 : Nat) (l0 : List Int) (a1 : Int) (r : Bool) (w : World) (hr0 : Kd.C (Kd.int .u8) w A0 l0.length l0) (hc0 : l0.length ≤ c0) (h : spec_Bit.f l0 a1 = some r) :
    Calls Tryz.prog 21 #[.slice A0 l0.length c0, .int .i64 a1] w fun e w' => e = .returned (.bool r) ∧ Drawn0 w w' := by
  have HR0 := Aside0.mk hr0
  have HC0 := Aside0.mk hc0
  clear hr0 hc0
  have H : (if 0 ≤ (wrap64 (Int.tdiv a1 8)) then (if (wrap64 (Int.tdiv a1 8)) < (l0.length : Int) then (if 0 ≤ (Int.tmod a1 8) then (some ((Go.bits .and .u8 (shr .u8 (rd l0 (wrap64 (Int.tdiv a1 8))) (Int.tmod a1 8)) 1) == 1)) else (none)) else (none)) else (none)) = some r := h
  clear h
  obtain ⟨ji3, hji3⟩ : ∃ j_ : Int, (wrap64 (Int.tdiv a1 8)) = j_ := ⟨_, rfl⟩
  replace H : (if 0 ≤ (ji3) then (if (ji3) < (l0.length : Int) then (if 0 ≤ (Int.tmod a1 8) then (some ((Go.bits .and .u8 (shr .u8 (rd l0 (ji3)) (Int.tmod a1 8)) 1) == 1)) else (none)) else (none)) else (none)) = some r := by first | (rw [hji3] at H; exact H) | (simp only [hji3] at H ⊢; exact H)
  have hji3w : (IntKind.i64.wrap (Int.tdiv a1 8)) = ji3 := (i64_w _).trans hji3
  by_cases c4 : 0 ≤ (ji3)
  · rw [if_pos c4] at H
    have c4b0 : decide (0 ≤ (ji3)) = true := decide_eq_true c4
    clear c4
    by_cases c5 : (ji3) < (l0.length : Int)
    · rw [if_pos c5] at H
      have c5b0 : decide ((ji3) < (l0.length : Int)) = true := decide_eq_true c5
      clear c5
      obtain ⟨ji6, hji6⟩ : ∃ j_ : Int, (Int.tmod a1 8) = j_ := ⟨_, rfl⟩
      replace H : (if 0 ≤ (ji6) then (some ((Go.bits .and .u8 (shr .u8 (rd l0 (ji3)) (ji6)) 1) == 1)) else (none)) = some r := by first | (rw [hji6] at H; exact H) | (simp only [hji6] at H ⊢; exact H)
      by_cases c7 : 0 ≤ (ji6)
      · rw [if_pos c7] at H
        have c7b0 := eq_true c7
        have c7b1 : decide (0 ≤ (ji6)) = true := decide_eq_true c7
        clear c7
        obtain ⟨ji8, hji8⟩ : ∃ j_ : Int, (shr .u8 (rd l0 (ji3)) (ji6)) = j_ := ⟨_, rfl⟩
        replace H : (some ((Go.bits .and .u8 (ji8) 1) == 1)) = some r := by first | (rw [hji8] at H; exact H) | (simp only [hji8] at H ⊢; exact H)
        have hji8_ : ((rd l0 (ji3)) / 2 ^ min (ji6).toNat 8) = ji8 := hji8
        have hji8z : (ji6) ≤ 8 → ((rd l0 (ji3)) / 2 ^ (ji6).toNat) = ji8 := shr_small hji8
        obtain rfl := Option.some.inj H
        have p101 : 0 ≤ ((ji3) : Int) := of_decide_eq_true (by first | (with_reducible assumption) | assumption)
        have q101 : (ji3) < (l0.length : Int) := of_decide_eq_true (by first | (with_reducible assumption) | assumption)
        obtain ⟨ad101, e101, hx101_0⟩ := Kd.at_int HR0.out (ji3) p101 q101
        cases e101
        replace p101 := eq_true p101
        replace q101 := eq_true q101
        go_enter Tryz.func21, Tryz.ntmps21
        go_wp2
        go_ret
        exact ⟨by first | rfl | (simp; done) | (simp only [← hji3, ← hji6, ← hji8] <;> (first | rfl | simp)) | (simp [*]; done), by repeat (first | exact Drawn0.refl _ | apply Drawn0.step)⟩
      · rw [if_neg c7] at H
        exact absurd H (by simp)
    · rw [if_neg c5] at H
      exact absurd H (by simp)
  · rw [if_neg c4] at H
    exact absurd H (by simp)

/-! ### laws_bitsDue: function 10 -/
mutual
def laws_bitsDue.l0 : Nat → List Int → List Int → Int → List Bool → Int → Option (Bool)
  | 0, _, _, _, _, _ => none
  | k + 1, x0, x1, x2, x3, x9 => if x9 < x2 then ((spec_Bit.f x0 x9).bind fun t102 => ((spec_Bit.f x1 x9).bind fun t103 => (if (t102 != t103) = true then (some false) else (laws_bitsDue.l0 k x0 x1 x2 x3 (wrap64 (x9 + 1)))))) else (laws_bitsDue.l1 k x1 x2 x3 (x3.length : Int) 0)
def laws_bitsDue.l1 : Nat → List Int → Int → List Bool → Int → Int → Option (Bool)
  | 0, _, _, _, _, _ => none
  | k + 1, x1, x2, x29, x30, x31 => if x31 < x30 then (if 0 ≤ x31 then (if x31 < (x29.length : Int) then ((spec_Bit.f x1 (wrap64 (x2 + x31))).bind fun t105 => (if (t105 != (rdOf false x29 x31)) = true then (some false) else (laws_bitsDue.l1 k x1 x2 x29 x30 (wrap64 (x31 + 1))))) else (none)) else (none)) else (some true)
end
def laws_bitsDue.f (k : Nat) (l0 : List Int) (l1 : List Int) (a2 : Int) (l3 : List Bool) : Option (Bool) := if (l1.length : Int) = (l0.length : Int) then (laws_bitsDue.l0 k l0 l1 a2 l3 0) else (some false)
theorem laws_bitsDue.mono_l : ∀ k, (∀ y0 y1 y2 y3 y4, LeO (laws_bitsDue.l0 k y0 y1 y2 y3 y4) (laws_bitsDue.l0 (k + 1) y0 y1 y2 y3 y4)) ∧ (∀ y0 y1 y2 y3 y4, LeO (laws_bitsDue.l1 k y0 y1 y2 y3 y4) (laws_bitsDue.l1 (k + 1) y0 y1 y2 y3 y4))
  | 0 => ⟨fun _ _ _ _ _ r h => by simp [laws_bitsDue.l0] at h, fun _ _ _ _ _ r h => by simp [laws_bitsDue.l1] at h⟩
  | k + 1 => by
    obtain ⟨ih0, ih1⟩ := laws_bitsDue.mono_l k
    refine ⟨?_, ?_⟩
    · intro y0 y1 y2 y3 y4
      unfold laws_bitsDue.l0
      repeat' first
      | (with_reducible exact ih0 _ _ _ _ _)
      | (with_reducible exact ih1 _ _ _ _ _)
      | (with_reducible exact LeO.refl _)
      | (with_reducible exact LeO.none _)
      | (with_reducible refine LeO.ite ?_ ?_)
      | (with_reducible refine LeO.bind ?_ (fun _ => ?_))
      | exact ih0 _ _ _ _ _
      | exact ih1 _ _ _ _ _
      | exact LeO.none _
      | refine LeO.ite ?_ ?_
      | refine LeO.bind ?_ (fun _ => ?_)
    · intro y0 y1 y2 y3 y4
      unfold laws_bitsDue.l1
      repeat' first
      | (with_reducible exact ih0 _ _ _ _ _)
      | (with_reducible exact ih1 _ _ _ _ _)
      | (with_reducible exact LeO.refl _)
      | (with_reducible exact LeO.none _)
      | (with_reducible refine LeO.ite ?_ ?_)
      | (with_reducible refine LeO.bind ?_ (fun _ => ?_))
      | exact ih0 _ _ _ _ _
      | exact ih1 _ _ _ _ _
      | exact LeO.none _
      | refine LeO.ite ?_ ?_
      | refine LeO.bind ?_ (fun _ => ?_)
theorem laws_bitsDue.mono : ∀ a0 a1 a2 a3 k, LeO (laws_bitsDue.f k a0 a1 a2 a3) (laws_bitsDue.f (k + 1) a0 a1 a2 a3) := by
  intro a0 a1 a2 a3 k
  obtain ⟨ih0, ih1⟩ := laws_bitsDue.mono_l k
  unfold laws_bitsDue.f
  repeat' first
      | (with_reducible exact ih0 _ _ _ _ _)
      | (with_reducible exact ih1 _ _ _ _ _)
      | (with_reducible exact LeO.refl _)
      | (with_reducible exact LeO.none _)
      | (with_reducible refine LeO.ite ?_ ?_)
      | (with_reducible refine LeO.bind ?_ (fun _ => ?_))
      | exact ih0 _ _ _ _ _
      | exact ih1 _ _ _ _ _
      | exact LeO.none _
      | refine LeO.ite ?_ ?_
      | refine LeO.bind ?_ (fun _ => ?_)
set_option maxHeartbeats 8000000 in
set_option maxRecDepth 100000 in
theorem laws_bitsDue.calls (k : Nat) (A0 : Option Addr) (c0 : Nat) (l0 : List Int) (A1 : Option Addr) (c1 : Nat) (l1 : List Int) (a2 : Int) (A3 : Option Addr) (c3 : Nat) (l3 : List Bool) (r : Bool) (w : World) (hr0 : Kd.C (Kd.int .u8) w A0 l0.length l0) (hc0 : l0.length ≤ c0) (hr1 : Kd.C (Kd.int .u8) w A1 l1.length l1) (hc1 : l1.length ≤ c1) (hr3 : Kd.C Kd.bool w A3 l3.length l3) (hc3 : l3.length ≤ c3) (h : laws_bitsDue.f k l0 l1 a2 l3 = some r) :
    Calls Tryz.prog 10 #[.slice A0 l0.length c0, .slice A1 l1.length c1, .int .i64 a2, .slice A3 l3.length c3] w fun e w' => e = .returned (.bool r) ∧ Drawn0 w w' := by
  have HR0 := Aside0.mk hr0
  have HC0 := Aside0.mk hc0
  clear hr0 hc0
  have HR1 := Aside0.mk hr1
  have HC1 := Aside0.mk hc1
  clear hr1 hc1
  have HR3 := Aside0.mk hr3
  have HC3 := Aside0.mk hc3
  clear hr3 hc3
  have H : (if (l1.length : Int) = (l0.length : Int) then (laws_bitsDue.l0 k l0 l1 a2 l3 0) else (some false)) = some r := h
  clear h
  by_cases c5 : (l1.length : Int) = (l0.length : Int)
  · rw [if_pos c5] at H
    have c5b0 : ((l1.length : Int) == (l0.length : Int)) = true := beq_iff_eq.mpr c5
    have c5b1 : ((l1.length : Int) != (l0.length : Int)) = false := bne_eq_false_iff_eq.mpr c5
    have c5b2 : (l1.length == l0.length) = true := by first | simpa using c5 | (simp at c5 ⊢; omega)
    clear c5
    have H' := Aside0.mk H
    clear H
    go_enter Tryz.func10, Tryz.ntmps10
    go_wp2
    go_loopg [9] k (fun kq v9 w' => ∃ (x9_1 : Int), v9 = .int .i64 x9_1 ∧ Aside0 (laws_bitsDue.l0 kq l0 l1 a2 l3 x9_1 = some r) ∧ Aside0 (kq ≤ k) ∧ Drawn0 w w')
    case atStart => exact ⟨(0), (by first | rfl | (simp; done) | (simp [*]; done)), H', ⟨Nat.le_refl _⟩, by repeat (first | exact Drawn0.refl _ | apply Drawn0.step)⟩
    case round =>
      clear H'
      try clear c1
      try clear p2
      try clear c3
      try clear c5
      try clear c5b0
      try clear c5b1
      try clear c5b2
      obtain ⟨x9_1, rfl, HA, HK1, ⟨m1, rfl⟩⟩ := hrel
      cases gk with
      | zero => exact absurd HA.out (by simp [laws_bitsDue.l0])
      | succ k1 =>
        have H := HA.out
        clear HA
        simp only [laws_bitsDue.l0] at H
        by_cases c6 : x9_1 < a2
        · rw [if_pos c6] at H
          have c6b0 : decide (x9_1 < a2) = true := decide_eq_true c6
          clear c6
          replace H := Option.bind_eq_some_iff.mp H
          obtain ⟨t102, A70, H⟩ := H
          replace H : ((spec_Bit.f l1 x9_1).bind fun t103 => (if (t102 != t103) = true then (some false) else (laws_bitsDue.l0 k1 l0 l1 a2 l3 (wrap64 (x9_1 + 1))))) = some r := H
          have A7 := Aside0.mk A70
          clear A70
          replace H := Option.bind_eq_some_iff.mp H
          obtain ⟨t103, A80, H⟩ := H
          replace H : (if (t102 != t103) = true then (some false) else (laws_bitsDue.l0 k1 l0 l1 a2 l3 (wrap64 (x9_1 + 1)))) = some r := H
          have A8 := Aside0.mk A80
          clear A80
          by_cases c9 : (t102 != t103) = true
          · rw [if_pos c9] at H
            have c9b0 : (t102 != t103) = true := c9
            (try (have c9b1 : decide (t102 = t103) = false := by simpa using c9))
            (try (have c9b2 : (t102 == t103) = false := by simpa using c9))
            (try (have c9b3 : ¬ (t102 = t103) := by simpa using c9))
            clear c9
            obtain rfl := Option.some.inj H
            go_wp2_with (first | ((with_reducible refine gate_callee (f := 21) rfl ?_); refine goesL_ (some 24) rfl rfl Tryz.func21 (by kernel_rfl) rfl #[.slice A0 l0.length c0, .int .i64 x9_1] rfl (by (try simp only [List.map_toArray, List.map_cons, List.map_nil]); first | done | rfl | (simp only [List.length_drop, List.length_take]; rfl)) ?_; (with_reducible refine (spec_Bit.calls _ _ l0 x9_1 t102 _ ?side1 ?side2 A7.out).mono ?_); (case side1 => repeat (first | exact HR0.out | (with_reducible refine Kd.C_alloc ?_ _) | (with_reducible refine Kd.C_drewN ?_ _) | (with_reducible refine Kd.C_drew ?_))); (case side2 => exact HC0.out); rintro e w' ⟨rfl, ⟨nd, rfl⟩⟩; refine ⟨_, rfl, ?_⟩) | ((with_reducible refine gate_callee (f := 21) rfl ?_); refine goesL_ (some 27) rfl rfl Tryz.func21 (by kernel_rfl) rfl #[.slice A1 l1.length c1, .int .i64 x9_1] rfl (by (try simp only [List.map_toArray, List.map_cons, List.map_nil]); first | done | rfl | (simp only [List.length_drop, List.length_take]; rfl)) ?_; (with_reducible refine (spec_Bit.calls _ _ l1 x9_1 t103 _ ?side1 ?side2 A8.out).mono ?_); (case side1 => repeat (first | exact HR1.out | (with_reducible refine Kd.C_alloc ?_ _) | (with_reducible refine Kd.C_drewN ?_ _) | (with_reducible refine Kd.C_drew ?_))); (case side2 => exact HC1.out); rintro e w' ⟨rfl, ⟨nd, rfl⟩⟩; refine ⟨_, rfl, ?_⟩))
            go_ret
            exact ⟨by first | rfl | (simp; done) | (simp [*]; done), by repeat (first | exact Drawn0.refl _ | apply Drawn0.step)⟩
          · rw [if_neg c9] at H
            have c9b0 : (t102 != t103) = false := by simpa using c9
            (try (have c9b1 : decide (t102 = t103) = true := by simpa using c9))
            (try (have c9b2 : (t102 == t103) = true := by simpa using c9))
            clear c9
            have H' := Aside0.mk H
            clear H
            go_wp2_with (first | ((with_reducible refine gate_callee (f := 21) rfl ?_); refine goesL_ (some 24) rfl rfl Tryz.func21 (by kernel_rfl) rfl #[.slice A0 l0.length c0, .int .i64 x9_1] rfl (by (try simp only [List.map_toArray, List.map_cons, List.map_nil]); first | done | rfl | (simp only [List.length_drop, List.length_take]; rfl)) ?_; (with_reducible refine (spec_Bit.calls _ _ l0 x9_1 t102 _ ?side1 ?side2 A7.out).mono ?_); (case side1 => repeat (first | exact HR0.out | (with_reducible refine Kd.C_alloc ?_ _) | (with_reducible refine Kd.C_drewN ?_ _) | (with_reducible refine Kd.C_drew ?_))); (case side2 => exact HC0.out); rintro e w' ⟨rfl, ⟨nd, rfl⟩⟩; refine ⟨_, rfl, ?_⟩) | ((with_reducible refine gate_callee (f := 21) rfl ?_); refine goesL_ (some 27) rfl rfl Tryz.func21 (by kernel_rfl) rfl #[.slice A1 l1.length c1, .int .i64 x9_1] rfl (by (try simp only [List.map_toArray, List.map_cons, List.map_nil]); first | done | rfl | (simp only [List.length_drop, List.length_take]; rfl)) ?_; (with_reducible refine (spec_Bit.calls _ _ l1 x9_1 t103 _ ?side1 ?side2 A8.out).mono ?_); (case side1 => repeat (first | exact HR1.out | (with_reducible refine Kd.C_alloc ?_ _) | (with_reducible refine Kd.C_drewN ?_ _) | (with_reducible refine Kd.C_drew ?_))); (case side2 => exact HC1.out); rintro e w' ⟨rfl, ⟨nd, rfl⟩⟩; refine ⟨_, rfl, ?_⟩))
            go_roundg k1
            case measure => have := HK1.out; omega
            case rel => exact ⟨(wrap64 (x9_1 + 1)), (by first | rfl | (simp; done) | (simp [*]; done)), H', ⟨by have := HK1.out; omega⟩, by repeat (first | exact Drawn0.refl _ | apply Drawn0.step)⟩
        · rw [if_neg c6] at H
          have c6b0 : decide (x9_1 < a2) = false := decide_eq_false c6
          clear c6
          have H' := Aside0.mk H
          clear H
          go_wp2
          go_loopg [31] k1 (fun kq v31 w' => ∃ (x31_2 : Int), v31 = .int .i64 x31_2 ∧ Aside0 (laws_bitsDue.l1 kq l1 a2 l3 (l3.length : Int) x31_2 = some r) ∧ Aside0 (kq ≤ k1) ∧ Drawn0 w w')
          case atStart => exact ⟨(0), (by first | rfl | (simp; done) | (simp [*]; done)), H', ⟨Nat.le_refl _⟩, by repeat (first | exact Drawn0.refl _ | apply Drawn0.step)⟩
          case round =>
            clear H'
            try clear c1
            try clear c2
            try clear p2
            try clear c3
            try clear c5
            try clear c5b0
            try clear c5b1
            try clear c5b2
            try clear c6
            try clear c6b0
            try clear p6
            try clear c9
            try clear c9b0
            try clear c9b1
            try clear c9b2
            try clear p2
            obtain ⟨x31_2, rfl, HA, HK2, ⟨m2, rfl⟩⟩ := hrel
            cases gk with
            | zero => exact absurd HA.out (by simp [laws_bitsDue.l1])
            | succ k2 =>
              have H := HA.out
              clear HA
              simp only [laws_bitsDue.l1] at H
              by_cases c10 : x31_2 < (l3.length : Int)
              · rw [if_pos c10] at H
                have c10b0 : decide (x31_2 < (l3.length : Int)) = true := decide_eq_true c10
                clear c10
                by_cases c11 : 0 ≤ x31_2
                · rw [if_pos c11] at H
                  have c11b0 : decide (0 ≤ x31_2) = true := decide_eq_true c11
                  clear c11
                  by_cases c12 : x31_2 < (l3.length : Int)
                  · rw [if_pos c12] at H
                    have c12b0 : decide (x31_2 < (l3.length : Int)) = true := decide_eq_true c12
                    clear c12
                    replace H := Option.bind_eq_some_iff.mp H
                    obtain ⟨t105, A130, H⟩ := H
                    replace H : (if (t105 != (rdOf false l3 x31_2)) = true then (some false) else (laws_bitsDue.l1 k2 l1 a2 l3 (l3.length : Int) (wrap64 (x31_2 + 1)))) = some r := H
                    have A13 := Aside0.mk A130
                    clear A130
                    by_cases c14 : (t105 != (rdOf false l3 x31_2)) = true
                    · rw [if_pos c14] at H
                      have c14b0 : (t105 != (rdOf false l3 x31_2)) = true := c14
                      (try (have c14b1 : decide (t105 = (rdOf false l3 x31_2)) = false := by simpa using c14))
                      (try (have c14b2 : (t105 == (rdOf false l3 x31_2)) = false := by simpa using c14))
                      (try (have c14b3 : ¬ (t105 = (rdOf false l3 x31_2)) := by simpa using c14))
                      clear c14
                      obtain rfl := Option.some.inj H
                      have p104 : 0 ≤ (x31_2 : Int) := of_decide_eq_true (by first | (with_reducible assumption) | assumption)
                      have q104 : x31_2 < (l3.length : Int) := of_decide_eq_true (by first | (with_reducible assumption) | assumption)
                      obtain ⟨ad104, e104, hx104_0⟩ := Kd.at_bool HR3.out x31_2 p104 q104
                      cases e104
                      replace p104 := eq_true p104
                      replace q104 := eq_true q104
                      go_wp2_with (first | ((with_reducible refine gate_callee (f := 21) rfl ?_); refine goesL_ (some 40) rfl rfl Tryz.func21 (by kernel_rfl) rfl #[.slice A1 l1.length c1, .int .i64 (wrap64 (a2 + x31_2))] rfl (by (try simp only [List.map_toArray, List.map_cons, List.map_nil]); first | done | rfl | (simp only [List.length_drop, List.length_take]; rfl)) ?_; (with_reducible refine (spec_Bit.calls _ _ l1 (wrap64 (a2 + x31_2)) t105 _ ?side1 ?side2 A13.out).mono ?_); (case side1 => repeat (first | exact HR1.out | (with_reducible refine Kd.C_alloc ?_ _) | (with_reducible refine Kd.C_drewN ?_ _) | (with_reducible refine Kd.C_drew ?_))); (case side2 => exact HC1.out); rintro e w' ⟨rfl, ⟨nd, rfl⟩⟩; refine ⟨_, rfl, ?_⟩))
                      go_ret
                      exact ⟨by first | rfl | (simp; done) | (simp [*]; done), by repeat (first | exact Drawn0.refl _ | apply Drawn0.step)⟩
                    · rw [if_neg c14] at H
                      have c14b0 : (t105 != (rdOf false l3 x31_2)) = false := by simpa using c14
                      (try (have c14b1 : decide (t105 = (rdOf false l3 x31_2)) = true := by simpa using c14))
                      (try (have c14b2 : (t105 == (rdOf false l3 x31_2)) = true := by simpa using c14))
                      clear c14
                      have H' := Aside0.mk H
                      clear H
                      have p104 : 0 ≤ (x31_2 : Int) := of_decide_eq_true (by first | (with_reducible assumption) | assumption)
                      have q104 : x31_2 < (l3.length : Int) := of_decide_eq_true (by first | (with_reducible assumption) | assumption)
                      obtain ⟨ad104, e104, hx104_0⟩ := Kd.at_bool HR3.out x31_2 p104 q104
                      cases e104
                      replace p104 := eq_true p104
                      replace q104 := eq_true q104
                      go_wp2_with (first | ((with_reducible refine gate_callee (f := 21) rfl ?_); refine goesL_ (some 40) rfl rfl Tryz.func21 (by kernel_rfl) rfl #[.slice A1 l1.length c1, .int .i64 (wrap64 (a2 + x31_2))] rfl (by (try simp only [List.map_toArray, List.map_cons, List.map_nil]); first | done | rfl | (simp only [List.length_drop, List.length_take]; rfl)) ?_; (with_reducible refine (spec_Bit.calls _ _ l1 (wrap64 (a2 + x31_2)) t105 _ ?side1 ?side2 A13.out).mono ?_); (case side1 => repeat (first | exact HR1.out | (with_reducible refine Kd.C_alloc ?_ _) | (with_reducible refine Kd.C_drewN ?_ _) | (with_reducible refine Kd.C_drew ?_))); (case side2 => exact HC1.out); rintro e w' ⟨rfl, ⟨nd, rfl⟩⟩; refine ⟨_, rfl, ?_⟩))
                      go_roundg k2
                      case measure => have := HK1.out; have := HK2.out; omega
                      case rel => exact ⟨(wrap64 (x31_2 + 1)), (by first | rfl | (simp; done) | (simp [*]; done)), H', ⟨by have := HK1.out; have := HK2.out; omega⟩, by repeat (first | exact Drawn0.refl _ | apply Drawn0.step)⟩
                  · rw [if_neg c12] at H
                    exact absurd H (by simp)
                · rw [if_neg c11] at H
                  exact absurd H (by simp)
              · rw [if_neg c10] at H
                have c10b0 : decide (x31_2 < (l3.length : Int)) = false := decide_eq_false c10
                clear c10
                obtain rfl := Option.some.inj H
                go_wp2
                go_ret
                exact ⟨by first | rfl | (simp; done) | (simp [*]; done), by repeat (first | exact Drawn0.refl _ | apply Drawn0.step)⟩
  · rw [if_neg c5] at H
    have c5b0 : ((l1.length : Int) == (l0.length : Int)) = false := beq_eq_false_iff_ne.mpr c5
    have c5b1 : ((l1.length : Int) != (l0.length : Int)) = true := bne_iff_ne.mpr c5
    have c5b2 : (l1.length == l0.length) = false := by first | simpa using c5 | (simp at c5 ⊢; omega)
    obtain rfl := Option.some.inj H
    go_enter Tryz.func10, Tryz.ntmps10
    go_wp2
    go_ret
    exact ⟨by first | rfl | (simp; done) | (simp [*]; done), by repeat (first | exact Drawn0.refl _ | apply Drawn0.step)⟩

end Go.Proofs.YtmdmpdbnnegpiaaGreatDoor.PbitsDue
