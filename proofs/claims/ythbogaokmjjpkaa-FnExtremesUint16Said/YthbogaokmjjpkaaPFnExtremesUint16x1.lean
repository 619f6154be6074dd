-- PRINTED BY print.sh 35421559b90ae4d0a3588c463048766b98c2df88dd9212a6774a882060cdf62d: not written by this session
import Derived.Test.YthbogaokmjjpkaaPFnExtremesUint16x0
namespace Go.Proofs.Ythbogaokmjjpkaa.PFnExtremesUint16
open Go.RowKit Go.Proofs.YthbogaokmjjpkaaW.PrintWords Go.Proofs.YthbogaokmjjpkaaW.PrintLast Go.Proofs.YthbogaokmjjpkaaW.PrintMore
attribute [local go_sem] max2_int min2_int max_two min_two max_three min_three max_four min_four   -- for this text's walks alone
set_option linter.unusedVariables false
set_option linter.unusedSimpArgs false

/-! ### utils_uint16MinMax: function 24 -/
def utils_uint16MinMax.l0 : Nat → Int → Int → List Int → Int → Int → Option (Int × Int)
  | 0, _, _, _, _, _ => none
  | k + 1, x2, x3, x6, x7, x8 => if x8 < x7 then (if 0 ≤ x8 then (if x8 < (x6.length : Int) then (if x2 > (rd x6 x8) then (if x3 < (rd x6 x8) then (utils_uint16MinMax.l0 k (rd x6 x8) (rd x6 x8) x6 x7 (wrap64 (x8 + 1))) else (utils_uint16MinMax.l0 k (rd x6 x8) x3 x6 x7 (wrap64 (x8 + 1)))) else (if x3 < (rd x6 x8) then (utils_uint16MinMax.l0 k x2 (rd x6 x8) x6 x7 (wrap64 (x8 + 1))) else (utils_uint16MinMax.l0 k x2 x3 x6 x7 (wrap64 (x8 + 1))))) else (none)) else (none)) else (some (x2, x3))
def utils_uint16MinMax.f (k : Nat) (l0 : List Int) : Option (Int × Int) := utils_uint16MinMax.l0 k 65535 0 l0 (l0.length : Int) 0
theorem utils_uint16MinMax.mono_l : ∀ k, (∀ y0 y1 y2 y3 y4, LeO (utils_uint16MinMax.l0 k y0 y1 y2 y3 y4) (utils_uint16MinMax.l0 (k + 1) y0 y1 y2 y3 y4))
  | 0 => fun _ _ _ _ _ r h => by simp [utils_uint16MinMax.l0] at h
  | k + 1 => by
    have ih0 := utils_uint16MinMax.mono_l k
    · intro y0 y1 y2 y3 y4
      unfold utils_uint16MinMax.l0
      repeat' first
      | (with_reducible exact ih0 _ _ _ _ _)
      | (with_reducible exact LeO.refl _)
      | (with_reducible exact LeO.none _)
      | (with_reducible refine LeO.ite ?_ ?_)
      | (with_reducible refine LeO.bind ?_ (fun _ => ?_))
      | exact ih0 _ _ _ _ _
      | exact LeO.none _
      | refine LeO.ite ?_ ?_
      | refine LeO.bind ?_ (fun _ => ?_)
theorem utils_uint16MinMax.mono : ∀ a0 k, LeO (utils_uint16MinMax.f k a0) (utils_uint16MinMax.f (k + 1) a0) := by
  intro a0 k
  have ih0 := utils_uint16MinMax.mono_l k
  unfold utils_uint16MinMax.f
  repeat' first
      | (with_reducible exact ih0 _ _ _ _ _)
      | (with_reducible exact LeO.refl _)
      | (with_reducible exact LeO.none _)
      | (with_reducible refine LeO.ite ?_ ?_)
      | (with_reducible refine LeO.bind ?_ (fun _ => ?_))
      | exact ih0 _ _ _ _ _
      | exact LeO.none _
      | refine LeO.ite ?_ ?_
      | refine LeO.bind ?_ (fun _ => ?_)
set_option maxHeartbeats 8000000 in
set_option maxRecDepth 100000 in
theorem utils_uint16MinMax.calls (k : Nat) (A0 : Option Addr) (c0 : Nat) (l0 : List Int) (r1 : Int) (r2 : Int) (w : World) (hr0 : Kd.C (Kd.int .u16) w A0 l0.length l0) (hc0 : l0.length ≤ c0) (h : utils_uint16MinMax.f k l0 = some (r1, r2)) :
    Calls Try.prog 24 #[.slice A0 l0.length c0] w fun e w' => e = .returned (.tuple #[.int .u16 r1, .int .u16 r2]) ∧ Drawn0 w w' := by
  have HR0 := Aside0.mk hr0
  have HC0 := Aside0.mk hc0
  clear hr0 hc0
  have H : (utils_uint16MinMax.l0 k 65535 0 l0 (l0.length : Int) 0) = some (r1, r2) := h
  clear h
  have H' := Aside0.mk H
  clear H
  go_enter Try.func24, Try.ntmps24
  go_wp2
  go_loopg [2, 3, 8] k (fun kq v2 v3 v8 w' => ∃ (x2_1 : Int) (x3_1 : Int) (x8_1 : Int), v2 = .int .u16 x2_1 ∧ v3 = .int .u16 x3_1 ∧ v8 = .int .i64 x8_1 ∧ Aside0 (utils_uint16MinMax.l0 kq x2_1 x3_1 l0 (l0.length : Int) x8_1 = some (r1, r2)) ∧ Aside0 (kq ≤ k) ∧ Drawn0 w w')
  case atStart => exact ⟨(65535), (0), (0), (by first | rfl | (simp; done) | (simp [*]; done)), (by first | rfl | (simp; done) | (simp [*]; done)), (by first | rfl | (simp; done) | (simp [*]; done)), H', ⟨Nat.le_refl _⟩, by repeat (first | exact Drawn0.refl _ | apply Drawn0.step)⟩
  case round =>
    clear H'
    obtain ⟨x2_1, x3_1, x8_1, rfl, rfl, rfl, HA, HK1, ⟨m1, rfl⟩⟩ := hrel
    cases gk with
    | zero => exact absurd HA.out (by simp [utils_uint16MinMax.l0])
    | succ k1 =>
      have H := HA.out
      clear HA
      simp only [utils_uint16MinMax.l0] at H
      by_cases c2 : x8_1 < (l0.length : Int)
      · rw [if_pos c2] at H
        have c2b0 : decide (x8_1 < (l0.length : Int)) = true := decide_eq_true c2
        clear c2
        by_cases c3 : 0 ≤ x8_1
        · rw [if_pos c3] at H
          have c3b0 : decide (0 ≤ x8_1) = true := decide_eq_true c3
          clear c3
          by_cases c4 : x8_1 < (l0.length : Int)
          · rw [if_pos c4] at H
            have c4b0 : decide (x8_1 < (l0.length : Int)) = true := decide_eq_true c4
            clear c4
            by_cases c5 : x2_1 > (rd l0 x8_1)
            · rw [if_pos c5] at H
              have c5b0 : decide ((rd l0 x8_1) < x2_1) = true := decide_eq_true c5
              clear c5
              by_cases c6 : x3_1 < (rd l0 x8_1)
              · rw [if_pos c6] at H
                have c6b0 : decide (x3_1 < (rd l0 x8_1)) = true := decide_eq_true c6
                clear c6
                have H' := Aside0.mk H
                clear H
                have p101 : 0 ≤ (x8_1 : Int) := of_decide_eq_true (by first | (with_reducible assumption) | assumption)
                have q101 : x8_1 < (l0.length : Int) := of_decide_eq_true (by first | (with_reducible assumption) | assumption)
                obtain ⟨ad101, e101, hx101_0⟩ := Kd.at_int HR0.out x8_1 p101 q101
                cases e101
                replace p101 := eq_true p101
                replace q101 := eq_true q101
                go_wp2
                go_roundg k1
                case measure => have := HK1.out; omega
                case rel => exact ⟨(rd l0 x8_1), (rd l0 x8_1), (wrap64 (x8_1 + 1)), (by first | rfl | (simp; done) | (simp [*]; done)), (by first | rfl | (simp; done) | (simp [*]; done)), (by first | rfl | (simp; done) | (simp [*]; done)), H', ⟨by have := HK1.out; omega⟩, by repeat (first | exact Drawn0.refl _ | apply Drawn0.step)⟩
              · rw [if_neg c6] at H
                have c6b0 : decide (x3_1 < (rd l0 x8_1)) = false := decide_eq_false c6
                clear c6
                have H' := Aside0.mk H
                clear H
                have p101 : 0 ≤ (x8_1 : Int) := of_decide_eq_true (by first | (with_reducible assumption) | assumption)
                have q101 : x8_1 < (l0.length : Int) := of_decide_eq_true (by first | (with_reducible assumption) | assumption)
                obtain ⟨ad101, e101, hx101_0⟩ := Kd.at_int HR0.out x8_1 p101 q101
                cases e101
                replace p101 := eq_true p101
                replace q101 := eq_true q101
                go_wp2
                go_roundg k1
                case measure => have := HK1.out; omega
                case rel => exact ⟨(rd l0 x8_1), (x3_1), (wrap64 (x8_1 + 1)), (by first | rfl | (simp; done) | (simp [*]; done)), (by first | rfl | (simp; done) | (simp [*]; done)), (by first | rfl | (simp; done) | (simp [*]; done)), H', ⟨by have := HK1.out; omega⟩, by repeat (first | exact Drawn0.refl _ | apply Drawn0.step)⟩
            · rw [if_neg c5] at H
              have c5b0 : decide ((rd l0 x8_1) < x2_1) = false := decide_eq_false c5
              clear c5
              by_cases c7 : x3_1 < (rd l0 x8_1)
              · rw [if_pos c7] at H
                have c7b0 : decide (x3_1 < (rd l0 x8_1)) = true := decide_eq_true c7
                clear c7
                have H' := Aside0.mk H
                clear H
                have p101 : 0 ≤ (x8_1 : Int) := of_decide_eq_true (by first | (with_reducible assumption) | assumption)
                have q101 : x8_1 < (l0.length : Int) := of_decide_eq_true (by first | (with_reducible assumption) | assumption)
                obtain ⟨ad101, e101, hx101_0⟩ := Kd.at_int HR0.out x8_1 p101 q101
                cases e101
                replace p101 := eq_true p101
                replace q101 := eq_true q101
                go_wp2
                go_roundg k1
                case measure => have := HK1.out; omega
                case rel => exact ⟨(x2_1), (rd l0 x8_1), (wrap64 (x8_1 + 1)), (by first | rfl | (simp; done) | (simp [*]; done)), (by first | rfl | (simp; done) | (simp [*]; done)), (by first | rfl | (simp; done) | (simp [*]; done)), H', ⟨by have := HK1.out; omega⟩, by repeat (first | exact Drawn0.refl _ | apply Drawn0.step)⟩
              · rw [if_neg c7] at H
                have c7b0 : decide (x3_1 < (rd l0 x8_1)) = false := decide_eq_false c7
                clear c7
                have H' := Aside0.mk H
                clear H
                have p101 : 0 ≤ (x8_1 : Int) := of_decide_eq_true (by first | (with_reducible assumption) | assumption)
                have q101 : x8_1 < (l0.length : Int) := of_decide_eq_true (by first | (with_reducible assumption) | assumption)
                obtain ⟨ad101, e101, hx101_0⟩ := Kd.at_int HR0.out x8_1 p101 q101
                cases e101
                replace p101 := eq_true p101
                replace q101 := eq_true q101
                go_wp2
                go_roundg k1
                case measure => have := HK1.out; omega
                case rel => exact ⟨(x2_1), (x3_1), (wrap64 (x8_1 + 1)), (by first | rfl | (simp; done) | (simp [*]; done)), (by first | rfl | (simp; done) | (simp [*]; done)), (by first | rfl | (simp; done) | (simp [*]; done)), H', ⟨by have := HK1.out; omega⟩, by repeat (first | exact Drawn0.refl _ | apply Drawn0.step)⟩
          · rw [if_neg c4] at H
            exact absurd H (by simp)
        · rw [if_neg c3] at H
          exact absurd H (by simp)
      · rw [if_neg c2] at H
        have c2b0 : decide (x8_1 < (l0.length : Int)) = false := decide_eq_false c2
        clear c2
        simp only [Option.some.injEq, Prod.mk.injEq] at H
        obtain ⟨rfl, rfl⟩ := H
        go_wp2
        go_ret2
        exact ⟨by first | rfl | (simp; done) | (simp [*]; done), by repeat (first | exact Drawn0.refl _ | apply Drawn0.step)⟩

/-! ### utils_GetMinMaxUint16: function 19 -/
def utils_GetMinMaxUint16.f (k : Nat) (l0 : List Int) : Option (Int × Int) := (utils_uint16MinMax.f k l0).bind fun bt102 => (some (bt102.1, bt102.2))
theorem utils_GetMinMaxUint16.mono : ∀ a0 k, LeO (utils_GetMinMaxUint16.f k a0) (utils_GetMinMaxUint16.f (k + 1) a0) := by
  intro a0 k
  unfold utils_GetMinMaxUint16.f
  repeat' first
      | (with_reducible exact utils_uint16MinMax.mono _ _)
      | (with_reducible exact LeO.refl _)
      | (with_reducible exact LeO.none _)
      | (with_reducible refine LeO.ite ?_ ?_)
      | (with_reducible refine LeO.bind ?_ (fun _ => ?_))
      | exact utils_uint16MinMax.mono _ _
      | exact LeO.none _
      | refine LeO.ite ?_ ?_
      | refine LeO.bind ?_ (fun _ => ?_)
set_option maxHeartbeats 8000000 in
set_option maxRecDepth 100000 in
theorem utils_GetMinMaxUint16.calls (k : Nat) (A0 : Option Addr) (c0 : Nat) (l0 : List Int) (r1 : Int) (r2 : Int) (w : World) (hr0 : Kd.C (Kd.int .u16) w A0 l0.length l0) (hc0 : l0.length ≤ c0) (h : utils_GetMinMaxUint16.f k l0 = some (r1, r2)) :
    Calls Try.prog 19 #[.slice A0 l0.length c0] w fun e w' => e = .returned (.tuple #[.int .u16 r1, .int .u16 r2]) ∧ Drawn0 w w' := by
  have HR0 := Aside0.mk hr0
  have HC0 := Aside0.mk hc0
  clear hr0 hc0
  have H : ((utils_uint16MinMax.f k l0).bind fun bt102 => (some (bt102.1, bt102.2))) = some (r1, r2) := h
  clear h
  replace H := Option.bind_eq_some_iff.mp H
  obtain ⟨⟨t102, t103⟩, A20, H⟩ := H
  replace H : (some (t102, t103)) = some (r1, r2) := H
  have A2 := Aside0.mk A20
  clear A20
  simp only [Option.some.injEq, Prod.mk.injEq] at H
  obtain ⟨rfl, rfl⟩ := H
  go_enter Try.func19, Try.ntmps19
  go_wp2_with (first | ((with_reducible refine gate_callee (f := 24) rfl ?_); refine goesL_ (some 5) rfl rfl Try.func24 (by kernel_rfl) rfl #[.slice A0 l0.length c0] rfl (by (try simp only [List.map_toArray, List.map_cons, List.map_nil]); first | done | rfl | (simp only [List.length_drop, List.length_take]; rfl)) ?_; (with_reducible refine (utils_uint16MinMax.calls k _ _ l0 t102 t103 _ ?side1 ?side2 A2.out).mono ?_); (case side1 => repeat (first | exact HR0.out | (with_reducible refine Kd.C_alloc ?_ _) | (with_reducible refine Kd.C_drewN ?_ _) | (with_reducible refine Kd.C_drew ?_))); (case side2 => exact HC0.out); rintro e w' ⟨rfl, ⟨nd, rfl⟩⟩; refine ⟨_, rfl, ?_⟩))
  go_ret2
  exact ⟨by first | rfl | (simp; done) | (simp [*]; done), by repeat (first | exact Drawn0.refl _ | apply Drawn0.step)⟩

/-! ### impl_ExtremesUint16: function 11 -/
def impl_ExtremesUint16.f (k : Nat) (l0 : List Int) : Option (Int × Int) := (utils_GetMinMaxUint16.f k l0).bind fun bt104 => (some (bt104.1, bt104.2))
theorem impl_ExtremesUint16.mono : ∀ a0 k, LeO (impl_ExtremesUint16.f k a0) (impl_ExtremesUint16.f (k + 1) a0) := by
  intro a0 k
  unfold impl_ExtremesUint16.f
  repeat' first
      | (with_reducible exact utils_GetMinMaxUint16.mono _ _)
      | (with_reducible exact LeO.refl _)
      | (with_reducible exact LeO.none _)
      | (with_reducible refine LeO.ite ?_ ?_)
      | (with_reducible refine LeO.bind ?_ (fun _ => ?_))
      | exact utils_GetMinMaxUint16.mono _ _
      | exact LeO.none _
      | refine LeO.ite ?_ ?_
      | refine LeO.bind ?_ (fun _ => ?_)
set_option maxHeartbeats 8000000 in
set_option maxRecDepth 100000 in
theorem impl_ExtremesUint16.calls (k : Nat) (A0 : Option Addr) (c0 : Nat) (l0 : List Int) (r1 : Int) (r2 : Int) (w : World) (hr0 : Kd.C (Kd.int .u16) w A0 l0.length l0) (hc0 : l0.length ≤ c0) (h : impl_ExtremesUint16.f k l0 = some (r1, r2)) :
    Calls Try.prog 11 #[.slice A0 l0.length c0] w fun e w' => e = .returned (.tuple #[.int .u16 r1, .int .u16 r2]) ∧ Drawn0 w w' := by
  have HR0 := Aside0.mk hr0
  have HC0 := Aside0.mk hc0
  clear hr0 hc0
  have H : ((utils_GetMinMaxUint16.f k l0).bind fun bt104 => (some (bt104.1, bt104.2))) = some (r1, r2) := h
  clear h
  replace H := Option.bind_eq_some_iff.mp H
  obtain ⟨⟨t104, t105⟩, A20, H⟩ := H
  replace H : (some (t104, t105)) = some (r1, r2) := H
  have A2 := Aside0.mk A20
  clear A20
  simp only [Option.some.injEq, Prod.mk.injEq] at H
  obtain ⟨rfl, rfl⟩ := H
  go_enter Try.func11, Try.ntmps11
  go_wp2_with (first | ((with_reducible refine gate_callee (f := 19) rfl ?_); refine goesL_ (some 5) rfl rfl Try.func19 (by kernel_rfl) rfl #[.slice A0 l0.length c0] rfl (by (try simp only [List.map_toArray, List.map_cons, List.map_nil]); first | done | rfl | (simp only [List.length_drop, List.length_take]; rfl)) ?_; (with_reducible refine (utils_GetMinMaxUint16.calls k _ _ l0 t104 t105 _ ?side1 ?side2 A2.out).mono ?_); (case side1 => repeat (first | exact HR0.out | (with_reducible refine Kd.C_alloc ?_ _) | (with_reducible refine Kd.C_drewN ?_ _) | (with_reducible refine Kd.C_drew ?_))); (case side2 => exact HC0.out); rintro e w' ⟨rfl, ⟨nd, rfl⟩⟩; refine ⟨_, rfl, ?_⟩))
  go_ret2
  exact ⟨by first | rfl | (simp; done) | (simp [*]; done), by repeat (first | exact Drawn0.refl _ | apply Drawn0.step)⟩

/-! ### laws_FnExtremesUint16: function 6 -/
mutual
def laws_FnExtremesUint16.j0 : Nat → List Int → Bool → Option (Bool)
  | 0, _, _ => none
  | k + 1, x0, x5 => if (x0.length : Int) > 1000 then (some x5) else (laws_FnExtremesUint16.l0 k x0 x5 65535 0 x0 (x0.length : Int) 0)
def laws_FnExtremesUint16.l0 : Nat → List Int → Bool → Int → Int → List Int → Int → Int → Option (Bool)
  | 0, _, _, _, _, _, _, _ => none
  | k + 1, x0, x5, x6, x7, x28, x29, x30 => if x30 < x29 then (if 0 ≤ x30 then (if x30 < (x28.length : Int) then (laws_FnExtremesUint16.l0 k x0 x5 (mn x6 (rd x28 x30)) (mx x7 (rd x28 x30)) x28 x29 (wrap64 (x30 + 1))) else (none)) else (none)) else ((impl_ExtremesUint16.f k x0).bind fun bt112 => (if bt112.1 = x6 then (if bt112.2 = x7 then (some x5) else (some false)) else (some false)))
end
def laws_FnExtremesUint16.f (k : Nat) (l0 : List Int) : Option (Bool) := if (l0.length : Int) > 2147483647 then (some true) else ((impl_ExtremesUint16.f k (([1, 2] : List Int))).bind fun bt109 => (if bt109.1 = 1 then (laws_FnExtremesUint16.j0 k l0 (bt109.2 == 2)) else (laws_FnExtremesUint16.j0 k l0 false)))
theorem laws_FnExtremesUint16.mono_l : ∀ k, (∀ y0 y1, LeO (laws_FnExtremesUint16.j0 k y0 y1) (laws_FnExtremesUint16.j0 (k + 1) y0 y1)) ∧ (∀ y0 y1 y2 y3 y4 y5 y6, LeO (laws_FnExtremesUint16.l0 k y0 y1 y2 y3 y4 y5 y6) (laws_FnExtremesUint16.l0 (k + 1) y0 y1 y2 y3 y4 y5 y6))
  | 0 => ⟨fun _ _ r h => by simp [laws_FnExtremesUint16.j0] at h, fun _ _ _ _ _ _ _ r h => by simp [laws_FnExtremesUint16.l0] at h⟩
  | k + 1 => by
    obtain ⟨ih0, ih1⟩ := laws_FnExtremesUint16.mono_l k
    refine ⟨?_, ?_⟩
    · intro y0 y1
      unfold laws_FnExtremesUint16.j0
      repeat' first
      | (with_reducible exact ih0 _ _)
      | (with_reducible exact ih1 _ _ _ _ _ _ _)
      | (with_reducible exact impl_ExtremesUint16.mono _ _)
      | (with_reducible exact LeO.refl _)
      | (with_reducible exact LeO.none _)
      | (with_reducible refine LeO.ite ?_ ?_)
      | (with_reducible refine LeO.bind ?_ (fun _ => ?_))
      | exact ih0 _ _
      | exact ih1 _ _ _ _ _ _ _
      | exact impl_ExtremesUint16.mono _ _
      | exact LeO.none _
      | refine LeO.ite ?_ ?_
      | refine LeO.bind ?_ (fun _ => ?_)
    · intro y0 y1 y2 y3 y4 y5 y6
      unfold laws_FnExtremesUint16.l0
      repeat' first
      | (with_reducible exact ih0 _ _)
      | (with_reducible exact ih1 _ _ _ _ _ _ _)
      | (with_reducible exact impl_ExtremesUint16.mono _ _)
      | (with_reducible exact LeO.refl _)
      | (with_reducible exact LeO.none _)
      | (with_reducible refine LeO.ite ?_ ?_)
      | (with_reducible refine LeO.bind ?_ (fun _ => ?_))
      | exact ih0 _ _
      | exact ih1 _ _ _ _ _ _ _
      | exact impl_ExtremesUint16.mono _ _
      | exact LeO.none _
      | refine LeO.ite ?_ ?_
      | refine LeO.bind ?_ (fun _ => ?_)
theorem laws_FnExtremesUint16.mono : ∀ a0 k, LeO (laws_FnExtremesUint16.f k a0) (laws_FnExtremesUint16.f (k + 1) a0) := by
  intro a0 k
  obtain ⟨ih0, ih1⟩ := laws_FnExtremesUint16.mono_l k
  unfold laws_FnExtremesUint16.f
  repeat' first
      | (with_reducible exact ih0 _ _)
      | (with_reducible exact ih1 _ _ _ _ _ _ _)
      | (with_reducible exact impl_ExtremesUint16.mono _ _)
      | (with_reducible exact LeO.refl _)
      | (with_reducible exact LeO.none _)
      | (with_reducible refine LeO.ite ?_ ?_)
      | (with_reducible refine LeO.bind ?_ (fun _ => ?_))
      | exact ih0 _ _
      | exact ih1 _ _ _ _ _ _ _
      | exact impl_ExtremesUint16.mono _ _
      | exact LeO.none _
      | refine LeO.ite ?_ ?_
      | refine LeO.bind ?_ (fun _ => ?_)
set_option maxHeartbeats 8000000 in
set_option maxRecDepth 100000 in
theorem laws_FnExtremesUint16.calls (k : Nat) (A0 : Option Addr) (c0 : Nat) (l0 : List Int) (r : Bool) (w : World) (hr0 : Kd.C (Kd.int .u16) w A0 l0.length l0) (hc0 : l0.length ≤ c0) (h : laws_FnExtremesUint16.f k l0 = some r) :
    Calls Try.prog 6 #[.slice A0 l0.length c0] w fun e w' => e = .returned (.bool r) ∧ Below w.heap.size w w' := by
  have HR0 := Aside0.mk hr0
  have HC0 := Aside0.mk hc0
  clear hr0 hc0
  have HB := Aside0.mk (Below.refl w.heap.size w)
  have H : (if (l0.length : Int) > 2147483647 then (some true) else ((impl_ExtremesUint16.f k (([1, 2] : List Int))).bind fun bt109 => (if bt109.1 = 1 then (laws_FnExtremesUint16.j0 k l0 (bt109.2 == 2)) else (laws_FnExtremesUint16.j0 k l0 false)))) = some r := h
  clear h
  by_cases c2 : (l0.length : Int) > 2147483647
  · rw [if_pos c2] at H
    have c2b0 : decide (2147483647 < (l0.length : Int)) = true := decide_eq_true c2
    have c2b1 : decide (2147483647 < l0.length) = true := decide_eq_true (by omega)
    clear c2
    obtain rfl := Option.some.inj H
    go_enter Try.func6, Try.ntmps6
    go_wp2
    go_ret
    exact ⟨by first | rfl | (simp [errW_none, errW_some] <;> rfl) | (simp [*, errW_none, errW_some] <;> rfl), by repeat (first | (with_reducible first | exact HB.out | apply below_alloc | apply pw_below_drewN | apply below_drew1) | exact HB.out)⟩
  · rw [if_neg c2] at H
    have c2b0 : decide (2147483647 < (l0.length : Int)) = false := decide_eq_false c2
    have c2b1 : decide (2147483647 < l0.length) = false := decide_eq_false (by omega)
    clear c2
    obtain ⟨y106, hy106⟩ : ∃ y_ : List Int, y_ = (([1, 2] : List Int)) := ⟨_, rfl⟩
    replace H : ((impl_ExtremesUint16.f k y106).bind fun bt109 => (if bt109.1 = 1 then (laws_FnExtremesUint16.j0 k l0 (bt109.2 == 2)) else (laws_FnExtremesUint16.j0 k l0 false))) = some r := by first | (rw [hy106]; with_reducible exact H) | (have H2_ := (Option.bind_some _ _).symm.trans H; rw [hy106]; with_reducible exact H2_) | (have H2_ := (Option.bind_some _ _).symm.trans H; with_reducible exact H2_) | with_reducible exact H | (rw [hy106]; exact H) | exact H
    have Ny106 := Aside0.mk hy106
    clear hy106
    replace H := Option.bind_eq_some_iff.mp H
    obtain ⟨⟨t109, t110⟩, A30, H⟩ := H
    replace H : (if t109 = 1 then (laws_FnExtremesUint16.j0 k l0 (t110 == 2)) else (laws_FnExtremesUint16.j0 k l0 false)) = some r := H
    have A3 := Aside0.mk A30
    clear A30
    have HC4 := Aside0.mk H
    clear H
    go_enter Try.func6, Try.ntmps6
    go_upto_region 4 with (first | ((with_reducible refine gate_dst (N := 14) rfl ?_); refine Kd.R_lit (Kd.int .u16) _ 31 ?hg (N := 14) ?hd (xs := ([1, 2] : List Int)) (inner := [.int .u16 1, .int .u16 2]) (ok := fun _ => True) (okp := fun _ => True) ?hr ?hp (fun _ hk => hk) trivial (Below.refl _ _) (Nat.le_refl _) (by simp) ?_; (case hd => rfl); (case hg => rfl); (case hr => first | (go_simp; done) | (go_simp; rfl)); (case hp => exact (Reps.one (show Kd.M (Kd.int .u16) _ _ _ 1 [.int .u16 1] from rfl) (Reps.one (show Kd.M (Kd.int .u16) _ _ _ 2 [.int .u16 2] from rfl) (Reps.none _ _)))); intro v107 w5 ho6 hb hg_ hnew_; clear hg_ hnew_; (first | rw [← Ny106.out] at ho6 | (simp only [Int.reduceToNat] at ho6; rw [← Ny106.out] at ho6)); have n0_ := Aside0.mk (Kd.R_lower ho6 (below_size (by repeat (first | (with_reducible first | exact HB.out | apply below_alloc | apply pw_below_drewN | apply below_drew1) | exact HB.out)))); have n1_ := Aside0.mk (below_step (by repeat (first | (with_reducible first | exact HB.out | apply below_alloc | apply pw_below_drewN | apply below_drew1) | exact HB.out)) hb); clear HB; have HO108 := n0_; have HB := n1_; clear n0_ n1_; clear hb ho6; obtain ⟨Ao7, co7, eo7⟩ := Kd.R_slice HO108.out; subst eo7) | ((with_reducible refine gate_callee (f := 11) rfl ?_); refine goesL_ (some 15) rfl rfl Try.func11 (by kernel_rfl) rfl #[.slice Ao7 y106.length co7] rfl (by (try simp only [List.map_toArray, List.map_cons, List.map_nil]); first | done | rfl | (simp only [List.length_drop, List.length_take]; rfl)) ?_; (with_reducible refine (impl_ExtremesUint16.calls k _ _ y106 t109 t110 _ ?side1 ?side2 A3.out).mono ?_); (case side1 => repeat (first | exact (Kd.R_reads' HO108.out).2.2 | (with_reducible refine Kd.C_alloc ?_ _) | (with_reducible refine Kd.C_drewN ?_ _) | (with_reducible refine Kd.C_drew ?_))); (case side2 => exact (Kd.R_reads' HO108.out).2.1); rintro e w' ⟨rfl, ⟨nd, rfl⟩⟩; refine ⟨_, rfl, ?_⟩))
    (try simp only [Act.put, List.setIfInBounds_toArray, List.set_cons_zero, List.set_cons_succ])
    go_cut [5] (fun v5 wc => ∃ (kq : Nat) (x5_3 : Bool), v5 = .bool x5_3 ∧ Aside0 (laws_FnExtremesUint16.j0 kq l0 x5_3 = some r) ∧ Aside0 (kq ≤ k) ∧ Aside0 (Below w.heap.size w wc))
    case first =>
      have H := HC4.out
      clear HC4
      by_cases c8 : t109 = 1
      · rw [if_pos c8] at H
        have c8b0 : (t109 == 1) = true := beq_iff_eq.mpr c8
        have c8b1 : (t109 != 1) = false := bne_eq_false_iff_eq.mpr c8
        clear c8
        (first | rw [c8b0] | (simp only [i64_w, i32_w]; rw [c8b0]) | skip)
        have H' := Aside0.mk H
        clear H
        go_wp2
        go_meet
        case rel => exact ⟨_, ((t110 == 2)), (by first | rfl | (simp; done) | (simp [*]; done)), H', ⟨by first | omega | exact Nat.le_refl _⟩, ⟨by repeat (first | (with_reducible first | exact HB.out | apply below_alloc | apply pw_below_drewN | apply below_drew1) | exact HB.out)⟩⟩
      · rw [if_neg c8] at H
        have c8b0 : (t109 == 1) = false := beq_eq_false_iff_ne.mpr c8
        have c8b1 : (t109 != 1) = true := bne_iff_ne.mpr c8
        (first | rw [c8b0] | (simp only [i64_w, i32_w]; rw [c8b0]) | skip)
        have H' := Aside0.mk H
        clear H
        go_wp2
        go_meet
        case rel => exact ⟨_, (false), (by first | rfl | (simp; done) | (simp [*]; done)), H', ⟨by first | omega | exact Nat.le_refl _⟩, ⟨by repeat (first | (with_reducible first | exact HB.out | apply below_alloc | apply pw_below_drewN | apply below_drew1) | exact HB.out)⟩⟩
    case rest =>
      clear HC4
      try clear c1
      try clear c2
      try clear c2b0
      try clear c2b1
      try clear p2
      try clear c6
      try clear c8
      try clear c8b0
      try clear c8b1
      obtain ⟨kq, x5_3, rfl, HA, HJ3, HB⟩ := hcut
      cases kq with
      | zero => exact absurd HA.out (by simp [laws_FnExtremesUint16.j0])
      | succ kj3 =>
        have H := HA.out
        clear HA
        simp only [laws_FnExtremesUint16.j0] at H
        by_cases c9 : (l0.length : Int) > 1000
        · rw [if_pos c9] at H
          have c9b0 : decide (1000 < (l0.length : Int)) = true := decide_eq_true c9
          have c9b1 : decide (1000 < l0.length) = true := decide_eq_true (by omega)
          clear c9
          obtain rfl := Option.some.inj H
          go_wp2
          go_ret
          exact ⟨by first | rfl | (simp [errW_none, errW_some] <;> rfl) | (simp [*, errW_none, errW_some] <;> rfl), by repeat (first | (with_reducible first | exact HB.out | apply below_alloc | apply pw_below_drewN | apply below_drew1) | exact HB.out)⟩
        · rw [if_neg c9] at H
          have c9b0 : decide (1000 < (l0.length : Int)) = false := decide_eq_false c9
          have c9b1 : decide (1000 < l0.length) = false := decide_eq_false (by omega)
          clear c9
          have H' := Aside0.mk H
          clear H
          go_wp2
          go_loopg [6, 7, 30] kj3 (fun kq v6 v7 v30 w' => ∃ (x6_2 : Int) (x7_2 : Int) (x30_2 : Int), v6 = .int .u16 x6_2 ∧ v7 = .int .u16 x7_2 ∧ v30 = .int .i64 x30_2 ∧ Aside0 (laws_FnExtremesUint16.l0 kq l0 x5_3 x6_2 x7_2 l0 (l0.length : Int) x30_2 = some r) ∧ Aside0 (kq ≤ kj3) ∧ Aside0 (Below w.heap.size w w'))
          case atStart => exact ⟨(65535), (0), (0), (by first | rfl | (simp; done) | (simp [*]; done)), (by first | rfl | (simp; done) | (simp [*]; done)), (by first | rfl | (simp; done) | (simp [*]; done)), H', ⟨Nat.le_refl _⟩, ⟨by repeat (first | (with_reducible first | exact HB.out | apply below_alloc | apply pw_below_drewN | apply below_drew1) | exact HB.out)⟩⟩
          case round =>
            clear H'
            try clear c1
            try clear c2
            try clear c2b0
            try clear c2b1
            try clear p2
            try clear c6
            try clear c8
            try clear c8b0
            try clear c8b1
            try clear c9
            try clear c9b0
            try clear c9b1
            try clear p2
            obtain ⟨x6_2, x7_2, x30_2, rfl, rfl, rfl, HA, HK2, HB⟩ := hrel
            cases gk with
            | zero => exact absurd HA.out (by simp [laws_FnExtremesUint16.l0])
            | succ k2 =>
              have H := HA.out
              clear HA
              simp only [laws_FnExtremesUint16.l0] at H
              by_cases c10 : x30_2 < (l0.length : Int)
              · rw [if_pos c10] at H
                have c10b0 : decide (x30_2 < (l0.length : Int)) = true := decide_eq_true c10
                clear c10
                by_cases c11 : 0 ≤ x30_2
                · rw [if_pos c11] at H
                  have c11b0 : decide (0 ≤ x30_2) = true := decide_eq_true c11
                  clear c11
                  by_cases c12 : x30_2 < (l0.length : Int)
                  · rw [if_pos c12] at H
                    have c12b0 : decide (x30_2 < (l0.length : Int)) = true := decide_eq_true c12
                    clear c12
                    obtain ⟨ji13, hji13⟩ : ∃ j_ : Int, (mn x6_2 (rd l0 x30_2)) = j_ := ⟨_, rfl⟩
                    replace H : (laws_FnExtremesUint16.l0 k2 l0 x5_3 ji13 (mx x7_2 (rd l0 x30_2)) l0 (l0.length : Int) (wrap64 (x30_2 + 1))) = some r := by first | (rw [hji13] at H; exact H) | (simp only [hji13] at H ⊢; exact H)
                    have hji13_ : (if (rd l0 x30_2) < x6_2 then (rd l0 x30_2) else x6_2) = ji13 := hji13
                    obtain ⟨ji14, hji14⟩ : ∃ j_ : Int, (mx x7_2 (rd l0 x30_2)) = j_ := ⟨_, rfl⟩
                    replace H : (laws_FnExtremesUint16.l0 k2 l0 x5_3 ji13 ji14 l0 (l0.length : Int) (wrap64 (x30_2 + 1))) = some r := by first | (rw [hji14] at H; exact H) | (simp only [hji14] at H ⊢; exact H)
                    have hji14_ : (if x7_2 < (rd l0 x30_2) then (rd l0 x30_2) else x7_2) = ji14 := hji14
                    have H' := Aside0.mk H
                    clear H
                    have p111 : 0 ≤ (x30_2 : Int) := of_decide_eq_true (by first | (with_reducible assumption) | assumption)
                    have q111 : x30_2 < (l0.length : Int) := of_decide_eq_true (by first | (with_reducible assumption) | assumption)
                    obtain ⟨ad111, e111, hx111_0⟩ := Kd.at_int HR0.out x30_2 p111 q111
                    cases e111
                    replace hx111_0 := (HB.out.cell (World.block_lt_of_cell? w _ hx111_0)).trans hx111_0
                    replace p111 := eq_true p111
                    replace q111 := eq_true q111
                    go_wp2
                    go_roundg k2
                    case measure => have := HJ3.out; have := HK2.out; omega
                    case rel => exact ⟨(ji13), (ji14), (wrap64 (x30_2 + 1)), (by first | rfl | (simp; done) | (simp only [← hji13] <;> (first | rfl | simp)) | (simp [*]; done)), (by first | rfl | (simp; done) | (simp only [← hji14] <;> (first | rfl | simp)) | (simp [*]; done)), (by first | rfl | (simp; done) | (simp [*]; done)), H', ⟨by have := HJ3.out; have := HK2.out; omega⟩, ⟨by repeat (first | (with_reducible first | exact HB.out | apply below_alloc | apply pw_below_drewN | apply below_drew1) | exact HB.out)⟩⟩
                  · rw [if_neg c12] at H
                    exact absurd H (by simp)
                · rw [if_neg c11] at H
                  exact absurd H (by simp)
              · rw [if_neg c10] at H
                have c10b0 : decide (x30_2 < (l0.length : Int)) = false := decide_eq_false c10
                clear c10
                replace H := Option.bind_eq_some_iff.mp H
                obtain ⟨⟨t112, t113⟩, A150, H⟩ := H
                replace H : (if t112 = x6_2 then (if t113 = x7_2 then (some x5_3) else (some false)) else (some false)) = some r := H
                have A15 := Aside0.mk A150
                clear A150
                by_cases c16 : t112 = x6_2
                · rw [if_pos c16] at H
                  have c16b0 : (t112 == x6_2) = true := beq_iff_eq.mpr c16
                  have c16b1 : (t112 != x6_2) = false := bne_eq_false_iff_eq.mpr c16
                  clear c16
                  by_cases c17 : t113 = x7_2
                  · rw [if_pos c17] at H
                    have c17b0 : (t113 == x7_2) = true := beq_iff_eq.mpr c17
                    have c17b1 : (t113 != x7_2) = false := bne_eq_false_iff_eq.mpr c17
                    clear c17
                    obtain rfl := Option.some.inj H
                    go_wp2_with (first | ((with_reducible refine gate_callee (f := 11) rfl ?_); refine goesL_ (some 43) rfl rfl Try.func11 (by kernel_rfl) rfl #[.slice A0 l0.length c0] rfl (by (try simp only [List.map_toArray, List.map_cons, List.map_nil]); first | done | rfl | (simp only [List.length_drop, List.length_take]; rfl)) ?_; (with_reducible refine (impl_ExtremesUint16.calls k2 _ _ l0 t112 t113 _ ?side1 ?side2 A15.out).mono ?_); (case side1 => repeat (first | exact (Kd.C_below HR0.out HB.out) | (with_reducible refine Kd.C_alloc ?_ _) | (with_reducible refine Kd.C_drewN ?_ _) | (with_reducible refine Kd.C_drew ?_))); (case side2 => exact HC0.out); rintro e w' ⟨rfl, ⟨nd, rfl⟩⟩; refine ⟨_, rfl, ?_⟩))
                    go_ret
                    exact ⟨by first | rfl | (simp [errW_none, errW_some] <;> rfl) | (simp [*, errW_none, errW_some] <;> rfl), by repeat (first | (with_reducible first | exact HB.out | apply below_alloc | apply pw_below_drewN | apply below_drew1) | exact HB.out)⟩
                  · rw [if_neg c17] at H
                    have c17b0 : (t113 == x7_2) = false := beq_eq_false_iff_ne.mpr c17
                    have c17b1 : (t113 != x7_2) = true := bne_iff_ne.mpr c17
                    obtain rfl := Option.some.inj H
                    go_wp2_with (first | ((with_reducible refine gate_callee (f := 11) rfl ?_); refine goesL_ (some 43) rfl rfl Try.func11 (by kernel_rfl) rfl #[.slice A0 l0.length c0] rfl (by (try simp only [List.map_toArray, List.map_cons, List.map_nil]); first | done | rfl | (simp only [List.length_drop, List.length_take]; rfl)) ?_; (with_reducible refine (impl_ExtremesUint16.calls k2 _ _ l0 t112 t113 _ ?side1 ?side2 A15.out).mono ?_); (case side1 => repeat (first | exact (Kd.C_below HR0.out HB.out) | (with_reducible refine Kd.C_alloc ?_ _) | (with_reducible refine Kd.C_drewN ?_ _) | (with_reducible refine Kd.C_drew ?_))); (case side2 => exact HC0.out); rintro e w' ⟨rfl, ⟨nd, rfl⟩⟩; refine ⟨_, rfl, ?_⟩))
                    go_ret
                    exact ⟨by first | rfl | (simp [errW_none, errW_some] <;> rfl) | (simp [*, errW_none, errW_some] <;> rfl), by repeat (first | (with_reducible first | exact HB.out | apply below_alloc | apply pw_below_drewN | apply below_drew1) | exact HB.out)⟩
                · rw [if_neg c16] at H
                  have c16b0 : (t112 == x6_2) = false := beq_eq_false_iff_ne.mpr c16
                  have c16b1 : (t112 != x6_2) = true := bne_iff_ne.mpr c16
                  obtain rfl := Option.some.inj H
                  go_wp2_with (first | ((with_reducible refine gate_callee (f := 11) rfl ?_); refine goesL_ (some 43) rfl rfl Try.func11 (by kernel_rfl) rfl #[.slice A0 l0.length c0] rfl (by (try simp only [List.map_toArray, List.map_cons, List.map_nil]); first | done | rfl | (simp only [List.length_drop, List.length_take]; rfl)) ?_; (with_reducible refine (impl_ExtremesUint16.calls k2 _ _ l0 t112 t113 _ ?side1 ?side2 A15.out).mono ?_); (case side1 => repeat (first | exact (Kd.C_below HR0.out HB.out) | (with_reducible refine Kd.C_alloc ?_ _) | (with_reducible refine Kd.C_drewN ?_ _) | (with_reducible refine Kd.C_drew ?_))); (case side2 => exact HC0.out); rintro e w' ⟨rfl, ⟨nd, rfl⟩⟩; refine ⟨_, rfl, ?_⟩))
                  go_ret
                  exact ⟨by first | rfl | (simp [errW_none, errW_some] <;> rfl) | (simp [*, errW_none, errW_some] <;> rfl), by repeat (first | (with_reducible first | exact HB.out | apply below_alloc | apply pw_below_drewN | apply below_drew1) | exact HB.out)⟩

/-- THE ONE PURE STATEMENT of laws_FnExtremesUint16: yours. -/
def laws_FnExtremesUint16.Pure : Prop := ∀ (l0 : List Int), l0.length ≤ maxLen → l0.length * 2 ≤ 140737488351232 → (∀ x ∈ l0, (Lit.int .u16 x).wf = true) → ∃ k, laws_FnExtremesUint16.f k l0 = some true
theorem laws_FnExtremesUint16.walk (P : laws_FnExtremesUint16.Pure) (a0 : Option Addr) (len0 cap0 : Nat) (z0 : List Int) (w : World) (w0 : (a0 = none ∧ len0 = 0 ∧ cap0 = 0 ∧ z0 = []) ∨ ∃ x, a0 = some x ∧ len0 ≤ cap0 ∧ cap0 ≤ maxLen ∧ z0.length = cap0 ∧ (∀ i, i < z0.length → w.cell? (x.add i) = some (.int .u16 (z0.getD i 0))) ∧ ∀ n ∈ z0, (Lit.int .u16 n).wf = true) (y0 : len0 * 2 ≤ 140737488351232) :
    Calls Try.prog 6 #[.slice a0 len0 cap0] w fun e w' => e = .returned (.bool true) ∧ Below w.heap.size w w' := by
  obtain ⟨l0, rfl, hr0, hm0, hw0, hc0⟩ := ReadsInt.ofRowC w0
  obtain ⟨k, h⟩ := P l0 hm0 y0 hw0
  refine (laws_FnExtremesUint16.calls k _ _ l0 true w (Kd.C_of_reads (d := (0 : Int)) (h1 := fun _ => rfl) hr0) hc0 h).mono ?_
  rintro e w' ⟨rfl, hd⟩
  exact ⟨rfl, hd⟩

end Go.Proofs.Ythbogaokmjjpkaa.PFnExtremesUint16
