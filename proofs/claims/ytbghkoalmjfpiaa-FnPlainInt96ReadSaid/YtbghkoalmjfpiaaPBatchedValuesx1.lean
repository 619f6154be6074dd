-- PRINTED BY print.sh 35421559b90ae4d0a3588c463048766b98c2df88dd9212a6774a882060cdf62d: not written by this session
import Derived.Test.YtbghkoalmjfpiaaPBatchedValuesx0
namespace Go.Proofs.Ytbghkoalmjfpiaa.PBatchedValues
open Go.RowKit Go.Proofs.YtbghkoalmjfpiaaW.PrintWords Go.Proofs.YtbghkoalmjfpiaaW.PrintLast Go.Proofs.YtbghkoalmjfpiaaW.PrintMore
attribute [local go_sem] max2_int min2_int max_two min_two max_three min_three max_four min_four   -- for this text's walks alone
set_option linter.unusedVariables false
set_option linter.unusedSimpArgs false

/-! ### spec_Batched: function 34 -/
mutual
def spec_Batched.l0 : Nat → List Int → List Int → Int → List Int → Int → Int → Option (List Int × Bool)
  | 0, _, _, _, _, _, _ => none
  | k + 1, x0, x6, x7, x14, x15, x16 => if x16 < x15 then (if 0 ≤ x16 then (if x16 < (x14.length : Int) then (if (rd x14 x16) < 0 then (spec_Batched.j1 k x0 x6 x7 (rd x14 x16) (wrap64 (-(rd x14 x16))) x14 x15 x16) else (spec_Batched.j1 k x0 x6 x7 (rd x14 x16) (rd x14 x16) x14 x15 x16)) else (none)) else (none)) else (some (x6, true))
def spec_Batched.j1 : Nat → List Int → List Int → Int → Int → Int → List Int → Int → Int → Option (List Int × Bool)
  | 0, _, _, _, _, _, _, _, _ => none
  | k + 1, x0, x6, x7, x9, x10, x14, x15, x16 => if x10 < 0 then (spec_Batched.j2 k x0 x6 x7 x9 x10 x14 x15 x16 true) else (spec_Batched.j2 k x0 x6 x7 x9 x10 x14 x15 x16 (decide (x10 > (wrap64 ((x0.length : Int) - x7)))))
def spec_Batched.j2 : Nat → List Int → List Int → Int → Int → Int → List Int → Int → Int → Bool → Option (List Int × Bool)
  | 0, _, _, _, _, _, _, _, _, _ => none
  | k + 1, x0, x6, x7, x9, x10, x14, x15, x16, x34 => if x34 = true then (some (([] : List Int), false)) else (if x9 > 0 then (if 0 ≤ x7 then (if x7 ≤ (wrap64 (x7 + x9)) then (if (wrap64 (x7 + x9)) ≤ (x0.length : Int) then (if x6.length + ((x0.take ((wrap64 (x7 + x9)) : Int).toNat).drop (x7 : Int).toNat).length < 17592186044416 then (spec_Batched.l0 k x0 (x6 ++ ((x0.take ((wrap64 (x7 + x9)) : Int).toNat).drop (x7 : Int).toNat)) (wrap64 (x7 + x10)) x14 x15 (wrap64 (x16 + 1))) else (none)) else (none)) else (none)) else (none)) else (spec_Batched.l0 k x0 x6 (wrap64 (x7 + x10)) x14 x15 (wrap64 (x16 + 1))))
end
def spec_Batched.f (k : Nat) (l0 : List Int) (l1 : List Int) : Option (List Int × Bool) := if (l1.length : Int) > 50 then (some (([] : List Int), false)) else (spec_Batched.l0 k l0 ([] : List Int) 0 l1 (l1.length : Int) 0)
theorem spec_Batched.mono_l : ∀ k, (∀ y0 y1 y2 y3 y4 y5, LeO (spec_Batched.l0 k y0 y1 y2 y3 y4 y5) (spec_Batched.l0 (k + 1) y0 y1 y2 y3 y4 y5)) ∧ (∀ y0 y1 y2 y3 y4 y5 y6 y7, LeO (spec_Batched.j1 k y0 y1 y2 y3 y4 y5 y6 y7) (spec_Batched.j1 (k + 1) y0 y1 y2 y3 y4 y5 y6 y7)) ∧ (∀ y0 y1 y2 y3 y4 y5 y6 y7 y8, LeO (spec_Batched.j2 k y0 y1 y2 y3 y4 y5 y6 y7 y8) (spec_Batched.j2 (k + 1) y0 y1 y2 y3 y4 y5 y6 y7 y8))
  | 0 => ⟨fun _ _ _ _ _ _ r h => by simp [spec_Batched.l0] at h, fun _ _ _ _ _ _ _ _ r h => by simp [spec_Batched.j1] at h, fun _ _ _ _ _ _ _ _ _ r h => by simp [spec_Batched.j2] at h⟩
  | k + 1 => by
    obtain ⟨ih0, ih1, ih2⟩ := spec_Batched.mono_l k
    refine ⟨?_, ?_, ?_⟩
    · intro y0 y1 y2 y3 y4 y5
      unfold spec_Batched.l0
      repeat' first
      | (with_reducible exact ih0 _ _ _ _ _ _)
      | (with_reducible exact ih1 _ _ _ _ _ _ _ _)
      | (with_reducible exact ih2 _ _ _ _ _ _ _ _ _)
      | (with_reducible exact LeO.refl _)
      | (with_reducible exact LeO.none _)
      | (with_reducible refine LeO.ite ?_ ?_)
      | (with_reducible refine LeO.bind ?_ (fun _ => ?_))
      | exact ih0 _ _ _ _ _ _
      | exact ih1 _ _ _ _ _ _ _ _
      | exact ih2 _ _ _ _ _ _ _ _ _
      | exact LeO.none _
      | refine LeO.ite ?_ ?_
      | refine LeO.bind ?_ (fun _ => ?_)
    · intro y0 y1 y2 y3 y4 y5 y6 y7
      unfold spec_Batched.j1
      repeat' first
      | (with_reducible exact ih0 _ _ _ _ _ _)
      | (with_reducible exact ih1 _ _ _ _ _ _ _ _)
      | (with_reducible exact ih2 _ _ _ _ _ _ _ _ _)
      | (with_reducible exact LeO.refl _)
      | (with_reducible exact LeO.none _)
      | (with_reducible refine LeO.ite ?_ ?_)
      | (with_reducible refine LeO.bind ?_ (fun _ => ?_))
      | exact ih0 _ _ _ _ _ _
      | exact ih1 _ _ _ _ _ _ _ _
      | exact ih2 _ _ _ _ _ _ _ _ _
      | exact LeO.none _
      | refine LeO.ite ?_ ?_
      | refine LeO.bind ?_ (fun _ => ?_)
    · intro y0 y1 y2 y3 y4 y5 y6 y7 y8
      unfold spec_Batched.j2
      repeat' first
      | (with_reducible exact ih0 _ _ _ _ _ _)
      | (with_reducible exact ih1 _ _ _ _ _ _ _ _)
      | (with_reducible exact ih2 _ _ _ _ _ _ _ _ _)
      | (with_reducible exact LeO.refl _)
      | (with_reducible exact LeO.none _)
      | (with_reducible refine LeO.ite ?_ ?_)
      | (with_reducible refine LeO.bind ?_ (fun _ => ?_))
      | exact ih0 _ _ _ _ _ _
      | exact ih1 _ _ _ _ _ _ _ _
      | exact ih2 _ _ _ _ _ _ _ _ _
      | exact LeO.none _
      | refine LeO.ite ?_ ?_
      | refine LeO.bind ?_ (fun _ => ?_)
theorem spec_Batched.mono : ∀ a0 a1 k, LeO (spec_Batched.f k a0 a1) (spec_Batched.f (k + 1) a0 a1) := by
  intro a0 a1 k
  obtain ⟨ih0, ih1, ih2⟩ := spec_Batched.mono_l k
  unfold spec_Batched.f
  repeat' first
      | (with_reducible exact ih0 _ _ _ _ _ _)
      | (with_reducible exact ih1 _ _ _ _ _ _ _ _)
      | (with_reducible exact ih2 _ _ _ _ _ _ _ _ _)
      | (with_reducible exact LeO.refl _)
      | (with_reducible exact LeO.none _)
      | (with_reducible refine LeO.ite ?_ ?_)
      | (with_reducible refine LeO.bind ?_ (fun _ => ?_))
      | exact ih0 _ _ _ _ _ _
      | exact ih1 _ _ _ _ _ _ _ _
      | exact ih2 _ _ _ _ _ _ _ _ _
      | exact LeO.none _
      | refine LeO.ite ?_ ?_
      | refine LeO.bind ?_ (fun _ => ?_)
set_option maxHeartbeats 8000000 in
set_option maxRecDepth 100000 in
theorem spec_Batched.calls (k : Nat) (A0 : Option Addr) (c0 : Nat) (l0 : List Int) (A1 : Option Addr) (c1 : Nat) (l1 : List Int) (r1 : List Int) (r2 : Bool) (w : World) (hr0 : Kd.C (Kd.int .u64) w A0 l0.length l0) (hc0 : l0.length ≤ c0) (hr1 : Kd.C (Kd.int .i64) w A1 l1.length l1) (hc1 : l1.length ≤ c1) (h : spec_Batched.f k l0 l1 = some (r1, r2)) :
    Calls Try.prog 34 #[.slice A0 l0.length c0, .slice A1 l1.length c1] w fun e w' => ∃ v0_ : Value, e = .returned (.tuple #[v0_, .bool r2]) ∧ Kd.R (Kd.int .u64) 32 w' w.heap.size (fun _ => True) v0_ r1 ∧ Below w.heap.size w w' := by
  have HR0 := Aside0.mk hr0
  have HC0 := Aside0.mk hc0
  clear hr0 hc0
  have HR1 := Aside0.mk hr1
  have HC1 := Aside0.mk hc1
  clear hr1 hc1
  have HB := Aside0.mk (Below.refl w.heap.size w)
  have H : (if (l1.length : Int) > 50 then (some (([] : List Int), false)) else (spec_Batched.l0 k l0 ([] : List Int) 0 l1 (l1.length : Int) 0)) = some (r1, r2) := h
  clear h
  by_cases c3 : (l1.length : Int) > 50
  · rw [if_pos c3] at H
    have c3b0 : decide (50 < (l1.length : Int)) = true := decide_eq_true c3
    have c3b1 : decide (50 < l1.length) = true := decide_eq_true (by omega)
    clear c3
    simp only [Option.some.injEq, Prod.mk.injEq] at H
    obtain ⟨rfl, rfl⟩ := H
    go_enter Try.func34, Try.ntmps34
    go_wp2
    go_ret2
    exact ⟨_, by first | rfl | (simp [errW_none, errW_some] <;> rfl) | (simp [*, errW_none, errW_some] <;> rfl), by first | exact Kd.R_nil _ _ _ _ _ | exact Kd.N_nil _ _ _ _ _ | exact Kd.V_nil _ _ _ _ _ | exact Kd.Q_nil _ _ _ _ _ | exact Kd.S_nil _ _ _ _ _, by repeat (first | (with_reducible first | exact HB.out | apply below_alloc | apply pw_below_drewN | apply below_drew1) | exact HB.out)⟩
  · rw [if_neg c3] at H
    have c3b0 : decide (50 < (l1.length : Int)) = false := decide_eq_false c3
    have c3b1 : decide (50 < l1.length) = false := decide_eq_false (by omega)
    clear c3
    have H' := Aside0.mk H
    clear H
    go_enter Try.func34, Try.ntmps34
    go_wp2
    go_loopg [6, 7, 16] k (fun kq v6 v7 v16 w' => ∃ (x6_1 : List Int) (x7_1 : Int) (x16_1 : Int), v7 = .int .i64 x7_1 ∧ v16 = .int .i64 x16_1 ∧ Aside0 (spec_Batched.l0 kq l0 x6_1 x7_1 l1 (l1.length : Int) x16_1 = some (r1, r2)) ∧ Aside0 (kq ≤ k) ∧ Aside0 (Kd.R (Kd.int .u64) 32 w' w.heap.size (fun _ => True) v6 x6_1) ∧ Aside0 (Below w.heap.size w w'))
    case atStart => exact ⟨(([] : List Int)), (0), (0), (by first | rfl | (simp; done) | (simp [*]; done)), (by first | rfl | (simp; done) | (simp [*]; done)), H', ⟨Nat.le_refl _⟩, ⟨by first | exact Kd.R_nil _ _ _ _ _ | exact Kd.N_nil _ _ _ _ _ | exact Kd.V_nil _ _ _ _ _ | exact Kd.Q_nil _ _ _ _ _ | exact Kd.S_nil _ _ _ _ _⟩, ⟨by repeat (first | (with_reducible first | exact HB.out | apply below_alloc | apply pw_below_drewN | apply below_drew1) | exact HB.out)⟩⟩
    case round =>
      clear H'
      try clear c1
      try clear p2
      try clear c3
      try clear c3b0
      try clear c3b1
      obtain ⟨x6_1, x7_1, x16_1, rfl, rfl, HA, HK1, HO_6, HB⟩ := hrel
      cases gk with
      | zero => exact absurd HA.out (by simp [spec_Batched.l0])
      | succ k1 =>
        have H := HA.out
        clear HA
        simp only [spec_Batched.l0] at H
        by_cases c4 : x16_1 < (l1.length : Int)
        · rw [if_pos c4] at H
          have c4b0 : decide (x16_1 < (l1.length : Int)) = true := decide_eq_true c4
          clear c4
          by_cases c5 : 0 ≤ x16_1
          · rw [if_pos c5] at H
            have c5b0 : decide (0 ≤ x16_1) = true := decide_eq_true c5
            clear c5
            by_cases c6 : x16_1 < (l1.length : Int)
            · rw [if_pos c6] at H
              have c6b0 : decide (x16_1 < (l1.length : Int)) = true := decide_eq_true c6
              clear c6
              have HC7 := Aside0.mk H
              clear H
              have p101 : 0 ≤ (x16_1 : Int) := of_decide_eq_true (by first | (with_reducible assumption) | assumption)
              have q101 : x16_1 < (l1.length : Int) := of_decide_eq_true (by first | (with_reducible assumption) | assumption)
              obtain ⟨ad101, e101, hx101_0⟩ := Kd.at_int HR1.out x16_1 p101 q101
              cases e101
              replace hx101_0 := (HB.out.cell (World.block_lt_of_cell? w _ hx101_0)).trans hx101_0
              replace p101 := eq_true p101
              replace q101 := eq_true q101
              go_upto_if 22 with (fail)
              go_cut [10] (fun v10 wc => ∃ (kq : Nat) (x10_6 : Int), v10 = .int .i64 x10_6 ∧ Aside0 (spec_Batched.j1 kq l0 x6_1 x7_1 (rd l1 x16_1) x10_6 l1 (l1.length : Int) x16_1 = some (r1, r2)) ∧ Aside0 (kq ≤ k1) ∧ Aside0 (Kd.R (Kd.int .u64) 32 wc w.heap.size (fun _ => True) u6 x6_1) ∧ Aside0 (Below w.heap.size w wc))
              case first =>
                have H := HC7.out
                clear HC7
                by_cases c8 : (rd l1 x16_1) < 0
                · rw [if_pos c8] at H
                  have c8b0 : decide ((rd l1 x16_1) < 0) = true := decide_eq_true c8
                  clear c8
                  (first | rw [c8b0] | (simp only [i64_w, i32_w]; rw [c8b0]) | skip)
                  have H' := Aside0.mk H
                  clear H
                  go_wp2
                  go_meet
                  case rel => exact ⟨_, (wrap64 (-(rd l1 x16_1))), (by first | rfl | (simp; done) | (simp [*]; done)), H', ⟨by have := HK1.out; first | omega | exact Nat.le_refl _⟩, ⟨by (with_reducible repeat (first | apply Kd.R_alloc | apply Kd.R_drewN | apply Kd.R_drew)); exact HO_6.out⟩, ⟨by repeat (first | (with_reducible first | exact HB.out | apply below_alloc | apply pw_below_drewN | apply below_drew1) | exact HB.out)⟩⟩
                · rw [if_neg c8] at H
                  have c8b0 : decide ((rd l1 x16_1) < 0) = false := decide_eq_false c8
                  clear c8
                  (first | rw [c8b0] | (simp only [i64_w, i32_w]; rw [c8b0]) | skip)
                  have H' := Aside0.mk H
                  clear H
                  go_wp2
                  go_meet
                  case rel => exact ⟨_, (rd l1 x16_1), (by first | rfl | (simp; done) | (simp [*]; done)), H', ⟨by have := HK1.out; first | omega | exact Nat.le_refl _⟩, ⟨by (with_reducible repeat (first | apply Kd.R_alloc | apply Kd.R_drewN | apply Kd.R_drew)); exact HO_6.out⟩, ⟨by repeat (first | (with_reducible first | exact HB.out | apply below_alloc | apply pw_below_drewN | apply below_drew1) | exact HB.out)⟩⟩
              case rest =>
                clear HC7
                try clear c1
                try clear p1
                try clear q1
                try clear hx1
                try clear p2
                try clear c3
                try clear c3b0
                try clear c3b1
                try clear c4
                try clear c4b0
                try clear c5
                try clear c5b0
                try clear c6
                try clear c6b0
                try clear p6
                try clear c8
                try clear c8b0
                try clear hx101_0
                try clear p101
                try clear p2
                try clear q101
                obtain ⟨kq, x10_6, rfl, HA, HJ6, HO_6, HB⟩ := hcut
                cases kq with
                | zero => exact absurd HA.out (by simp [spec_Batched.j1])
                | succ kj6 =>
                  have H := HA.out
                  clear HA
                  simp only [spec_Batched.j1] at H
                  have HC9 := Aside0.mk H
                  clear H
                  go_upto_region 11 with (fail)
                  go_cut [34] (fun v34 wc => ∃ (kq : Nat) (x34_8 : Bool), v34 = .bool x34_8 ∧ Aside0 (spec_Batched.j2 kq l0 x6_1 x7_1 (rd l1 x16_1) x10_6 l1 (l1.length : Int) x16_1 x34_8 = some (r1, r2)) ∧ Aside0 (kq ≤ kj6) ∧ Aside0 (Kd.R (Kd.int .u64) 32 wc w.heap.size (fun _ => True) u6 x6_1) ∧ Aside0 (Below w.heap.size w wc))
                  case first =>
                    have H := HC9.out
                    clear HC9
                    by_cases c10 : x10_6 < 0
                    · rw [if_pos c10] at H
                      have c10b0 : decide (x10_6 < 0) = true := decide_eq_true c10
                      clear c10
                      (first | rw [c10b0] | (simp only [i64_w, i32_w]; rw [c10b0]) | skip)
                      have H' := Aside0.mk H
                      clear H
                      go_wp2
                      go_meet
                      case rel => exact ⟨_, (true), (by first | rfl | (simp; done) | (simp [*]; done)), H', ⟨by have := HK1.out; have := HJ6.out; first | omega | exact Nat.le_refl _⟩, ⟨by (with_reducible repeat (first | apply Kd.R_alloc | apply Kd.R_drewN | apply Kd.R_drew)); exact HO_6.out⟩, ⟨by repeat (first | (with_reducible first | exact HB.out | apply below_alloc | apply pw_below_drewN | apply below_drew1) | exact HB.out)⟩⟩
                    · rw [if_neg c10] at H
                      have c10b0 : decide (x10_6 < 0) = false := decide_eq_false c10
                      clear c10
                      (first | rw [c10b0] | (simp only [i64_w, i32_w]; rw [c10b0]) | skip)
                      have H' := Aside0.mk H
                      clear H
                      go_wp2
                      go_meet
                      case rel => exact ⟨_, (decide (x10_6 > (wrap64 ((l0.length : Int) - x7_1)))), (by first | rfl | (simp; done) | (simp [*]; done)), H', ⟨by have := HK1.out; have := HJ6.out; first | omega | exact Nat.le_refl _⟩, ⟨by (with_reducible repeat (first | apply Kd.R_alloc | apply Kd.R_drewN | apply Kd.R_drew)); exact HO_6.out⟩, ⟨by repeat (first | (with_reducible first | exact HB.out | apply below_alloc | apply pw_below_drewN | apply below_drew1) | exact HB.out)⟩⟩
                  case rest =>
                    clear HC9
                    try clear c1
                    try clear p1
                    try clear q1
                    try clear hx1
                    try clear p2
                    try clear c3
                    try clear c3b0
                    try clear c3b1
                    try clear c4
                    try clear c4b0
                    try clear c5
                    try clear c5b0
                    try clear c6
                    try clear c6b0
                    try clear p6
                    try clear c8
                    try clear c8b0
                    try clear c10
                    try clear c10b0
                    try clear p10
                    try clear q10
                    try clear hx10
                    try clear hx101_0
                    try clear p1
                    try clear p101
                    try clear p2
                    try clear p6
                    try clear q1
                    try clear q101
                    obtain ⟨kq, x34_8, rfl, HA, HJ8, HO_6, HB⟩ := hcut
                    cases kq with
                    | zero => exact absurd HA.out (by simp [spec_Batched.j2])
                    | succ kj8 =>
                      have H := HA.out
                      clear HA
                      simp only [spec_Batched.j2] at H
                      by_cases c11 : x34_8 = true
                      · subst c11
                        have H1 : (some (([] : List Int), false)) = some (r1, r2) := by rw [if_pos rfl] at H; exact H
                        clear H
                        have H := H1
                        clear H1
                        simp only [Option.some.injEq, Prod.mk.injEq] at H
                        obtain ⟨rfl, rfl⟩ := H
                        go_wp2
                        go_ret2
                        exact ⟨_, by first | rfl | (simp [errW_none, errW_some] <;> rfl) | (simp [*, errW_none, errW_some] <;> rfl), by first | exact Kd.R_nil _ _ _ _ _ | exact Kd.N_nil _ _ _ _ _ | exact Kd.V_nil _ _ _ _ _ | exact Kd.Q_nil _ _ _ _ _ | exact Kd.S_nil _ _ _ _ _, by repeat (first | (with_reducible first | exact HB.out | apply below_alloc | apply pw_below_drewN | apply below_drew1) | exact HB.out)⟩
                      · replace c11 := Bool.eq_false_iff.mpr c11
                        subst c11
                        have H1 : (if (rd l1 x16_1) > 0 then (if 0 ≤ x7_1 then (if x7_1 ≤ (wrap64 (x7_1 + (rd l1 x16_1))) then (if (wrap64 (x7_1 + (rd l1 x16_1))) ≤ (l0.length : Int) then (if x6_1.length + ((l0.take ((wrap64 (x7_1 + (rd l1 x16_1))) : Int).toNat).drop (x7_1 : Int).toNat).length < 17592186044416 then (spec_Batched.l0 kj8 l0 (x6_1 ++ ((l0.take ((wrap64 (x7_1 + (rd l1 x16_1))) : Int).toNat).drop (x7_1 : Int).toNat)) (wrap64 (x7_1 + x10_6)) l1 (l1.length : Int) (wrap64 (x16_1 + 1))) else (none)) else (none)) else (none)) else (none)) else (spec_Batched.l0 kj8 l0 x6_1 (wrap64 (x7_1 + x10_6)) l1 (l1.length : Int) (wrap64 (x16_1 + 1)))) = some (r1, r2) := by rw [if_neg (show ¬ (false = true) by decide)] at H; exact H
                        clear H
                        have H := H1
                        clear H1
                        by_cases c12 : (rd l1 x16_1) > 0
                        · rw [if_pos c12] at H
                          have c12b0 : decide (0 < (rd l1 x16_1)) = true := decide_eq_true c12
                          clear c12
                          by_cases c13 : 0 ≤ x7_1
                          · rw [if_pos c13] at H
                            have c13b0 := eq_true c13
                            have c13b1 : decide (0 ≤ x7_1) = true := decide_eq_true c13
                            clear c13
                            by_cases c14 : x7_1 ≤ (wrap64 (x7_1 + (rd l1 x16_1)))
                            · rw [if_pos c14] at H
                              have c14b0 := eq_true c14
                              have c14b1 : decide (x7_1 ≤ (wrap64 (x7_1 + (rd l1 x16_1)))) = true := decide_eq_true c14
                              by_cases c15 : (wrap64 (x7_1 + (rd l1 x16_1))) ≤ (l0.length : Int)
                              · rw [if_pos c15] at H
                                have c15b0 := eq_true c15
                                have c15b1 : decide ((wrap64 (x7_1 + (rd l1 x16_1))) ≤ (l0.length : Int)) = true := decide_eq_true c15
                                by_cases c16 : x6_1.length + ((l0.take ((wrap64 (x7_1 + (rd l1 x16_1))) : Int).toNat).drop (x7_1 : Int).toNat).length < 17592186044416
                                · rw [if_pos c16] at H
                                  have LMc16 := Aside0.mk c16
                                  clear c16
                                  obtain ⟨y103, hy103⟩ : ∃ y_ : List Int, y_ = (x6_1 ++ ((l0.take ((wrap64 (x7_1 + (rd l1 x16_1))) : Int).toNat).drop (x7_1 : Int).toNat)) := ⟨_, rfl⟩
                                  replace H : (spec_Batched.l0 kj8 l0 y103 (wrap64 (x7_1 + x10_6)) l1 (l1.length : Int) (wrap64 (x16_1 + 1))) = some (r1, r2) := by first | (rw [hy103]; with_reducible exact H) | (have H2_ := (Option.bind_some _ _).symm.trans H; rw [hy103]; with_reducible exact H2_) | (have H2_ := (Option.bind_some _ _).symm.trans H; with_reducible exact H2_) | with_reducible exact H | (rw [hy103]; exact H) | exact H
                                  have Ny103 := Aside0.mk hy103
                                  clear hy103
                                  have H' := Aside0.mk H
                                  clear H
                                  obtain ⟨i017, hi017, _, hsz17, _⟩ := info_parts info32
                                  obtain ⟨A17, hcut17, hA17, hC17⟩ := print_mid_of (P := Try.prog) (Value.int .u64) 0 65 32 .i64 .i64 Try.underlying65 hi017 hsz17 A0 c0 l0 x7_1 (wrap64 (x7_1 + (rd l1 x16_1))) (of_decide_eq_true (by first | (with_reducible assumption) | assumption)) (by first | omega | exact of_decide_eq_true (by first | (with_reducible assumption) | assumption)) (of_decide_eq_true (by first | (with_reducible assumption) | assumption)) HC0.out
                                  have HR102 := Aside0.mk (Kd.C_of_reads (h1 := fun _ => rfl) (hA17 _ (Kd.reads_of_C HR0.out)))
                                  have HC102 := Aside0.mk hC17
                                  clear hA17 hC17 hi017 hsz17
                                  go_wp2_with (first | ((with_reducible refine gate_builtin (b := .append) (xs := #[.tmp 37, .tmp 43]) rfl ?_); (try (refine gate_guard (by rfl) ?_; dsimp only)); at_builtin; refine Kd.R_append_rows (Kd.int .u64) (w0 := w) w.heap.size rfl (.tmp 37) (.tmp 43) 65 32 (.int .u64 0) 8 rfl Try.underlying65 info32 rfl (by decide) (by omega) u6 x6_1 ((l0.take ((wrap64 (x7_1 + (rd l1 x16_1))) : Int).toNat).drop (x7_1 : Int).toNat) _ _ _ (fun _ => True) (fun _ => False) rfl rfl ?aO ?aR (fun _ _ h => h) (fun _ h => h.elim) ?aF ?aB ?aS ?aL ?_; (case aR => first | (rw [← show ((l0.take ((wrap64 (x7_1 + (rd l1 x16_1))) : Int).toNat).drop (x7_1 : Int).toNat).length = ((wrap64 (x7_1 + (rd l1 x16_1))).toNat - x7_1.toNat) from (by rw [List.length_drop, List.length_take]; have h_ : ((wrap64 (x7_1 + (rd l1 x16_1))) : Int) ≤ (l0.length : Int) := of_decide_eq_true (by first | (with_reducible assumption) | assumption); omega)]; repeat (first | exact (Kd.C_below HR102.out HB.out) | (with_reducible refine Kd.C_alloc ?_ _) | (with_reducible refine Kd.C_drewN ?_ _) | (with_reducible refine Kd.C_drew ?_))) | (repeat (first | exact (Kd.C_below HR102.out HB.out) | (with_reducible refine Kd.C_alloc ?_ _) | (with_reducible refine Kd.C_drewN ?_ _) | (with_reducible refine Kd.C_drew ?_)))); (case aB => exact (by repeat (first | (with_reducible first | exact HB.out | apply below_alloc | apply pw_below_drewN | apply below_drew1) | exact HB.out))); (case aF => exact (fun _ _ => trivial)); (case aO => exact (by (with_reducible repeat (first | apply Kd.R_alloc | apply Kd.R_drewN | apply Kd.R_drew)); exact HO_6.out)); (case aS => exact (below_size (by repeat (first | (with_reducible first | exact HB.out | apply below_alloc | apply pw_below_drewN | apply below_drew1) | exact HB.out)))); (case aL => have := LMc16.out; have hlx_ := (show ((l0.take ((wrap64 (x7_1 + (rd l1 x16_1))) : Int).toNat).drop (x7_1 : Int).toNat).length = ((wrap64 (x7_1 + (rd l1 x16_1))).toNat - x7_1.toNat) from (by rw [List.length_drop, List.length_take]; have h_ : ((wrap64 (x7_1 + (rd l1 x16_1))) : Int) ≤ (l0.length : Int) := of_decide_eq_true (by first | (with_reducible assumption) | assumption); omega)); omega); intro v104 w18 ho hb hg hat; rw [← Ny103.out] at ho; have n0_ := Aside0.mk (hb); have n1_ := Aside0.mk (ho); clear HB; clear HO_6; have HB := n0_; have HO105 := n1_; clear n0_ n1_; clear ho hb hg hat))
                                  go_roundg kj8
                                  case measure => have := HK1.out; have := HJ6.out; have := HJ8.out; omega
                                  case rel => exact ⟨(y103), (wrap64 (x7_1 + x10_6)), (wrap64 (x16_1 + 1)), (by first | rfl | (simp; done) | (simp [*]; done)), (by first | rfl | (simp; done) | (simp [*]; done)), H', ⟨by have := HK1.out; have := HJ6.out; have := HJ8.out; omega⟩, ⟨by (with_reducible repeat (first | apply Kd.R_alloc | apply Kd.R_drewN | apply Kd.R_drew)); exact HO105.out⟩, ⟨by repeat (first | (with_reducible first | exact HB.out | apply below_alloc | apply pw_below_drewN | apply below_drew1) | exact HB.out)⟩⟩
                                · rw [if_neg c16] at H
                                  exact absurd H (by simp)
                              · rw [if_neg c15] at H
                                exact absurd H (by simp)
                            · rw [if_neg c14] at H
                              exact absurd H (by simp)
                          · rw [if_neg c13] at H
                            exact absurd H (by simp)
                        · rw [if_neg c12] at H
                          have c12b0 : decide (0 < (rd l1 x16_1)) = false := decide_eq_false c12
                          clear c12
                          have H' := Aside0.mk H
                          clear H
                          go_wp2
                          go_roundg kj8
                          case measure => have := HK1.out; have := HJ6.out; have := HJ8.out; omega
                          case rel => exact ⟨(x6_1), (wrap64 (x7_1 + x10_6)), (wrap64 (x16_1 + 1)), (by first | rfl | (simp; done) | (simp [*]; done)), (by first | rfl | (simp; done) | (simp [*]; done)), H', ⟨by have := HK1.out; have := HJ6.out; have := HJ8.out; omega⟩, ⟨by (with_reducible repeat (first | apply Kd.R_alloc | apply Kd.R_drewN | apply Kd.R_drew)); exact HO_6.out⟩, ⟨by repeat (first | (with_reducible first | exact HB.out | apply below_alloc | apply pw_below_drewN | apply below_drew1) | exact HB.out)⟩⟩
            · rw [if_neg c6] at H
              exact absurd H (by simp)
          · rw [if_neg c5] at H
            exact absurd H (by simp)
        · rw [if_neg c4] at H
          have c4b0 : decide (x16_1 < (l1.length : Int)) = false := decide_eq_false c4
          clear c4
          simp only [Option.some.injEq, Prod.mk.injEq] at H
          obtain ⟨rfl, rfl⟩ := H
          go_wp2
          go_ret2
          exact ⟨_, by first | rfl | (simp [errW_none, errW_some] <;> rfl) | (simp [*, errW_none, errW_some] <;> rfl), by (with_reducible repeat (first | apply Kd.R_alloc | apply Kd.R_drewN | apply Kd.R_drew)); exact HO_6.out, by repeat (first | (with_reducible first | exact HB.out | apply below_alloc | apply pw_below_drewN | apply below_drew1) | exact HB.out)⟩

/-! ### spec_Counted0: function 35 -/
def spec_Counted0.l0 : Nat → Int → List Int → Int → Option (List Int)
  | 0, _, _, _ => none
  | k + 1, x0, x3, x4 => if x4 < x0 then (if x3.length < 17592186044416 then (spec_Counted0.l0 k x0 (x3 ++ [IntKind.u64.wrap (x4)]) (wrap64 (x4 + 1))) else (none)) else (some x3)
def spec_Counted0.f (k : Nat) (a0 : Int) : Option (List Int) := spec_Counted0.l0 k a0 ([] : List Int) 0
theorem spec_Counted0.mono_l : ∀ k, (∀ y0 y1 y2, LeO (spec_Counted0.l0 k y0 y1 y2) (spec_Counted0.l0 (k + 1) y0 y1 y2))
  | 0 => fun _ _ _ r h => by simp [spec_Counted0.l0] at h
  | k + 1 => by
    have ih0 := spec_Counted0.mono_l k
    · intro y0 y1 y2
      unfold spec_Counted0.l0
      repeat' first
      | (with_reducible exact ih0 _ _ _)
      | (with_reducible exact LeO.refl _)
      | (with_reducible exact LeO.none _)
      | (with_reducible refine LeO.ite ?_ ?_)
      | (with_reducible refine LeO.bind ?_ (fun _ => ?_))
      | exact ih0 _ _ _
      | exact LeO.none _
      | refine LeO.ite ?_ ?_
      | refine LeO.bind ?_ (fun _ => ?_)
theorem spec_Counted0.mono : ∀ a0 k, LeO (spec_Counted0.f k a0) (spec_Counted0.f (k + 1) a0) := by
  intro a0 k
  have ih0 := spec_Counted0.mono_l k
  unfold spec_Counted0.f
  repeat' first
      | (with_reducible exact ih0 _ _ _)
      | (with_reducible exact LeO.refl _)
      | (with_reducible exact LeO.none _)
      | (with_reducible refine LeO.ite ?_ ?_)
      | (with_reducible refine LeO.bind ?_ (fun _ => ?_))
      | exact ih0 _ _ _
      | exact LeO.none _
      | refine LeO.ite ?_ ?_
      | refine LeO.bind ?_ (fun _ => ?_)
set_option maxHeartbeats 8000000 in
set_option maxRecDepth 100000 in
theorem spec_Counted0.calls (k : Nat) (a0 : Int) (r : List Int) (w : World) (h : spec_Counted0.f k a0 = some r) :
    Calls Try.prog 35 #[.int .i64 a0] w fun e w' => ∃ v0_ : Value, e = .returned (v0_) ∧ Kd.R (Kd.int .u64) 32 w' w.heap.size (fun _ => True) v0_ r ∧ Below w.heap.size w w' := by
  have HB := Aside0.mk (Below.refl w.heap.size w)
  have H : (spec_Counted0.l0 k a0 ([] : List Int) 0) = some r := h
  clear h
  have H' := Aside0.mk H
  clear H
  go_enter Try.func35, Try.ntmps35
  go_wp2
  go_loopg [3, 4] k (fun kq v3 v4 w' => ∃ (x3_1 : List Int) (x4_1 : Int), v4 = .int .i64 x4_1 ∧ Aside0 (spec_Counted0.l0 kq a0 x3_1 x4_1 = some r) ∧ Aside0 (kq ≤ k) ∧ Aside0 (Kd.R (Kd.int .u64) 32 w' w.heap.size (fun _ => True) v3 x3_1) ∧ Aside0 (Below w.heap.size w w'))
  case atStart => exact ⟨(([] : List Int)), (0), (by first | rfl | (simp; done) | (simp [*]; done)), H', ⟨Nat.le_refl _⟩, ⟨by first | exact Kd.R_nil _ _ _ _ _ | exact Kd.N_nil _ _ _ _ _ | exact Kd.V_nil _ _ _ _ _ | exact Kd.Q_nil _ _ _ _ _ | exact Kd.S_nil _ _ _ _ _⟩, ⟨by repeat (first | (with_reducible first | exact HB.out | apply below_alloc | apply pw_below_drewN | apply below_drew1) | exact HB.out)⟩⟩
  case round =>
    clear H'
    obtain ⟨x3_1, x4_1, rfl, HA, HK1, HO_3, HB⟩ := hrel
    cases gk with
    | zero => exact absurd HA.out (by simp [spec_Counted0.l0])
    | succ k1 =>
      have H := HA.out
      clear HA
      simp only [spec_Counted0.l0] at H
      by_cases c2 : x4_1 < a0
      · rw [if_pos c2] at H
        have c2b0 : decide (x4_1 < a0) = true := decide_eq_true c2
        clear c2
        by_cases c3 : x3_1.length < 17592186044416
        · rw [if_pos c3] at H
          have LMc3 := Aside0.mk c3
          clear c3
          obtain ⟨y106, hy106⟩ : ∃ y_ : List Int, y_ = (x3_1 ++ [IntKind.u64.wrap (x4_1)]) := ⟨_, rfl⟩
          replace H : (spec_Counted0.l0 k1 a0 y106 (wrap64 (x4_1 + 1))) = some r := by first | (rw [hy106]; with_reducible exact H) | (have H2_ := (Option.bind_some _ _).symm.trans H; rw [hy106]; with_reducible exact H2_) | (have H2_ := (Option.bind_some _ _).symm.trans H; with_reducible exact H2_) | with_reducible exact H | (rw [hy106]; exact H) | exact H
          have Ny106 := Aside0.mk hy106
          clear hy106
          have H' := Aside0.mk H
          clear H
          go_wp2_with (first | ((with_reducible refine gate_builtin (b := .append) (xs := #[.tmp 10, .tmp 13]) rfl ?_); at_builtin; refine Kd.R_append (Kd.int .u64) (w0 := w) w.heap.size rfl (.tmp 10) (.tmp 13) 65 32 (.int .u64 0) 8 rfl Try.underlying65 info32 rfl (by decide) (by omega) u3 x3_1 (IntKind.u64.wrap (x4_1)) [.int .u64 (IntKind.u64.wrap (x4_1))] (fun _ => True) (fun _ => False) rfl rfl ?aP (fun _ hk => hk.elim) ?aF ?aO ?aB ?aS ?aL ?_; (case aP => exact rfl); (case aB => exact (by repeat (first | (with_reducible first | exact HB.out | apply below_alloc | apply pw_below_drewN | apply below_drew1) | exact HB.out))); (case aF => exact (fun _ _ => trivial)); (case aO => exact (by (with_reducible repeat (first | apply Kd.R_alloc | apply Kd.R_drewN | apply Kd.R_drew)); exact HO_3.out)); (case aS => exact (below_size (by repeat (first | (with_reducible first | exact HB.out | apply below_alloc | apply pw_below_drewN | apply below_drew1) | exact HB.out)))); (case aL => have := LMc3.out; omega); intro v107 w4 ho hb hg hat; rw [← Ny106.out] at ho; have n0_ := Aside0.mk (hb); have n1_ := Aside0.mk (ho); clear HB; clear HO_3; have HB := n0_; have HO108 := n1_; clear n0_ n1_; clear ho hb hg hat))
          go_roundg k1
          case measure => have := HK1.out; omega
          case rel => exact ⟨(y106), (wrap64 (x4_1 + 1)), (by first | rfl | (simp; done) | (simp [*]; done)), H', ⟨by have := HK1.out; omega⟩, ⟨by (with_reducible repeat (first | apply Kd.R_alloc | apply Kd.R_drewN | apply Kd.R_drew)); exact HO108.out⟩, ⟨by repeat (first | (with_reducible first | exact HB.out | apply below_alloc | apply pw_below_drewN | apply below_drew1) | exact HB.out)⟩⟩
        · rw [if_neg c3] at H
          exact absurd H (by simp)
      · rw [if_neg c2] at H
        have c2b0 : decide (x4_1 < a0) = false := decide_eq_false c2
        clear c2
        obtain rfl := Option.some.inj H
        go_wp2
        go_ret
        exact ⟨_, by first | rfl | (simp [errW_none, errW_some] <;> rfl) | (simp [*, errW_none, errW_some] <;> rfl), by (with_reducible repeat (first | apply Kd.R_alloc | apply Kd.R_drewN | apply Kd.R_drew)); exact HO_3.out, by repeat (first | (with_reducible first | exact HB.out | apply below_alloc | apply pw_below_drewN | apply below_drew1) | exact HB.out)⟩

-- NOT PRINTED: function 15 (spec_BatchedValues)

end Go.Proofs.Ytbghkoalmjfpiaa.PBatchedValues
