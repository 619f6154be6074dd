-- PRINTED BY print.sh 35421559b90ae4d0a3588c463048766b98c2df88dd9212a6774a882060cdf62d: not written by this session
import Derived.Test.YtldkpgjpfhoekaaPBytesOfx0
namespace Go.Proofs.Ytldkpgjpfhoekaa.PBytesOf
open Go.RowKit Go.Proofs.YtldkpgjpfhoekaaW.PrintWords Go.Proofs.YtldkpgjpfhoekaaW.PrintLast Go.Proofs.YtldkpgjpfhoekaaW.PrintMore
attribute [local go_sem] max2_int min2_int max_two min_two max_three min_three max_four min_four   -- for this text's walks alone
set_option linter.unusedVariables false
set_option linter.unusedSimpArgs false

/-! ### spec_BytesOf: function 8 -/
mutual
def spec_BytesOf.l0 : Nat → Int → List Int → List Int → Int → Int → Option (List Int)
  | 0, _, _, _, _, _ => none
  | k + 1, x1, x5, x9, x10, x11 => if x11 < x10 then (if 0 ≤ x11 then (if x11 < (x9.length : Int) then (spec_BytesOf.l1 k x1 x5 (rd x9 x11) 0 x9 x10 x11) else (none)) else (none)) else (some x5)
def spec_BytesOf.l1 : Nat → Int → List Int → Int → Int → List Int → Int → Int → Option (List Int)
  | 0, _, _, _, _, _, _, _ => none
  | k + 1, x1, x5, x7, x8, x9, x10, x11 => if x8 < x1 then (if 0 ≤ (wrap64 (8 * x8)) then (if x5.length < 140737488355328 then (spec_BytesOf.l1 k x1 (x5 ++ [(shr .u64 (IntKind.u64.wrap (x7)) (wrap64 (8 * x8))) % 256]) x7 (wrap64 (x8 + 1)) x9 x10 x11) else (none)) else (none)) else (spec_BytesOf.l0 k x1 x5 x9 x10 (wrap64 (x11 + 1)))
end
def spec_BytesOf.f (k : Nat) (l0 : List Int) (a1 : Int) : Option (List Int) := spec_BytesOf.l0 k a1 ([] : List Int) l0 (l0.length : Int) 0
theorem spec_BytesOf.mono_l : ∀ k, (∀ y0 y1 y2 y3 y4, LeO (spec_BytesOf.l0 k y0 y1 y2 y3 y4) (spec_BytesOf.l0 (k + 1) y0 y1 y2 y3 y4)) ∧ (∀ y0 y1 y2 y3 y4 y5 y6, LeO (spec_BytesOf.l1 k y0 y1 y2 y3 y4 y5 y6) (spec_BytesOf.l1 (k + 1) y0 y1 y2 y3 y4 y5 y6))
  | 0 => ⟨fun _ _ _ _ _ r h => by simp [spec_BytesOf.l0] at h, fun _ _ _ _ _ _ _ r h => by simp [spec_BytesOf.l1] at h⟩
  | k + 1 => by
    obtain ⟨ih0, ih1⟩ := spec_BytesOf.mono_l k
    refine ⟨?_, ?_⟩
    · intro y0 y1 y2 y3 y4
      unfold spec_BytesOf.l0
      repeat' first
      | (with_reducible exact ih0 _ _ _ _ _)
      | (with_reducible exact ih1 _ _ _ _ _ _ _)
      | (with_reducible exact LeO.refl _)
      | (with_reducible exact LeO.none _)
      | (with_reducible refine LeO.ite ?_ ?_)
      | (with_reducible refine LeO.bind ?_ (fun _ => ?_))
      | exact ih0 _ _ _ _ _
      | exact ih1 _ _ _ _ _ _ _
      | exact LeO.none _
      | refine LeO.ite ?_ ?_
      | refine LeO.bind ?_ (fun _ => ?_)
    · intro y0 y1 y2 y3 y4 y5 y6
      unfold spec_BytesOf.l1
      repeat' first
      | (with_reducible exact ih0 _ _ _ _ _)
      | (with_reducible exact ih1 _ _ _ _ _ _ _)
      | (with_reducible exact LeO.refl _)
      | (with_reducible exact LeO.none _)
      | (with_reducible refine LeO.ite ?_ ?_)
      | (with_reducible refine LeO.bind ?_ (fun _ => ?_))
      | exact ih0 _ _ _ _ _
      | exact ih1 _ _ _ _ _ _ _
      | exact LeO.none _
      | refine LeO.ite ?_ ?_
      | refine LeO.bind ?_ (fun _ => ?_)
theorem spec_BytesOf.mono : ∀ a0 a1 k, LeO (spec_BytesOf.f k a0 a1) (spec_BytesOf.f (k + 1) a0 a1) := by
  intro a0 a1 k
  obtain ⟨ih0, ih1⟩ := spec_BytesOf.mono_l k
  unfold spec_BytesOf.f
  repeat' first
      | (with_reducible exact ih0 _ _ _ _ _)
      | (with_reducible exact ih1 _ _ _ _ _ _ _)
      | (with_reducible exact LeO.refl _)
      | (with_reducible exact LeO.none _)
      | (with_reducible refine LeO.ite ?_ ?_)
      | (with_reducible refine LeO.bind ?_ (fun _ => ?_))
      | exact ih0 _ _ _ _ _
      | exact ih1 _ _ _ _ _ _ _
      | exact LeO.none _
      | refine LeO.ite ?_ ?_
      | refine LeO.bind ?_ (fun _ => ?_)
set_option maxHeartbeats 8000000 in
set_option maxRecDepth 100000 in
theorem spec_BytesOf.calls (k : Nat) (A0 : Option Addr) (c0 : Nat) (l0 : List Int) (a1 : Int) (r : List Int) (w : World) (hr0 : Kd.C (Kd.int .i64) w A0 l0.length l0) (hc0 : l0.length ≤ c0) (h : spec_BytesOf.f k l0 a1 = some r) :
    Calls Try.prog 8 #[.slice A0 l0.length c0, .int .i64 a1] w fun e w' => ∃ v0_ : Value, e = .returned (v0_) ∧ Kd.R (Kd.int .u8) 5 w' w.heap.size (fun _ => True) v0_ r ∧ Below w.heap.size w w' := by
  have HR0 := Aside0.mk hr0
  have HC0 := Aside0.mk hc0
  clear hr0 hc0
  have HB := Aside0.mk (Below.refl w.heap.size w)
  have H : (spec_BytesOf.l0 k a1 ([] : List Int) l0 (l0.length : Int) 0) = some r := h
  clear h
  have H' := Aside0.mk H
  clear H
  go_enter Try.func8, Try.ntmps8
  go_wp2
  go_loopg [5, 11] k (fun kq v5 v11 w' => ∃ (x5_1 : List Int) (x11_1 : Int), v11 = .int .i64 x11_1 ∧ Aside0 (spec_BytesOf.l0 kq a1 x5_1 l0 (l0.length : Int) x11_1 = some r) ∧ Aside0 (kq ≤ k) ∧ Aside0 (Kd.R (Kd.int .u8) 5 w' w.heap.size (fun _ => True) v5 x5_1) ∧ Aside0 (Below w.heap.size w w'))
  case atStart => exact ⟨(([] : List Int)), (0), (by first | rfl | (simp; done) | (simp [*]; done)), H', ⟨Nat.le_refl _⟩, ⟨by first | exact Kd.R_nil _ _ _ _ _ | exact Kd.N_nil _ _ _ _ _ | exact Kd.V_nil _ _ _ _ _ | exact Kd.Q_nil _ _ _ _ _ | exact Kd.S_nil _ _ _ _ _⟩, ⟨by repeat (first | (with_reducible first | exact HB.out | apply below_alloc | apply pw_below_drewN | apply below_drew1) | exact HB.out)⟩⟩
  case round =>
    clear H'
    try clear p2
    obtain ⟨x5_1, x11_1, rfl, HA, HK1, HO_5, HB⟩ := hrel
    cases gk with
    | zero => exact absurd HA.out (by simp [spec_BytesOf.l0])
    | succ k1 =>
      have H := HA.out
      clear HA
      simp only [spec_BytesOf.l0] at H
      by_cases c3 : x11_1 < (l0.length : Int)
      · rw [if_pos c3] at H
        have c3b0 : decide (x11_1 < (l0.length : Int)) = true := decide_eq_true c3
        clear c3
        by_cases c4 : 0 ≤ x11_1
        · rw [if_pos c4] at H
          have c4b0 : decide (0 ≤ x11_1) = true := decide_eq_true c4
          clear c4
          by_cases c5 : x11_1 < (l0.length : Int)
          · rw [if_pos c5] at H
            have c5b0 : decide (x11_1 < (l0.length : Int)) = true := decide_eq_true c5
            clear c5
            have H' := Aside0.mk H
            clear H
            have p101 : 0 ≤ (x11_1 : Int) := of_decide_eq_true (by first | (with_reducible assumption) | assumption)
            have q101 : x11_1 < (l0.length : Int) := of_decide_eq_true (by first | (with_reducible assumption) | assumption)
            obtain ⟨ad101, e101, hx101_0⟩ := Kd.at_int HR0.out x11_1 p101 q101
            cases e101
            replace hx101_0 := (HB.out.cell (World.block_lt_of_cell? w _ hx101_0)).trans hx101_0
            replace p101 := eq_true p101
            replace q101 := eq_true q101
            go_wp2
            go_loopg [5, 8] k1 (fun kq v5 v8 w' => ∃ (x5_2 : List Int) (x8_2 : Int), v8 = .int .i64 x8_2 ∧ Aside0 (spec_BytesOf.l1 kq a1 x5_2 (rd l0 x11_1) x8_2 l0 (l0.length : Int) x11_1 = some r) ∧ Aside0 (kq ≤ k1) ∧ Aside0 (Kd.R (Kd.int .u8) 5 w' w.heap.size (fun _ => True) v5 x5_2) ∧ Aside0 (Below w.heap.size w w'))
            case atStart => exact ⟨(x5_1), (0), (by first | rfl | (simp; done) | (simp [*]; done)), H', ⟨Nat.le_refl _⟩, ⟨by (with_reducible repeat (first | apply Kd.R_alloc | apply Kd.R_drewN | apply Kd.R_drew)); exact HO_5.out⟩, ⟨by repeat (first | (with_reducible first | exact HB.out | apply below_alloc | apply pw_below_drewN | apply below_drew1) | exact HB.out)⟩⟩
            case round =>
              clear H'
              try clear p1
              try clear q1
              try clear hx1
              try clear p2
              try clear c3
              try clear c3b0
              try clear c4
              try clear c4b0
              try clear c5
              try clear c5b0
              try clear hx101_0
              try clear p101
              try clear p2
              try clear q101
              obtain ⟨x5_2, x8_2, rfl, HA, HK2, HO_5, HB⟩ := hrel
              cases gk with
              | zero => exact absurd HA.out (by simp [spec_BytesOf.l1])
              | succ k2 =>
                have H := HA.out
                clear HA
                simp only [spec_BytesOf.l1] at H
                by_cases c6 : x8_2 < a1
                · rw [if_pos c6] at H
                  have c6b0 : decide (x8_2 < a1) = true := decide_eq_true c6
                  clear c6
                  obtain ⟨ji7, hji7⟩ : ∃ j_ : Int, (wrap64 (8 * x8_2)) = j_ := ⟨_, rfl⟩
                  replace H : (if 0 ≤ (ji7) then (if x5_2.length < 140737488355328 then (spec_BytesOf.l1 k2 a1 (x5_2 ++ [(shr .u64 (IntKind.u64.wrap ((rd l0 x11_1))) (ji7)) % 256]) (rd l0 x11_1) (wrap64 (x8_2 + 1)) l0 (l0.length : Int) x11_1) else (none)) else (none)) = some r := by first | (rw [hji7] at H; exact H) | (simp only [hji7] at H ⊢; exact H)
                  have hji7w : (IntKind.i64.wrap (8 * x8_2)) = ji7 := (i64_w _).trans hji7
                  by_cases c8 : 0 ≤ (ji7)
                  · rw [if_pos c8] at H
                    have c8b0 := eq_true c8
                    have c8b1 : decide (0 ≤ (ji7)) = true := decide_eq_true c8
                    clear c8
                    obtain ⟨ji9, hji9⟩ : ∃ j_ : Int, (shr .u64 (IntKind.u64.wrap ((rd l0 x11_1))) (ji7)) = j_ := ⟨_, rfl⟩
                    replace H : (if x5_2.length < 140737488355328 then (spec_BytesOf.l1 k2 a1 (x5_2 ++ [(ji9) % 256]) (rd l0 x11_1) (wrap64 (x8_2 + 1)) l0 (l0.length : Int) x11_1) else (none)) = some r := by first | (rw [hji9] at H; exact H) | (simp only [hji9] at H ⊢; exact H)
                    have hji9_ : ((IntKind.u64.wrap ((rd l0 x11_1))) / 2 ^ min (ji7).toNat 64) = ji9 := hji9
                    have hji9z : (ji7) ≤ 64 → ((IntKind.u64.wrap ((rd l0 x11_1))) / 2 ^ (ji7).toNat) = ji9 := shr_small hji9
                    by_cases c10 : x5_2.length < 140737488355328
                    · rw [if_pos c10] at H
                      have LMc10 := Aside0.mk c10
                      clear c10
                      obtain ⟨y102, hy102⟩ : ∃ y_ : List Int, y_ = (x5_2 ++ [(ji9) % 256]) := ⟨_, rfl⟩
                      replace H : (spec_BytesOf.l1 k2 a1 y102 (rd l0 x11_1) (wrap64 (x8_2 + 1)) l0 (l0.length : Int) x11_1) = some r := by first | (rw [hy102]; with_reducible exact H) | (have H2_ := (Option.bind_some _ _).symm.trans H; rw [hy102]; with_reducible exact H2_) | (have H2_ := (Option.bind_some _ _).symm.trans H; with_reducible exact H2_) | with_reducible exact H | (rw [hy102]; exact H) | exact H
                      have Ny102 := Aside0.mk hy102
                      clear hy102
                      have H' := Aside0.mk H
                      clear H
                      go_wp2_with (first | ((with_reducible refine gate_builtin (b := .append) (xs := #[.tmp 20, .tmp 27]) rfl ?_); at_builtin; refine Kd.R_append (Kd.int .u8) (w0 := w) w.heap.size rfl (.tmp 20) (.tmp 27) 24 5 (.int .u8 0) 1 rfl Try.underlying24 info5 rfl (by decide) (by omega) u5 x5_2 ((ji9) % 256) [.int .u8 ((ji9) % 256)] (fun _ => True) (fun _ => False) rfl rfl ?aP (fun _ hk => hk.elim) ?aF ?aO ?aB ?aS ?aL ?_; (case aP => exact rfl); (case aB => exact (by repeat (first | (with_reducible first | exact HB.out | apply below_alloc | apply pw_below_drewN | apply below_drew1) | exact HB.out))); (case aF => exact (fun _ _ => trivial)); (case aO => exact (by (with_reducible repeat (first | apply Kd.R_alloc | apply Kd.R_drewN | apply Kd.R_drew)); exact HO_5.out)); (case aS => exact (below_size (by repeat (first | (with_reducible first | exact HB.out | apply below_alloc | apply pw_below_drewN | apply below_drew1) | exact HB.out)))); (case aL => have := LMc10.out; omega); intro v103 w11 ho hb hg hat; rw [← Ny102.out] at ho; have n0_ := Aside0.mk (hb); have n1_ := Aside0.mk (ho); clear HB; clear HO_5; have HB := n0_; have HO104 := n1_; clear n0_ n1_; clear ho hb hg hat))
                      go_roundg k2
                      case measure => have := HK1.out; have := HK2.out; omega
                      case rel => exact ⟨(y102), (wrap64 (x8_2 + 1)), (by first | rfl | (simp; done) | (simp [*]; done)), H', ⟨by have := HK1.out; have := HK2.out; omega⟩, ⟨by (with_reducible repeat (first | apply Kd.R_alloc | apply Kd.R_drewN | apply Kd.R_drew)); exact HO104.out⟩, ⟨by repeat (first | (with_reducible first | exact HB.out | apply below_alloc | apply pw_below_drewN | apply below_drew1) | exact HB.out)⟩⟩
                    · rw [if_neg c10] at H
                      exact absurd H (by simp)
                  · rw [if_neg c8] at H
                    exact absurd H (by simp)
                · rw [if_neg c6] at H
                  have c6b0 : decide (x8_2 < a1) = false := decide_eq_false c6
                  clear c6
                  have H' := Aside0.mk H
                  clear H
                  go_wp2
                  go_roundg k2
                  case measure => have := HK1.out; have := HK2.out; omega
                  case rel => exact ⟨(x5_2), (wrap64 (x11_1 + 1)), (by first | rfl | (simp; done) | (simp [*]; done)), H', ⟨by have := HK1.out; have := HK2.out; omega⟩, ⟨by (with_reducible repeat (first | apply Kd.R_alloc | apply Kd.R_drewN | apply Kd.R_drew)); exact HO_5.out⟩, ⟨by repeat (first | (with_reducible first | exact HB.out | apply below_alloc | apply pw_below_drewN | apply below_drew1) | exact HB.out)⟩⟩
          · rw [if_neg c5] at H
            exact absurd H (by simp)
        · rw [if_neg c4] at H
          exact absurd H (by simp)
      · rw [if_neg c3] at H
        have c3b0 : decide (x11_1 < (l0.length : Int)) = false := decide_eq_false c3
        clear c3
        obtain rfl := Option.some.inj H
        go_wp2
        go_ret
        exact ⟨_, by first | rfl | (simp [errW_none, errW_some] <;> rfl) | (simp [*, errW_none, errW_some] <;> rfl), by (with_reducible repeat (first | apply Kd.R_alloc | apply Kd.R_drewN | apply Kd.R_drew)); exact HO_5.out, by repeat (first | (with_reducible first | exact HB.out | apply below_alloc | apply pw_below_drewN | apply below_drew1) | exact HB.out)⟩

end Go.Proofs.Ytldkpgjpfhoekaa.PBytesOf
