-- PRINTED BY print.sh 35421559b90ae4d0a3588c463048766b98c2df88dd9212a6774a882060cdf62d: not written by this session
import Derived.Test.YtldkpgjpfhoekaaPOffsetsOfx0
namespace Go.Proofs.Ytldkpgjpfhoekaa.POffsetsOf
open Go.RowKit Go.Proofs.YtldkpgjpfhoekaaW.PrintWords Go.Proofs.YtldkpgjpfhoekaaW.PrintLast Go.Proofs.YtldkpgjpfhoekaaW.PrintMore
attribute [local go_sem] max2_int min2_int max_two min_two max_three min_three max_four min_four   -- for this text's walks alone
set_option linter.unusedVariables false
set_option linter.unusedSimpArgs false

/-! ### spec_OffsetsOf: function 7 -/
mutual
def spec_OffsetsOf.l0 : Nat → List Int → Int → List Int → Int → Option (List Int)
  | 0, _, _, _, _ => none
  | k + 1, x0, x1, x5, x6 => if (wrap64 (x6 + x1)) ≤ (x0.length : Int) then (spec_OffsetsOf.l1 k x0 x1 x5 x6 0 0) else (some x5)
def spec_OffsetsOf.l1 : Nat → List Int → Int → List Int → Int → Int → Int → Option (List Int)
  | 0, _, _, _, _, _, _ => none
  | k + 1, x0, x1, x5, x6, x7, x8 => if x8 < x1 then (if 0 ≤ (wrap64 (x6 + x8)) then (if (wrap64 (x6 + x8)) < (x0.length : Int) then (if 0 ≤ (wrap64 (8 * x8)) then (spec_OffsetsOf.l1 k x0 x1 x5 x6 (Go.bits .or .u64 x7 (shl .u64 (IntKind.u64.wrap (rd x0 (wrap64 (x6 + x8)))) (wrap64 (8 * x8)))) (wrap64 (x8 + 1))) else (none)) else (none)) else (none)) else (if 0 ≤ (wrap64 (64 - (wrap64 (8 * x1)))) then (if x5.length < 17592186044416 then (spec_OffsetsOf.l0 k x0 x1 (x5 ++ [shr .i64 (wrap64 (shl .u64 x7 (wrap64 (64 - (wrap64 (8 * x1)))))) (wrap64 (64 - (wrap64 (8 * x1))))]) (wrap64 (x6 + x1))) else (none)) else (none))
end
def spec_OffsetsOf.f (k : Nat) (l0 : List Int) (a1 : Int) : Option (List Int) := spec_OffsetsOf.l0 k l0 a1 ([] : List Int) 0
theorem spec_OffsetsOf.mono_l : ∀ k, (∀ y0 y1 y2 y3, LeO (spec_OffsetsOf.l0 k y0 y1 y2 y3) (spec_OffsetsOf.l0 (k + 1) y0 y1 y2 y3)) ∧ (∀ y0 y1 y2 y3 y4 y5, LeO (spec_OffsetsOf.l1 k y0 y1 y2 y3 y4 y5) (spec_OffsetsOf.l1 (k + 1) y0 y1 y2 y3 y4 y5))
  | 0 => ⟨fun _ _ _ _ r h => by simp [spec_OffsetsOf.l0] at h, fun _ _ _ _ _ _ r h => by simp [spec_OffsetsOf.l1] at h⟩
  | k + 1 => by
    obtain ⟨ih0, ih1⟩ := spec_OffsetsOf.mono_l k
    refine ⟨?_, ?_⟩
    · intro y0 y1 y2 y3
      unfold spec_OffsetsOf.l0
      repeat' first
      | (with_reducible exact ih0 _ _ _ _)
      | (with_reducible exact ih1 _ _ _ _ _ _)
      | (with_reducible exact LeO.refl _)
      | (with_reducible exact LeO.none _)
      | (with_reducible refine LeO.ite ?_ ?_)
      | (with_reducible refine LeO.bind ?_ (fun _ => ?_))
      | exact ih0 _ _ _ _
      | exact ih1 _ _ _ _ _ _
      | exact LeO.none _
      | refine LeO.ite ?_ ?_
      | refine LeO.bind ?_ (fun _ => ?_)
    · intro y0 y1 y2 y3 y4 y5
      unfold spec_OffsetsOf.l1
      repeat' first
      | (with_reducible exact ih0 _ _ _ _)
      | (with_reducible exact ih1 _ _ _ _ _ _)
      | (with_reducible exact LeO.refl _)
      | (with_reducible exact LeO.none _)
      | (with_reducible refine LeO.ite ?_ ?_)
      | (with_reducible refine LeO.bind ?_ (fun _ => ?_))
      | exact ih0 _ _ _ _
      | exact ih1 _ _ _ _ _ _
      | exact LeO.none _
      | refine LeO.ite ?_ ?_
      | refine LeO.bind ?_ (fun _ => ?_)
theorem spec_OffsetsOf.mono : ∀ a0 a1 k, LeO (spec_OffsetsOf.f k a0 a1) (spec_OffsetsOf.f (k + 1) a0 a1) := by
  intro a0 a1 k
  obtain ⟨ih0, ih1⟩ := spec_OffsetsOf.mono_l k
  unfold spec_OffsetsOf.f
  repeat' first
      | (with_reducible exact ih0 _ _ _ _)
      | (with_reducible exact ih1 _ _ _ _ _ _)
      | (with_reducible exact LeO.refl _)
      | (with_reducible exact LeO.none _)
      | (with_reducible refine LeO.ite ?_ ?_)
      | (with_reducible refine LeO.bind ?_ (fun _ => ?_))
      | exact ih0 _ _ _ _
      | exact ih1 _ _ _ _ _ _
      | exact LeO.none _
      | refine LeO.ite ?_ ?_
      | refine LeO.bind ?_ (fun _ => ?_)
set_option maxHeartbeats 8000000 in
set_option maxRecDepth 100000 in
theorem spec_OffsetsOf.calls (k : Nat) (A0 : Option Addr) (c0 : Nat) (l0 : List Int) (a1 : Int) (r : List Int) (w : World) (hr0 : Kd.C (Kd.int .u8) w A0 l0.length l0) (hc0 : l0.length ≤ c0) (h : spec_OffsetsOf.f k l0 a1 = some r) :
    Calls Try.prog 7 #[.slice A0 l0.length c0, .int .i64 a1] w fun e w' => ∃ v0_ : Value, e = .returned (v0_) ∧ Kd.R (Kd.int .i64) 2 w' w.heap.size (fun _ => True) v0_ r ∧ Below w.heap.size w w' := by
  have HR0 := Aside0.mk hr0
  have HC0 := Aside0.mk hc0
  clear hr0 hc0
  have HB := Aside0.mk (Below.refl w.heap.size w)
  have H : (spec_OffsetsOf.l0 k l0 a1 ([] : List Int) 0) = some r := h
  clear h
  have H' := Aside0.mk H
  clear H
  go_enter Try.func7, Try.ntmps7
  go_wp2
  go_loopg [5, 6] k (fun kq v5 v6 w' => ∃ (x5_1 : List Int) (x6_1 : Int), v6 = .int .i64 x6_1 ∧ Aside0 (spec_OffsetsOf.l0 kq l0 a1 x5_1 x6_1 = some r) ∧ Aside0 (kq ≤ k) ∧ Aside0 (Kd.R (Kd.int .i64) 2 w' w.heap.size (fun _ => True) v5 x5_1) ∧ Aside0 (Below w.heap.size w w'))
  case atStart => exact ⟨(([] : List Int)), (0), (by first | rfl | (simp; done) | (simp [*]; done)), H', ⟨Nat.le_refl _⟩, ⟨by first | exact Kd.R_nil _ _ _ _ _ | exact Kd.N_nil _ _ _ _ _ | exact Kd.V_nil _ _ _ _ _ | exact Kd.Q_nil _ _ _ _ _ | exact Kd.S_nil _ _ _ _ _⟩, ⟨by repeat (first | (with_reducible first | exact HB.out | apply below_alloc | apply pw_below_drewN | apply below_drew1) | exact HB.out)⟩⟩
  case round =>
    clear H'
    try clear p2
    obtain ⟨x5_1, x6_1, rfl, HA, HK1, HO_5, HB⟩ := hrel
    cases gk with
    | zero => exact absurd HA.out (by simp [spec_OffsetsOf.l0])
    | succ k1 =>
      have H := HA.out
      clear HA
      simp only [spec_OffsetsOf.l0] at H
      by_cases c3 : (wrap64 (x6_1 + a1)) ≤ (l0.length : Int)
      · rw [if_pos c3] at H
        have c3b0 : decide ((wrap64 (x6_1 + a1)) ≤ (l0.length : Int)) = true := decide_eq_true c3
        clear c3
        have H' := Aside0.mk H
        clear H
        go_wp2
        go_loopg [7, 8] k1 (fun kq v7 v8 w' => ∃ (x7_2 : Int) (x8_2 : Int), v7 = .int .u64 x7_2 ∧ v8 = .int .i64 x8_2 ∧ Aside0 (spec_OffsetsOf.l1 kq l0 a1 x5_1 x6_1 x7_2 x8_2 = some r) ∧ Aside0 (kq ≤ k1) ∧ Aside0 (Kd.R (Kd.int .i64) 2 w' w.heap.size (fun _ => True) u5 x5_1) ∧ Aside0 (Below w.heap.size w w'))
        case atStart => exact ⟨(0), (0), (by first | rfl | (simp; done) | (simp [*]; done)), (by first | rfl | (simp; done) | (simp [*]; done)), H', ⟨Nat.le_refl _⟩, ⟨by (with_reducible repeat (first | apply Kd.R_alloc | apply Kd.R_drewN | apply Kd.R_drew)); exact HO_5.out⟩, ⟨by repeat (first | (with_reducible first | exact HB.out | apply below_alloc | apply pw_below_drewN | apply below_drew1) | exact HB.out)⟩⟩
        case round =>
          clear H'
          try clear p2
          try clear c3
          try clear c3b0
          try clear p2
          obtain ⟨x7_2, x8_2, rfl, rfl, HA, HK2, HO_5, HB⟩ := hrel
          cases gk with
          | zero => exact absurd HA.out (by simp [spec_OffsetsOf.l1])
          | succ k2 =>
            have H := HA.out
            clear HA
            simp only [spec_OffsetsOf.l1] at H
            by_cases c4 : x8_2 < a1
            · rw [if_pos c4] at H
              have c4b0 : decide (x8_2 < a1) = true := decide_eq_true c4
              clear c4
              obtain ⟨ji5, hji5⟩ : ∃ j_ : Int, (wrap64 (x6_1 + x8_2)) = j_ := ⟨_, rfl⟩
              replace H : (if 0 ≤ (ji5) then (if (ji5) < (l0.length : Int) then (if 0 ≤ (wrap64 (8 * x8_2)) then (spec_OffsetsOf.l1 k2 l0 a1 x5_1 x6_1 (Go.bits .or .u64 x7_2 (shl .u64 (IntKind.u64.wrap (rd l0 (ji5))) (wrap64 (8 * x8_2)))) (wrap64 (x8_2 + 1))) else (none)) else (none)) else (none)) = some r := by first | (rw [hji5] at H; exact H) | (simp only [hji5] at H ⊢; exact H)
              have hji5w : (IntKind.i64.wrap (x6_1 + x8_2)) = ji5 := (i64_w _).trans hji5
              by_cases c6 : 0 ≤ (ji5)
              · rw [if_pos c6] at H
                have c6b0 : decide (0 ≤ (ji5)) = true := decide_eq_true c6
                clear c6
                by_cases c7 : (ji5) < (l0.length : Int)
                · rw [if_pos c7] at H
                  have c7b0 : decide ((ji5) < (l0.length : Int)) = true := decide_eq_true c7
                  clear c7
                  obtain ⟨ji8, hji8⟩ : ∃ j_ : Int, (wrap64 (8 * x8_2)) = j_ := ⟨_, rfl⟩
                  replace H : (if 0 ≤ (ji8) then (spec_OffsetsOf.l1 k2 l0 a1 x5_1 x6_1 (Go.bits .or .u64 x7_2 (shl .u64 (IntKind.u64.wrap (rd l0 (ji5))) (ji8))) (wrap64 (x8_2 + 1))) else (none)) = some r := by first | (rw [hji8] at H; exact H) | (simp only [hji8] at H ⊢; exact H)
                  have hji8w : (IntKind.i64.wrap (8 * x8_2)) = ji8 := (i64_w _).trans hji8
                  by_cases c9 : 0 ≤ (ji8)
                  · rw [if_pos c9] at H
                    have c9b0 := eq_true c9
                    have c9b1 : decide (0 ≤ (ji8)) = true := decide_eq_true c9
                    clear c9
                    obtain ⟨ji10, hji10⟩ : ∃ j_ : Int, (shl .u64 (IntKind.u64.wrap (rd l0 (ji5))) (ji8)) = j_ := ⟨_, rfl⟩
                    replace H : (spec_OffsetsOf.l1 k2 l0 a1 x5_1 x6_1 (Go.bits .or .u64 x7_2 (ji10)) (wrap64 (x8_2 + 1))) = some r := by first | (rw [hji10] at H; exact H) | (simp only [hji10] at H ⊢; exact H)
                    have hji10_ : (IntKind.u64.wrap ((IntKind.u64.wrap (rd l0 (ji5))) * 2 ^ min (ji8).toNat 64)) = ji10 := hji10
                    have hji10z : (ji8) ≤ 64 → (IntKind.u64.wrap ((IntKind.u64.wrap (rd l0 (ji5))) * 2 ^ (ji8).toNat)) = ji10 := shl_small hji10
                    have H' := Aside0.mk H
                    clear H
                    have p101 : 0 ≤ ((ji5) : Int) := of_decide_eq_true (by first | (with_reducible assumption) | assumption)
                    have q101 : (ji5) < (l0.length : Int) := of_decide_eq_true (by first | (with_reducible assumption) | assumption)
                    obtain ⟨ad101, e101, hx101_0⟩ := Kd.at_int HR0.out (ji5) p101 q101
                    cases e101
                    replace hx101_0 := (HB.out.cell (World.block_lt_of_cell? w _ hx101_0)).trans hx101_0
                    replace p101 := eq_true p101
                    replace q101 := eq_true q101
                    go_wp2
                    go_roundg k2
                    case measure => have := HK1.out; have := HK2.out; omega
                    case rel => exact ⟨(Go.bits .or .u64 x7_2 (ji10)), (wrap64 (x8_2 + 1)), (by first | rfl | (simp; done) | (simp only [← hji10] <;> (first | rfl | simp)) | (simp [*]; done)), (by first | rfl | (simp; done) | (simp [*]; done)), H', ⟨by have := HK1.out; have := HK2.out; omega⟩, ⟨by (with_reducible repeat (first | apply Kd.R_alloc | apply Kd.R_drewN | apply Kd.R_drew)); exact HO_5.out⟩, ⟨by repeat (first | (with_reducible first | exact HB.out | apply below_alloc | apply pw_below_drewN | apply below_drew1) | exact HB.out)⟩⟩
                  · rw [if_neg c9] at H
                    exact absurd H (by simp)
                · rw [if_neg c7] at H
                  exact absurd H (by simp)
              · rw [if_neg c6] at H
                exact absurd H (by simp)
            · rw [if_neg c4] at H
              have c4b0 : decide (x8_2 < a1) = false := decide_eq_false c4
              clear c4
              obtain ⟨ji11, hji11⟩ : ∃ j_ : Int, (wrap64 (64 - (wrap64 (8 * a1)))) = j_ := ⟨_, rfl⟩
              replace H : (if 0 ≤ (ji11) then (if x5_1.length < 17592186044416 then (spec_OffsetsOf.l0 k2 l0 a1 (x5_1 ++ [shr .i64 (wrap64 (shl .u64 x7_2 (ji11))) (ji11)]) (wrap64 (x6_1 + a1))) else (none)) else (none)) = some r := by first | (rw [hji11] at H; exact H) | (simp only [hji11] at H ⊢; exact H)
              have hji11w : (IntKind.i64.wrap (64 - (wrap64 (8 * a1)))) = ji11 := (i64_w _).trans hji11
              by_cases c12 : 0 ≤ (ji11)
              · rw [if_pos c12] at H
                have c12b0 := eq_true c12
                have c12b1 : decide (0 ≤ (ji11)) = true := decide_eq_true c12
                clear c12
                obtain ⟨ji13, hji13⟩ : ∃ j_ : Int, (shl .u64 x7_2 (ji11)) = j_ := ⟨_, rfl⟩
                replace H : (if x5_1.length < 17592186044416 then (spec_OffsetsOf.l0 k2 l0 a1 (x5_1 ++ [shr .i64 (wrap64 (ji13)) (ji11)]) (wrap64 (x6_1 + a1))) else (none)) = some r := by first | (rw [hji13] at H; exact H) | (simp only [hji13] at H ⊢; exact H)
                have hji13_ : (IntKind.u64.wrap (x7_2 * 2 ^ min (ji11).toNat 64)) = ji13 := hji13
                have hji13z : (ji11) ≤ 64 → (IntKind.u64.wrap (x7_2 * 2 ^ (ji11).toNat)) = ji13 := shl_small hji13
                have c14b0 := eq_true (of_decide_eq_true (by first | (with_reducible assumption) | assumption) : 0 ≤ (ji11))
                obtain ⟨ji15, hji15⟩ : ∃ j_ : Int, (shr .i64 (wrap64 (ji13)) (ji11)) = j_ := ⟨_, rfl⟩
                replace H : (if x5_1.length < 17592186044416 then (spec_OffsetsOf.l0 k2 l0 a1 (x5_1 ++ [ji15]) (wrap64 (x6_1 + a1))) else (none)) = some r := by first | (rw [hji15] at H; exact H) | (simp only [hji15] at H ⊢; exact H)
                have hji15_ : ((wrap64 (ji13)) / 2 ^ min (ji11).toNat 64) = ji15 := hji15
                have hji15z : (ji11) ≤ 64 → ((wrap64 (ji13)) / 2 ^ (ji11).toNat) = ji15 := shr_small hji15
                by_cases c16 : x5_1.length < 17592186044416
                · rw [if_pos c16] at H
                  have LMc16 := Aside0.mk c16
                  clear c16
                  obtain ⟨y102, hy102⟩ : ∃ y_ : List Int, y_ = (x5_1 ++ [ji15]) := ⟨_, rfl⟩
                  replace H : (spec_OffsetsOf.l0 k2 l0 a1 y102 (wrap64 (x6_1 + a1))) = some r := by first | (rw [hy102]; with_reducible exact H) | (have H2_ := (Option.bind_some _ _).symm.trans H; rw [hy102]; with_reducible exact H2_) | (have H2_ := (Option.bind_some _ _).symm.trans H; with_reducible exact H2_) | with_reducible exact H | (rw [hy102]; exact H) | exact H
                  have Ny102 := Aside0.mk hy102
                  clear hy102
                  have H' := Aside0.mk H
                  clear H
                  go_wp2_with (first | ((with_reducible refine gate_builtin (b := .append) (xs := #[.tmp 35, .tmp 46]) rfl ?_); at_builtin; refine Kd.R_append (Kd.int .i64) (w0 := w) w.heap.size rfl (.tmp 35) (.tmp 46) 30 2 (.int .i64 0) 8 rfl Try.underlying30 info2 rfl (by decide) (by omega) u5 x5_1 ji15 [.int .i64 ji15] (fun _ => True) (fun _ => False) rfl rfl ?aP (fun _ hk => hk.elim) ?aF ?aO ?aB ?aS ?aL ?_; (case aP => exact rfl); (case aB => exact (by repeat (first | (with_reducible first | exact HB.out | apply below_alloc | apply pw_below_drewN | apply below_drew1) | exact HB.out))); (case aF => exact (fun _ _ => trivial)); (case aO => exact (by (with_reducible repeat (first | apply Kd.R_alloc | apply Kd.R_drewN | apply Kd.R_drew)); exact HO_5.out)); (case aS => exact (below_size (by repeat (first | (with_reducible first | exact HB.out | apply below_alloc | apply pw_below_drewN | apply below_drew1) | exact HB.out)))); (case aL => have := LMc16.out; omega); intro v103 w17 ho hb hg hat; rw [← Ny102.out] at ho; have n0_ := Aside0.mk (hb); have n1_ := Aside0.mk (ho); clear HB; clear HO_5; have HB := n0_; have HO104 := n1_; clear n0_ n1_; clear ho hb hg hat))
                  go_roundg k2
                  case measure => have := HK1.out; have := HK2.out; omega
                  case rel => exact ⟨(y102), (wrap64 (x6_1 + a1)), (by first | rfl | (simp; done) | (simp [*]; done)), H', ⟨by have := HK1.out; have := HK2.out; omega⟩, ⟨by (with_reducible repeat (first | apply Kd.R_alloc | apply Kd.R_drewN | apply Kd.R_drew)); exact HO104.out⟩, ⟨by repeat (first | (with_reducible first | exact HB.out | apply below_alloc | apply pw_below_drewN | apply below_drew1) | exact HB.out)⟩⟩
                · rw [if_neg c16] at H
                  exact absurd H (by simp)
              · rw [if_neg c12] at H
                exact absurd H (by simp)
      · rw [if_neg c3] at H
        have c3b0 : decide ((wrap64 (x6_1 + a1)) ≤ (l0.length : Int)) = false := decide_eq_false c3
        clear c3
        obtain rfl := Option.some.inj H
        go_wp2
        go_ret
        exact ⟨_, by first | rfl | (simp [errW_none, errW_some] <;> rfl) | (simp [*, errW_none, errW_some] <;> rfl), by (with_reducible repeat (first | apply Kd.R_alloc | apply Kd.R_drewN | apply Kd.R_drew)); exact HO_5.out, by repeat (first | (with_reducible first | exact HB.out | apply below_alloc | apply pw_below_drewN | apply below_drew1) | exact HB.out)⟩

end Go.Proofs.Ytldkpgjpfhoekaa.POffsetsOf
