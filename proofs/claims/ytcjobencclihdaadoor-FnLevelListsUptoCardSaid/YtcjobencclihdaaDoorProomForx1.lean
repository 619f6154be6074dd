-- PRINTED BY print.sh 35421559b90ae4d0a3588c463048766b98c2df88dd9212a6774a882060cdf62d: not written by this session
import Derived.Test.YtcjobencclihdaaDoorProomForx0
namespace Go.Proofs.YtcjobencclihdaaDoor.ProomFor
open Go.RowKit Go.Proofs.YtcjobencclihdaaDoorW.PrintWords Go.Proofs.YtcjobencclihdaaDoorW.PrintLast Go.Proofs.YtcjobencclihdaaDoorW.PrintMore
attribute [local go_sem] max2_int min2_int max_two min_two max_three min_three max_four min_four   -- for this text's walks alone
set_option linter.unusedVariables false
set_option linter.unusedSimpArgs false

/-! ### laws_roomFor: function 8 -/
def laws_roomFor.l0 : Nat → Int → Int → List Int → Int → Int → Option (Int × Bool × List Int × Int)
  | 0, _, _, _, _, _ => none
  | k + 1, x0, x1, x5, x14, x15 => if x15 < x14 then (if 0 ≤ (wrap64 (Int.tdiv x15 8)) then (if (wrap64 (Int.tdiv x15 8)) < (x5.length : Int) then (if 0 ≤ (Int.tmod x15 8) then (laws_roomFor.l0 k x0 x1 (x5.set ((wrap64 (Int.tdiv x15 8)) : Int).toNat (Go.bits .or .u8 (rd x5 (wrap64 (Int.tdiv x15 8))) (shl .u8 1 (Int.tmod x15 8)))) x14 (wrap64 (x15 + 1))) else (none)) else (none)) else (none)) else (some (x0, true, x5, x1))
def laws_roomFor.f (k : Nat) (a0 : Int) (a1 : Int) : Option (Int × Bool × List Int × Int) := if 0 ≤ (wrap64 ((wrap64 (Int.tdiv (wrap64 ((wrap64 (a1 + a0)) + 7)) 8)) + 1)) then (if (wrap64 ((wrap64 (Int.tdiv (wrap64 ((wrap64 (a1 + a0)) + 7)) 8)) + 1) : Int).toNat ≤ 281474976710656 then (laws_roomFor.l0 k a0 a1 (List.replicate (wrap64 ((wrap64 (Int.tdiv (wrap64 ((wrap64 (a1 + a0)) + 7)) 8)) + 1) : Int).toNat 0) a1 0) else (none)) else (none)
theorem laws_roomFor.mono_l : ∀ k, (∀ y0 y1 y2 y3 y4, LeO (laws_roomFor.l0 k y0 y1 y2 y3 y4) (laws_roomFor.l0 (k + 1) y0 y1 y2 y3 y4))
  | 0 => fun _ _ _ _ _ r h => by simp [laws_roomFor.l0] at h
  | k + 1 => by
    have ih0 := laws_roomFor.mono_l k
    · intro y0 y1 y2 y3 y4
      unfold laws_roomFor.l0
      repeat' first
      | (with_reducible exact ih0 _ _ _ _ _)
      | (with_reducible exact LeO.refl _)
      | (with_reducible exact LeO.none _)
      | (with_reducible refine LeO.ite ?_ ?_)
      | (with_reducible refine LeO.bind ?_ (fun _ => ?_))
      | exact ih0 _ _ _ _ _
      | exact LeO.none _
      | refine LeO.ite ?_ ?_
      | refine LeO.bind ?_ (fun _ => ?_)
theorem laws_roomFor.mono : ∀ a0 a1 k, LeO (laws_roomFor.f k a0 a1) (laws_roomFor.f (k + 1) a0 a1) := by
  intro a0 a1 k
  have ih0 := laws_roomFor.mono_l k
  unfold laws_roomFor.f
  repeat' first
      | (with_reducible exact ih0 _ _ _ _ _)
      | (with_reducible exact LeO.refl _)
      | (with_reducible exact LeO.none _)
      | (with_reducible refine LeO.ite ?_ ?_)
      | (with_reducible refine LeO.bind ?_ (fun _ => ?_))
      | exact ih0 _ _ _ _ _
      | exact LeO.none _
      | refine LeO.ite ?_ ?_
      | refine LeO.bind ?_ (fun _ => ?_)
def laws_roomFor.T5 : Bool × List (List Nat × List Nat) := (true, [([], []), ([], []), ([1], [1]), ([0, 2], [0, 2]), ([3], [3]), ([], []), ([5], [5]), ([6], [6]), ([4, 7], [4, 7]), ([0, 2, 0, 1, 2, 3, 4, 5, 6, 7, 8], [0, 2]), ([9, 8, 0, 1, 2, 3, 4, 5, 6, 7, 8], [8, 9])])
def laws_roomFor.B5 : List Nat := [0, 0, 2, 7, 15, 0, 32, 96, 255, 511, 1023]
theorem laws_roomFor.tab5 : rtab .any (opsOf Tryd.f8 5) = laws_roomFor.T5 := by kernel_rfl
theorem laws_roomFor.bits5 : waitsOk laws_roomFor.T5.2 laws_roomFor.B5 = true := by kernel_rfl
set_option maxHeartbeats 8000000 in
set_option maxRecDepth 100000 in
theorem laws_roomFor.calls (k : Nat) (a0 : Int) (a1 : Int) (r1 : Int) (r2 : Bool) (r3 : List Int) (r4 : Int) (w : World) (h : laws_roomFor.f k a0 a1 = some (r1, r2, r3, r4)) :
    Calls Tryd.prog 8 #[.int .i64 a0, .int .i64 a1] w fun e w' => ∃ v2_ : Value, e = .returned (.agg #[.int .i64 r1, .bool r2, v2_, .int .i64 r4]) ∧ Kd.R (Kd.int .u8) 5 w' w.heap.size (fun _ => True) v2_ r3 ∧ Below w.heap.size w w' := by
  have hu37 := Tryd.underlying37
  have HB := Aside0.mk (Below.refl w.heap.size w)
  have H : (if 0 ≤ (wrap64 ((wrap64 (Int.tdiv (wrap64 ((wrap64 (a1 + a0)) + 7)) 8)) + 1)) then (if (wrap64 ((wrap64 (Int.tdiv (wrap64 ((wrap64 (a1 + a0)) + 7)) 8)) + 1) : Int).toNat ≤ 281474976710656 then (laws_roomFor.l0 k a0 a1 (List.replicate (wrap64 ((wrap64 (Int.tdiv (wrap64 ((wrap64 (a1 + a0)) + 7)) 8)) + 1) : Int).toNat 0) a1 0) else (none)) else (none)) = some (r1, r2, r3, r4) := h
  clear h
  obtain ⟨ji3, hji3⟩ : ∃ j_ : Int, (wrap64 ((wrap64 (Int.tdiv (wrap64 ((wrap64 (a1 + a0)) + 7)) 8)) + 1)) = j_ := ⟨_, rfl⟩
  replace H : (if 0 ≤ (ji3) then (if (ji3 : Int).toNat ≤ 281474976710656 then (laws_roomFor.l0 k a0 a1 (List.replicate (ji3 : Int).toNat 0) a1 0) else (none)) else (none)) = some (r1, r2, r3, r4) := by first | (rw [hji3] at H; exact H) | (simp only [hji3] at H ⊢; exact H)
  have hji3w : (IntKind.i64.wrap ((wrap64 (Int.tdiv (wrap64 ((wrap64 (a1 + a0)) + 7)) 8)) + 1)) = ji3 := (i64_w _).trans hji3
  by_cases c4 : 0 ≤ (ji3)
  · rw [if_pos c4] at H
    have c4b0 := eq_true c4
    have c4b1 : decide (0 ≤ (ji3)) = true := decide_eq_true c4
    clear c4
    by_cases c5 : (ji3 : Int).toNat ≤ 281474976710656
    · rw [if_pos c5] at H
      have c5b0 := eq_true c5
      have c5b1 : decide ((ji3 : Int).toNat ≤ 281474976710656) = true := decide_eq_true c5
      clear c5
      obtain ⟨y102, hy102⟩ : ∃ y_ : List Int, y_ = (List.replicate (ji3 : Int).toNat 0) := ⟨_, rfl⟩
      replace H : (laws_roomFor.l0 k a0 a1 y102 a1 0) = some (r1, r2, r3, r4) := by first | (rw [hy102]; with_reducible exact H) | (have H2_ := (Option.bind_some _ _).symm.trans H; rw [hy102]; with_reducible exact H2_) | (have H2_ := (Option.bind_some _ _).symm.trans H; with_reducible exact H2_) | with_reducible exact H | (rw [hy102]; exact H) | exact H
      have Ny102 := Aside0.mk hy102
      clear hy102
      have H' := Aside0.mk H
      clear H
      go_enter Tryd.func8, Tryd.ntmps8
      go_wp2_with (first | ((with_reducible refine gate_dst (N := 4) rfl ?_); refine box_event ?hg (N := 4) ?hd (cs := #[.int .i64 0, .bool false, .slice none 0 0, .int .i64 0]) (t := 37) ?hr ?_; (case hd => rfl); (case hg => rfl); (case hr => first | (go_simp; done) | (go_simp; rfl)); intro gb101 hg w6 hbox hb; have n0_ := Aside0.mk (below_step (by repeat (first | (with_reducible first | exact HB.out | apply below_alloc | apply pw_below_drewN | apply below_drew1) | exact HB.out)) hb); have n1_ := Aside0.mk (hbox); have n2_ := Aside0.mk ((by rw [hg]; exact (below_size (by repeat (first | (with_reducible first | exact HB.out | apply below_alloc | apply pw_below_drewN | apply below_drew1) | exact HB.out))) : w.heap.size ≤ gb101)); have n3_ := Aside0.mk ((by rw [hg]; exact (below_size (by repeat (first | (with_reducible first | exact HB.out | apply below_alloc | apply pw_below_drewN | apply below_drew1) | exact HB.out))) : w.heap.size ≤ gb101)); clear HB; have HB := n0_; have BK101 := n1_; have GW101 := n2_; have GE101 := n3_; clear n0_ n1_ n2_ n3_; clear hb hbox hg) | ((with_reducible refine gate_dst (N := 13) rfl ?_); refine Kd.R_make (Kd.int .u8) _ 5 rfl (N := 13) rfl 30 _ _ rfl ji3 rfl rfl Tryd.underlying30 (.int .u8 0) 1 info5 rfl (by decide) (by omega) 0 (ok := fun _ => True) (okp := fun _ => True) rfl (fun _ hk => hk) trivial (of_decide_eq_true (by first | (with_reducible assumption) | assumption)) (Nat.le_trans (Nat.mul_le_mul_right _ (of_decide_eq_true (by first | (with_reducible assumption) | assumption) : ji3.toNat ≤ 281474976710656)) (by omega)) (Below.refl _ _) (Nat.le_refl _) ?_; intro v103 w7 ho8 hb hg_ hnew_; clear hg_ hnew_; (first | rw [← Ny102.out] at ho8 | (simp only [Int.reduceToNat] at ho8; rw [← Ny102.out] at ho8)); have n0_ := Aside0.mk (Kd.R_lower ho8 (below_size (by repeat (first | (with_reducible first | exact HB.out | apply below_alloc | apply pw_below_drewN | apply below_drew1 | refine below_set ?_ GE101.out) | exact HB.out)))); have n1_ := Aside0.mk (blk_below (g := gb101) (o := .cells #[.int .i64 0, .bool false, .slice none 0 0, .int .i64 0] 37 (0, 0)) (by (with_reducible repeat (first | refine blk_drewN ?_ _ | refine blk_drew ?_ | refine blk_alloc ?_ _)); exact BK101.out) hb); have n2_ := Aside0.mk (below_step (by repeat (first | (with_reducible first | exact HB.out | apply below_alloc | apply pw_below_drewN | apply below_drew1 | refine below_set ?_ GE101.out) | exact HB.out)) hb); clear BK101; clear HB; have HO104 := n0_; have BK101 := n1_; have HB := n2_; clear n0_ n1_ n2_; clear hb ho8))
      go_loopg [15] k (fun kq v15 w' => ∃ (x5_1 : List Int) (x15_1 : Int), v15 = .int .i64 x15_1 ∧ Aside0 (laws_roomFor.l0 kq a0 a1 x5_1 a1 x15_1 = some (r1, r2, r3, r4)) ∧ Aside0 (kq ≤ k) ∧ Aside0 (Kd.R (Kd.int .u8) 5 w' w.heap.size (fun _ => True) v103 x5_1) ∧ Aside0 (w'.heap[gb101]? = some (.cells #[.int .i64 0, .bool false, (.slice none 0 0), .int .i64 0] 37 (0, 0))) ∧ Aside0 (Below w.heap.size w w'))
      case atStart => exact ⟨(y102), (0), (by first | rfl | (simp; done) | (simp [*]; done)), H', ⟨Nat.le_refl _⟩, ⟨by (with_reducible repeat (first | apply Kd.R_alloc | apply Kd.R_drewN | apply Kd.R_drew)); exact HO104.out⟩, ⟨by (with_reducible repeat (first | refine blk_drewN ?_ _ | refine blk_drew ?_ | refine blk_alloc ?_ _)); exact BK101.out⟩, ⟨by repeat (first | (with_reducible first | exact HB.out | apply below_alloc | apply pw_below_drewN | apply below_drew1 | refine below_set ?_ GE101.out) | exact HB.out)⟩⟩
      case round =>
        clear H'
        try clear p2
        try clear c4
        try clear c4b0
        try clear c4b1
        try clear c5
        try clear c5b0
        try clear c5b1
        try clear p6
        try clear c8
        obtain ⟨x5_1, x15_1, rfl, HA, HK1, HO_5, BK101, HB⟩ := hrel
        cases gk with
        | zero => exact absurd HA.out (by simp [laws_roomFor.l0])
        | succ k1 =>
          have H := HA.out
          clear HA
          simp only [laws_roomFor.l0] at H
          by_cases c9 : x15_1 < a1
          · rw [if_pos c9] at H
            have c9b0 : decide (x15_1 < a1) = true := decide_eq_true c9
            clear c9
            obtain ⟨ji10, hji10⟩ : ∃ j_ : Int, (wrap64 (Int.tdiv x15_1 8)) = j_ := ⟨_, rfl⟩
            replace H : (if 0 ≤ (ji10) then (if (ji10) < (x5_1.length : Int) then (if 0 ≤ (Int.tmod x15_1 8) then (laws_roomFor.l0 k1 a0 a1 (x5_1.set ((ji10) : Int).toNat (Go.bits .or .u8 (rd x5_1 (ji10)) (shl .u8 1 (Int.tmod x15_1 8)))) a1 (wrap64 (x15_1 + 1))) else (none)) else (none)) else (none)) = some (r1, r2, r3, r4) := by first | (rw [hji10] at H; exact H) | (simp only [hji10] at H ⊢; exact H)
            have hji10w : (IntKind.i64.wrap (Int.tdiv x15_1 8)) = ji10 := (i64_w _).trans hji10
            by_cases c11 : 0 ≤ (ji10)
            · rw [if_pos c11] at H
              have c11b0 : decide (0 ≤ (ji10)) = true := decide_eq_true c11
              clear c11
              by_cases c12 : (ji10) < (x5_1.length : Int)
              · rw [if_pos c12] at H
                have c12b0 : decide ((ji10) < (x5_1.length : Int)) = true := decide_eq_true c12
                clear c12
                obtain ⟨ji13, hji13⟩ : ∃ j_ : Int, (Int.tmod x15_1 8) = j_ := ⟨_, rfl⟩
                replace H : (if 0 ≤ (ji13) then (laws_roomFor.l0 k1 a0 a1 (x5_1.set ((ji10) : Int).toNat (Go.bits .or .u8 (rd x5_1 (ji10)) (shl .u8 1 (ji13)))) a1 (wrap64 (x15_1 + 1))) else (none)) = some (r1, r2, r3, r4) := by first | (rw [hji13] at H; exact H) | (simp only [hji13] at H ⊢; exact H)
                by_cases c14 : 0 ≤ (ji13)
                · rw [if_pos c14] at H
                  have c14b0 := eq_true c14
                  have c14b1 : decide (0 ≤ (ji13)) = true := decide_eq_true c14
                  clear c14
                  obtain ⟨ji15, hji15⟩ : ∃ j_ : Int, (shl .u8 1 (ji13)) = j_ := ⟨_, rfl⟩
                  replace H : (laws_roomFor.l0 k1 a0 a1 (x5_1.set ((ji10) : Int).toNat (Go.bits .or .u8 (rd x5_1 (ji10)) (ji15))) a1 (wrap64 (x15_1 + 1))) = some (r1, r2, r3, r4) := by first | (rw [hji15] at H; exact H) | (simp only [hji15] at H ⊢; exact H)
                  have hji15_ : (IntKind.u8.wrap (1 * 2 ^ min (ji13).toNat 8)) = ji15 := hji15
                  have hji15z : (ji13) ≤ 8 → (IntKind.u8.wrap (1 * 2 ^ (ji13).toNat)) = ji15 := shl_small hji15
                  have hji15u : (IntKind.u8.wrap (2 ^ min (ji13).toNat 8)) = ji15 := by have h_ := hji15_; rw [Int.one_mul] at h_; exact h_
                  have hji15v : (ji13) ≤ 8 → (IntKind.u8.wrap (2 ^ (ji13).toNat)) = ji15 := fun hle_ => by have h_ := hji15z hle_; rw [Int.one_mul] at h_; exact h_
                  obtain ⟨y106, hy106⟩ : ∃ y_ : List Int, y_ = (x5_1.set ((ji10) : Int).toNat (Go.bits .or .u8 (rd x5_1 (ji10)) (ji15))) := ⟨_, rfl⟩
                  replace H : (laws_roomFor.l0 k1 a0 a1 y106 a1 (wrap64 (x15_1 + 1))) = some (r1, r2, r3, r4) := by first | (rw [hy106]; with_reducible exact H) | (have H2_ := (Option.bind_some _ _).symm.trans H; rw [hy106]; with_reducible exact H2_) | (have H2_ := (Option.bind_some _ _).symm.trans H; with_reducible exact H2_) | with_reducible exact H | (rw [hy106]; exact H) | exact H
                  have Ny106 := Aside0.mk hy106
                  clear hy106
                  have H' := Aside0.mk H
                  clear H
                  try go_wp2
                  have n0_ := Aside0.mk (Kd.R_drew HO_5.out)
                  have n1_ := Aside0.mk (blk_drew BK101.out)
                  have n2_ := Aside0.mk (below_drew1 HB.out)
                  clear HO_5
                  clear BK101
                  clear HB
                  have HO_5 := n0_
                  have BK101 := n1_
                  have HB := n2_
                  clear n0_ n1_ n2_
                  obtain ⟨Ao18, co18, eo18⟩ := Kd.R_slice HO_5.out
                  (first | subst eo18 | (injection eo18 with f1_ f2_ f3_; have f4_ := f1_.symm; have f5_ := f3_.symm; clear f1_ f2_ f3_; subst f4_; subst f5_))
                  have p105 : 0 ≤ ((ji10) : Int) := of_decide_eq_true (by first | (with_reducible assumption) | assumption)
                  have q105 : (ji10) < (x5_1.length : Int) := of_decide_eq_true (by first | (with_reducible assumption) | assumption)
                  obtain ⟨ad105, e105, hx105_0⟩ := Kd.at_int (Kd.R_reads' HO_5.out).2.2 (ji10) p105 q105
                  cases e105
                  replace p105 := eq_true p105
                  replace q105 := eq_true q105
                  have p16 : 0 ≤ ((ji10) : Int) := of_decide_eq_true (by first | (with_reducible assumption) | assumption)
                  have q16 : ((ji10) : Int) < ((x5_1.length : Int) : Int) := of_decide_eq_true (by first | (with_reducible assumption) | assumption)
                  obtain ⟨go16, co16, eo16, gb16, gl16, cl16, HG16⟩ := Kd.R_form HO_5.out (by omega)
                  (first | cases eo16 | (injection eo16 with ea_ en_ ec_; (first | subst ea_ | (injection ea_ with ea_; subst ea_)); subst ec_; clear en_))
                  have GB16 := Aside0.mk gb16
                  have GG16 := Aside0.mk HG16
                  clear gb16 gl16 HG16
                  (first | simp only [add_plain] at hx105_0 | skip)
                  obtain ⟨hx16_0, hf16_0⟩ := Kd.R_celln 0 HO_5.out ((ji10) : Int) p16 q16
                  replace p16 := eq_true p16
                  replace q16 := eq_true q16
                  have HP19 := Kd.R_putn HO_5.out ((ji10) : Int) (Go.bits .or .u8 (rd x5_1 (ji10)) (ji15))
                  rw [← Ny106.out] at HP19
                  have HQ19 := Aside0.mk HP19
                  clear HP19
                  refine start_ (n := 11) (S := fun w' => w'.cell? ⟨go16, ((ji10)).toNat, none⟩ = some (.int .u8 (rd x5_1 (ji10)))) (ds := [10]) #[false, false, false, false, false, false, false, false, false, false, false] (by kernel_rfl) rfl rfl (hx105_0) (fun hHeld => ?_); refine with_tabW laws_roomFor.tab5 laws_roomFor.bits5 (fun HT_ HW_ => ?_)
                  generalize wr.drew = w17 at HO_5 BK101 HB GG16 HQ19 hf16_0 hx105_0 hx16_0 hHeld ⊢
                  refine pure_ (i := 0) (N := some 18) (v := ?_) (a' := ?_) #[true, false, false, false, false, false, false, false, false, false, false] rfl rfl (any_of HT_.out (by kernel_rfl)) (fun _ _ _ h => h) (Or.inl ⟨by rfl, ?_⟩) ?_ ?_
                  rotate_left
                  · intro w'
                    go_simp
                    with_reducible rfl
                  rotate_left
                  · simp only [Act.put, List.setIfInBounds_toArray, List.set_cons_zero, List.set_cons_succ, i64_w, i32_w]
                    rfl
                  refine pure_ (i := 1) (N := some 19) (v := ?_) (a' := ?_) #[true, true, false, false, false, false, false, false, false, false, false] rfl rfl (any_of HT_.out (by kernel_rfl)) (fun _ _ _ h => h) (Or.inl ⟨by rfl, ?_⟩) ?_ ?_
                  rotate_left
                  · intro w'
                    go_simp
                    with_reducible rfl
                  rotate_left
                  · simp only [Act.put, List.setIfInBounds_toArray, List.set_cons_zero, List.set_cons_succ, i64_w, i32_w]
                    rfl
                  refine pure_ (i := 2) (N := some 20) (v := ?_) (a' := ?_) #[true, true, true, false, false, false, false, false, false, false, false] rfl rfl (any_of HT_.out (by kernel_rfl)) (fun _ _ _ h => h) (Or.inl ⟨by rfl, ?_⟩) ?_ ?_
                  rotate_left
                  · intro w'
                    go_simp
                    with_reducible rfl
                  rotate_left
                  · simp only [Act.put, List.setIfInBounds_toArray, List.set_cons_zero, List.set_cons_succ, i64_w, i32_w]
                    rfl
                  refine pure_ (i := 3) (N := some 21) (v := ?_) (a' := ?_) #[true, true, true, true, false, false, false, false, false, false, false] rfl rfl (any_of HT_.out (by kernel_rfl)) (fun _ _ _ h => h) (Or.inl ⟨by rfl, ?_⟩) ?_ ?_
                  rotate_left
                  · intro w'
                    go_simp
                    with_reducible rfl
                  rotate_left
                  · simp only [Act.put, List.setIfInBounds_toArray, List.set_cons_zero, List.set_cons_succ, i64_w, i32_w]
                    rfl
                  refine pure_ (i := 5) (N := some 23) (v := ?_) (a' := ?_) #[true, true, true, true, false, true, false, false, false, false, false] rfl rfl (any_of HT_.out (by kernel_rfl)) (fun _ _ _ h => h) (Or.inl ⟨by rfl, ?_⟩) ?_ ?_
                  rotate_left
                  · intro w'
                    go_simp
                    with_reducible rfl
                  rotate_left
                  · simp only [Act.put, List.setIfInBounds_toArray, List.set_cons_zero, List.set_cons_succ, i64_w, i32_w]
                    rfl
                  refine pure_ (i := 6) (N := some 24) (v := ?_) (a' := ?_) #[true, true, true, true, false, true, true, false, false, false, false] rfl rfl (any_of HT_.out (by kernel_rfl)) (fun _ _ _ h => h) (Or.inl ⟨by rfl, ?_⟩) ?_ ?_
                  rotate_left
                  · intro w'
                    go_simp
                    with_reducible rfl
                  rotate_left
                  · simp only [Act.put, List.setIfInBounds_toArray, List.set_cons_zero, List.set_cons_succ, i64_w, i32_w]
                    rfl
                  refine pure_ (i := 7) (N := some 25) (v := ?_) (a' := ?_) #[true, true, true, true, false, true, true, true, false, false, false] rfl rfl (any_of HT_.out (by kernel_rfl)) (fun _ _ _ h => h) (Or.inl ⟨by rfl, ?_⟩) ?_ ?_
                  rotate_left
                  · intro w'
                    go_simp
                    with_reducible rfl
                  rotate_left
                  · simp only [Act.put, List.setIfInBounds_toArray, List.set_cons_zero, List.set_cons_succ, i64_w, i32_w]
                    rfl
                  refine take_ (i := 4) (N := some 22) (v := ?_) (a' := ?_) #[true, true, true, true, true, true, true, true, false, false, false] rfl rfl (take_ofW HT_.out HW_.out (by kernel_rfl)) (fun _ _ _ h => h) (Or.inl ⟨by rfl, ?_⟩) hHeld ?_ ?_
                  rotate_left
                  · intro w' s0
                    go_simp
                    with_reducible rfl
                  rotate_left
                  · simp only [Act.put, List.setIfInBounds_toArray, List.set_cons_zero, List.set_cons_succ, i64_w, i32_w]
                    rfl
                  refine pure_ (i := 8) (N := some 26) (v := ?_) (a' := ?_) #[true, true, true, true, true, true, true, true, true, false, false] rfl rfl (any_of HT_.out (by kernel_rfl)) (fun _ _ _ h => h) (Or.inl ⟨by rfl, ?_⟩) ?_ ?_
                  rotate_left
                  · intro w'
                    go_simp
                    with_reducible rfl
                  rotate_left
                  · simp only [Act.put, List.setIfInBounds_toArray, List.set_cons_zero, List.set_cons_succ, i64_w, i32_w]
                    rfl
                  refine pure_ (i := 9) (N := some 27) (v := ?_) (a' := ?_) #[true, true, true, true, true, true, true, true, true, true, false] rfl rfl (any_of HT_.out (by kernel_rfl)) (fun _ _ _ h => h) (Or.inl ⟨by rfl, ?_⟩) ?_ ?_
                  rotate_left
                  · intro w'
                    go_simp
                    with_reducible rfl
                  rotate_left
                  · simp only [Act.put, List.setIfInBounds_toArray, List.set_cons_zero, List.set_cons_succ, i64_w, i32_w]
                    rfl
                  refine last_ (i := 10) (N := none) #[true, true, true, true, true, true, true, true, true, true, true] rfl rfl (one_of HT_.out (by kernel_rfl)) (by decide) (fun K hK => ?_)
                  refine skip_ (w1 := ?_) (by rfl) rfl ?_ ?_
                  rotate_left
                  · go_simp
                    rfl
                  refine hK.out _ _ ?_
                  clear hK K
                  refine done_ (done_of HT_.out (by kernel_rfl)) ?_
                  try go_wp2
                  go_roundg k1
                  case measure => have := HK1.out; omega
                  case rel => exact ⟨(y106), (wrap64 (x15_1 + 1)), (by first | rfl | (simp; done) | (simp [*]; done)), H', ⟨by have := HK1.out; omega⟩, ⟨by (with_reducible repeat (first | apply Kd.R_alloc | apply Kd.R_drewN | apply Kd.R_drew)); exact HQ19.out⟩, ⟨by (with_reducible repeat (first | refine blk_drewN ?_ _ | refine blk_drew ?_ | refine blk_alloc ?_ _)); refine blk_far ?_ (by have h_ := Kd.R_ne HO_5.out BK101.out (by decide); intro e_; exact h_ (by rw [e_]; rfl)) _; (with_reducible repeat (first | refine blk_drewN ?_ _ | refine blk_drew ?_ | refine blk_alloc ?_ _)); exact BK101.out⟩, ⟨by repeat (first | (with_reducible first | exact HB.out | apply below_alloc | apply pw_below_drewN | apply below_drew1 | refine below_set ?_ GB16.out | refine below_set ?_ GE101.out) | exact HB.out)⟩⟩
                · rw [if_neg c14] at H
                  exact absurd H (by simp)
              · rw [if_neg c12] at H
                exact absurd H (by simp)
            · rw [if_neg c11] at H
              exact absurd H (by simp)
          · rw [if_neg c9] at H
            have c9b0 : decide (x15_1 < a1) = false := decide_eq_false c9
            clear c9
            simp only [Option.some.injEq, Prod.mk.injEq] at H
            obtain ⟨rfl, rfl, rfl, rfl⟩ := H
            obtain ⟨Ao20, co20, eo20⟩ := Kd.R_slice HO_5.out
            subst eo20
            have hcz21_0 : wr.cell? ⟨gb101, 0, none⟩ = some (.int .i64 0) := (blk_cell BK101.out 0).trans rfl
            have hcz21_1 : wr.cell? ⟨gb101, 1, none⟩ = some (.bool false) := (blk_cell BK101.out 1).trans rfl
            have hcz21_2 : wr.cell? ⟨gb101, 2, none⟩ = some (.slice none 0 0) := (blk_cell BK101.out 2).trans rfl
            have hcz21_3 : wr.cell? ⟨gb101, 3, none⟩ = some (.int .i64 0) := (blk_cell BK101.out 3).trans rfl
            have hfz21_0 := blk_frozen BK101.out 0
            have hfz21_1 := blk_frozen BK101.out 1
            have hfz21_2 := blk_frozen BK101.out 2
            have hfz21_3 := blk_frozen BK101.out 3
            go_wp2
            refine bodyPost_ret (results_cell_row rfl _ _ gb101 37 #[.int .i64 a0, .bool true, .slice Ao20 x5_1.length co20, .int .i64 a1] (0, 0) _ rfl (by (with_reducible repeat (first | refine blk_drewN ?_ _ | refine blk_drew ?_ | refine blk_alloc ?_ _)); refine blk_put (cs := #[.int .i64 a0, .bool true, .slice Ao20 x5_1.length co20, .int .i64 0]) ?_ 3 _ rfl; (with_reducible repeat (first | refine blk_drewN ?_ _ | refine blk_drew ?_ | refine blk_alloc ?_ _)); refine blk_put (cs := #[.int .i64 a0, .bool true, .slice none 0 0, .int .i64 0]) ?_ 2 _ rfl; (with_reducible repeat (first | refine blk_drewN ?_ _ | refine blk_drew ?_ | refine blk_alloc ?_ _)); refine blk_put (cs := #[.int .i64 a0, .bool false, .slice none 0 0, .int .i64 0]) ?_ 1 _ rfl; (with_reducible repeat (first | refine blk_drewN ?_ _ | refine blk_drew ?_ | refine blk_alloc ?_ _)); refine blk_put (cs := #[.int .i64 0, .bool false, .slice none 0 0, .int .i64 0]) ?_ 0 _ rfl; (with_reducible repeat (first | refine blk_drewN ?_ _ | refine blk_drew ?_ | refine blk_alloc ?_ _)); exact BK101.out) Tryd.underlying37 rfl (by kernel_rfl)) rfl ?_
            exact ⟨_, by first | rfl | (simp [errW_none, errW_some] <;> rfl) | (simp only [← hji3]; first | rfl | (simp [errW_none, errW_some] <;> rfl)) | (simp [*, errW_none, errW_some] <;> rfl), by (with_reducible repeat (first | apply Kd.R_alloc | apply Kd.R_drewN | apply Kd.R_drew)); exact Kd.R_mono (Kd.R_far (p := ⟨gb101, 3, none⟩) (Kd.R_far (p := ⟨gb101, 2, none⟩) (Kd.R_far (p := ⟨gb101, 1, none⟩) (Kd.R_far (p := ⟨gb101, 0, none⟩) (Kd.R_types HO_5.out BK101.out (by decide)) (fun _ hk => hk.2) (.int .i64 a0)) (fun _ hk => hk.2) (.bool true)) (fun _ hk => hk.2) (.slice Ao20 x5_1.length co20)) (fun _ hk => hk.2) (.int .i64 a1)) (fun _ hk => trivial), by repeat (first | (with_reducible first | exact HB.out | apply below_alloc | apply pw_below_drewN | apply below_drew1 | refine below_set ?_ GE101.out) | exact HB.out)⟩
    · rw [if_neg c5] at H
      exact absurd H (by simp)
  · rw [if_neg c4] at H
    exact absurd H (by simp)

end Go.Proofs.YtcjobencclihdaaDoor.ProomFor
