-- PRINTED BY print.sh 35421559b90ae4d0a3588c463048766b98c2df88dd9212a6774a882060cdf62d: not written by this session
import Derived.Test.YtngihompgcjlmaaDoorPlowestx0
namespace Go.Proofs.YtngihompgcjlmaaDoor.Plowest
open Go.RowKit Go.Proofs.YtngihompgcjlmaaDoorW.PrintWords Go.Proofs.YtngihompgcjlmaaDoorW.PrintLast Go.Proofs.YtngihompgcjlmaaDoorW.PrintMore
attribute [local go_sem] max2_int min2_int max_two min_two max_three min_three max_four min_four   -- for this text's walks alone
set_option linter.unusedVariables false
set_option linter.unusedSimpArgs false

/-! ### laws_lowest: function 12 -/
def laws_lowest.f (a0 : Int) : Option (List Int) := if 0 ≤ a0 then (if (a0 : Int).toNat ≤ 281474976710656 then ((some (List.replicate (a0 : Int).toNat 0 : List Int)).bind fun y101 => (if 0 < (y101.length : Int) then (some (y101.set (0 : Int).toNat 1)) else (none))) else (none)) else (none)
set_option maxHeartbeats 8000000 in
set_option maxRecDepth 100000 in
theorem laws_lowest.calls (a0 : Int) (r : List Int) (w : World) (h : laws_lowest.f a0 = some r) :
    Calls Tryd.prog 12 #[.int .i64 a0] w fun e w' => ∃ v0_ : Value, e = .returned (v0_) ∧ Kd.R (Kd.int .u8) 5 w' w.heap.size (fun _ => True) v0_ r ∧ Below w.heap.size w w' := by
  have HB := Aside0.mk (Below.refl w.heap.size w)
  have H : (if 0 ≤ a0 then (if (a0 : Int).toNat ≤ 281474976710656 then ((some (List.replicate (a0 : Int).toNat 0 : List Int)).bind fun y101 => (if 0 < (y101.length : Int) then (some (y101.set (0 : Int).toNat 1)) else (none))) else (none)) else (none)) = some r := h
  clear h
  by_cases c2 : 0 ≤ a0
  · rw [if_pos c2] at H
    have c2b0 := eq_true c2
    have c2b1 : decide (0 ≤ a0) = true := decide_eq_true c2
    clear c2
    by_cases c3 : (a0 : Int).toNat ≤ 281474976710656
    · rw [if_pos c3] at H
      have c3b0 := eq_true c3
      have c3b1 : decide ((a0 : Int).toNat ≤ 281474976710656) = true := decide_eq_true c3
      clear c3
      obtain ⟨y101, hy101⟩ : ∃ y_ : List Int, y_ = (List.replicate (a0 : Int).toNat 0) := ⟨_, rfl⟩
      replace H : (if 0 < (y101.length : Int) then (some (y101.set (0 : Int).toNat 1)) else (none)) = some r := by first | (rw [hy101]; with_reducible exact H) | (have H2_ := (Option.bind_some _ _).symm.trans H; rw [hy101]; with_reducible exact H2_) | (have H2_ := (Option.bind_some _ _).symm.trans H; with_reducible exact H2_) | with_reducible exact H | (rw [hy101]; exact H) | exact H
      have Ny101 := Aside0.mk hy101
      clear hy101
      by_cases c4 : 0 < (y101.length : Int)
      · rw [if_pos c4] at H
        have c4b0 : decide (0 < (y101.length : Int)) = true := decide_eq_true c4
        have c4b1 : decide (0 < y101.length) = true := decide_eq_true (by omega)
        clear c4
        obtain ⟨y104, hy104⟩ : ∃ y_ : List Int, y_ = (y101.set (0 : Int).toNat 1) := ⟨_, rfl⟩
        replace H : (some y104) = some r := by first | (rw [hy104]; with_reducible exact H) | (have H2_ := (Option.bind_some _ _).symm.trans H; rw [hy104]; with_reducible exact H2_) | (have H2_ := (Option.bind_some _ _).symm.trans H; with_reducible exact H2_) | with_reducible exact H | (rw [hy104]; exact H) | exact H
        have Ny104 := Aside0.mk hy104
        clear hy104
        obtain rfl := Option.some.inj H
        go_enter Tryd.func12, Tryd.ntmps12
        go_wp2_with (first | ((with_reducible refine gate_dst (N := 5) rfl ?_); refine Kd.R_make (Kd.int .u8) _ 5 rfl (N := 5) rfl 22 _ _ rfl a0 rfl rfl Tryd.underlying22 (.int .u8 0) 1 info5 rfl (by decide) (by omega) 0 (ok := fun _ => True) (okp := fun _ => True) rfl (fun _ hk => hk) trivial (of_decide_eq_true (by first | (with_reducible assumption) | assumption)) (Nat.le_trans (Nat.mul_le_mul_right _ (of_decide_eq_true (by first | (with_reducible assumption) | assumption) : a0.toNat ≤ 281474976710656)) (by omega)) (Below.refl _ _) (Nat.le_refl _) ?_; intro v102 w6 ho7 hb hg_ hnew_; clear hg_ hnew_; (first | rw [← Ny101.out] at ho7 | (simp only [Int.reduceToNat] at ho7; rw [← Ny101.out] at ho7)); have n0_ := Aside0.mk (Kd.R_lower ho7 (below_size (by repeat (first | (with_reducible first | exact HB.out | apply below_alloc | apply pw_below_drewN | apply below_drew1) | exact HB.out)))); have n1_ := Aside0.mk (below_step (by repeat (first | (with_reducible first | exact HB.out | apply below_alloc | apply pw_below_drewN | apply below_drew1) | exact HB.out)) hb); clear HB; have HO103 := n0_; have HB := n1_; clear n0_ n1_; clear hb ho7; have p5 : 0 ≤ (0 : Int) := (by omega); have q5 : (0 : Int) < ((y101.length : Int) : Int) := of_decide_eq_true (by first | (with_reducible assumption) | assumption); have qi5 : (0 < y101.length) = True := eq_true (by omega); obtain ⟨go5, co5, eo5, gb5, gl5, cl5, HG5⟩ := Kd.R_form HO103.out (by omega); (first | cases eo5 | (injection eo5 with ea_ en_ ec_; (first | subst ea_ | (injection ea_ with ea_; subst ea_)); subst ec_; clear en_)); have GB5 := Aside0.mk gb5; have GG5 := Aside0.mk HG5; clear gb5 gl5 HG5; obtain ⟨hx5_0, hf5_0⟩ := Kd.R_celln 0 HO103.out (0 : Int) p5 q5; (try rw [show ((0 : Int)).toNat = 0 from rfl] at hx5_0); (try simp only [Nat.reduceMul, Nat.zero_mul, Nat.zero_add, Nat.reduceAdd] at hx5_0); (try rw [show ((0 : Int)).toNat = 0 from rfl] at hf5_0); (try simp only [Nat.reduceMul, Nat.zero_mul, Nat.zero_add, Nat.reduceAdd] at hf5_0); replace p5 := eq_true p5; replace q5 := eq_true q5; obtain ⟨hy8_, hz8_⟩ := Kd.R_celln 0 HO103.out (0 : Int) (by omega) (of_decide_eq_true (by first | (with_reducible assumption) | assumption)); (try simp only [Int.reduceToNat, Int.toNat_zero, Int.toNat_ofNat, Nat.reduceMul, Nat.zero_mul, Nat.zero_add] at hy8_ hz8_); (try rw [show ((0 : Int)).toNat = 0 from rfl] at hy8_); (try rw [show ((0 : Int)).toNat = 0 from rfl] at hz8_); have HP8 := Kd.R_putg HO103.out (0 : Int) 1) | ((with_reducible refine gate_store (t := 5) (p := 7) rfl ?_); refine store_event (t := 5) (p := 7) (v := ?vo_w9) (w1 := (w6.setCell ⟨go5, (0 : Int).toNat, none⟩ (.int .u8 1))) ?hg ?ho ?hn ?hr ?_; (case ho => rfl); (case hg => rfl); (case hn => rfl); (case hr => first | (go_simp; done) | (go_simp; rfl)); intro w9 hw; have hg : w6.grownBy w9 (some go5) := (by rw [hw]; exact HP8.2); have hp_ : Kd.R (Kd.int .u8) 5 w9 w.heap.size (fun _ => True) (.slice (some ⟨go5, 0, none⟩) y101.length co5) y104 := (by rw [hw, Ny104.out]; exact HP8.1); clear HP8; have n0_ := Aside0.mk (hp_); have n1_ := Aside0.mk ((by rw [hw]; exact below_set (HB.out) GB5.out : Below w.heap.size w w9)); clear HO103; clear HB; have HO103 := n0_; have HB := n1_; clear n0_ n1_; clear hg hw hp_))
        go_ret
        exact ⟨_, by first | rfl | (simp [errW_none, errW_some] <;> rfl) | (simp [*, errW_none, errW_some] <;> rfl), by (with_reducible repeat (first | apply Kd.R_alloc | apply Kd.R_drewN | apply Kd.R_drew)); exact HO103.out, by repeat (first | (with_reducible first | exact HB.out | apply below_alloc | apply pw_below_drewN | apply below_drew1) | exact HB.out)⟩
      · rw [if_neg c4] at H
        exact absurd H (by simp)
    · rw [if_neg c3] at H
      exact absurd H (by simp)
  · rw [if_neg c2] at H
    exact absurd H (by simp)

end Go.Proofs.YtngihompgcjlmaaDoor.Plowest
