/- laws.FnSafeUint64: the walk at every width. -/
import Derived.Test.YtlhfmbpijcniaaaGreatWdSaY
namespace Go.Proofs.YtlhfmbpijcniaaaGreat.WidemagDiv
open Go.RowKit Go.Proofs.YtlhfmbpijcniaaaGreat.PmagDiv Go.Proofs.YtlhfmbpijcniaaaGreatW.PrintWords Go.Proofs.YtlhfmbpijcniaaaGreatW.PrintLast Go.Proofs.YtlhfmbpijcniaaaGreatW.PrintMore
set_option linter.unusedVariables false
set_option linter.unusedSimpArgs false

set_option maxRecDepth 100000 in
set_option maxHeartbeats 4000000 in
theorem law_uint64_other (k : Int) (s : Bool) (w : World) (h1 : k ≠ 8) (h2 : k ≠ 16) (h3 : k ≠ 32) (h4 : k ≠ 64) : Calls Tryz.prog 4 #[.int .i64 k, .bool s] w (RetS (.bool true) w) := by
  have HBw := Aside0.mk (Below.refl w.heap.size w)
  go_enter Tryz.func4, Tryz.ntmps4
  go_wp2_with (first | (have hg := HBw.out; clear hg; go_at_call 10; refine (Impl_uint64_uint64 _).mono ?_; rintro e w1 ⟨rfl, hb⟩; have HB1 := Aside0.mk ((HBw.out.trans hb) : Below w.heap.size w w1); clear hb HBw) | (have hg := HB1.out; clear hg; go_at_call 6; refine (bn_uint64 _).mono ?_; rintro e w2 ⟨v1, v2, rfl, hW1, hW2, hb⟩; obtain ⟨b1, A1, c1, l1, rfl, _⟩ := hW1.shape; obtain ⟨b2, A2, c2, l2, rfl, _⟩ := hW2.shape; have HW1 := all_W hW1 (by omega); have HW2 := all_W hW2 (by omega); have HB2 := Aside0.mk (HB1.out.trans (hb.mono HB1.out.size) : Below w.heap.size w w2); have HB20 := Aside0.mk (two_below w2 (.cells #[.bool b1, .slice A1 l1.length c1] 27) (.cells #[.bool b2, .slice A2 l2.length c2] 27)); have T := Aside0.mk (show Held w2.heap.size (w2.heap.size + 1) (.cells #[.bool b1, .slice A1 l1.length c1] 27) (.cells #[.bool b2, .slice A2 l2.length c2] 27) _ from two_blocks w2 (.cells #[.bool b1, .slice A1 l1.length c1] 27) (.cells #[.bool b2, .slice A2 l2.length c2] 27)); clear hb hW1 hW2 HB1) | (have hg := HW1.out; clear hg; go_at_call 7; refine (fit_at _ _ _ 0 0 18446744073709551615 0 _ (HW1.out.below HB20.out) (HW1.out.below HB20.out) (HW2.out.below HB20.out) (by omega) (by omega) (by omega) (by omega)).mono ?_; rintro e w3 ⟨rfl, hb⟩; have T3 := Aside0.mk (T.out.far hb); have HB3 := Aside0.mk (HB20.out.trans (hb.mono (by simp <;> omega)) : Below w2.heap.size w2 w3); have HW13 := Aside0.mk (HW1.out.below HB3.out); have HW23 := Aside0.mk (HW2.out.below HB3.out); obtain ⟨k0, k1, _, _⟩ := struct_at T3.out.1; obtain ⟨k2, k3, _, _⟩ := struct_at T3.out.2; clear hb T HW1 HW2 HB20) | (have hg := HW23.out; clear hg; go_at_call 7; refine (fit_at _ _ _ 18446744073709551615 0 18446744073709551615 18446744073709551615 _ HW23.out HW13.out HW23.out (by omega) (by omega) (by omega) (by omega)).mono ?_; rintro e w4 ⟨rfl, hb⟩; have T4 := Aside0.mk (T3.out.far hb); have HB4 := Aside0.mk ((HB2.out.trans (HB3.out.mono HB2.out.size)).trans (hb.mono (Nat.le_trans HB2.out.size HB3.out.size)) : Below w.heap.size w w4); have HW14 := Aside0.mk (HW13.out.below hb); have HW24 := Aside0.mk (HW23.out.below hb); clear hb T3 HW13 HW23 HB3 k0 k1 k2 k3))
  all_goals first
    | exact absurd (by assumption : (((k != 8) = false ∨ (k != 16) = false) ∨ (k != 32) = false) ∨ (k != 64) = false) (by simp [h1, h2, h3, h4])
    | (go_ret; exact ⟨by first | rfl | decide, HB4.out⟩)
theorem law_row_uint64 (k : Int) (s : Bool) (w : World) : Calls Tryz.prog 4 #[.int .i64 k, .bool s] w (fun e w' => e = .returned (.bool true) ∧ Below w.heap.size w w') := by
  by_cases h1 : k = 8
  · subst h1; cases s
    · exact law_uint64_uint8 w
    · exact law_uint64_int8 w
  by_cases h2 : k = 16
  · subst h2; cases s
    · exact law_uint64_uint16 w
    · exact law_uint64_int16 w
  by_cases h3 : k = 32
  · subst h3; cases s
    · exact law_uint64_uint32 w
    · exact law_uint64_int32 w
  by_cases h4 : k = 64
  · subst h4; cases s
    · exact law_uint64_uint64 w
    · exact law_uint64_int64 w
  exact law_uint64_other k s w h1 h2 h3 h4

end Go.Proofs.YtlhfmbpijcniaaaGreat.WidemagDiv
