/- The least and the greatest integer of each type; a number that fits: the walks. -/
import Derived.Test.YtlhfmbpijcniaaaGreatWdSaG
import Derived.Test.YtlhfmbpijcniaaaGreatWdSaI
namespace Go.Proofs.YtlhfmbpijcniaaaGreat.WidemagDiv
open Go.RowKit Go.Proofs.YtlhfmbpijcniaaaGreat.PmagDiv Go.Proofs.YtlhfmbpijcniaaaGreatW.PrintWords Go.Proofs.YtlhfmbpijcniaaaGreatW.PrintLast Go.Proofs.YtlhfmbpijcniaaaGreatW.PrintMore
set_option linter.unusedVariables false
set_option linter.unusedSimpArgs false

theorem top_int8 : (2 : Int) ^ 7 - 1 = 127 := by decide
theorem bot_int8 : -((2 : Int) ^ 7) = -128 := by decide
theorem bn_int8 (w : World) : Calls Tryz.prog 6 #[.int .i64 8, .bool true] w (RetWW (fun _ => True) w (-128) 127 41) := by
  have h := bounds_signed (fun _ => True) 7 8 (by omega) w (by omega)
  rw [bot_int8, top_int8] at h
  exact h
theorem top_int16 : (2 : Int) ^ 15 - 1 = 32767 := by decide
theorem bot_int16 : -((2 : Int) ^ 15) = -32768 := by decide
theorem bn_int16 (w : World) : Calls Tryz.prog 6 #[.int .i64 16, .bool true] w (RetWW (fun _ => True) w (-32768) 32767 41) := by
  have h := bounds_signed (fun _ => True) 15 16 (by omega) w (by omega)
  rw [bot_int16, top_int16] at h
  exact h
theorem top_int32 : (2 : Int) ^ 31 - 1 = 2147483647 := by decide
theorem bot_int32 : -((2 : Int) ^ 31) = -2147483648 := by decide
theorem bn_int32 (w : World) : Calls Tryz.prog 6 #[.int .i64 32, .bool true] w (RetWW (fun _ => True) w (-2147483648) 2147483647 41) := by
  have h := bounds_signed (fun _ => True) 31 32 (by omega) w (by omega)
  rw [bot_int32, top_int32] at h
  exact h
theorem top_int64 : (2 : Int) ^ 63 - 1 = 9223372036854775807 := by decide
theorem bot_int64 : -((2 : Int) ^ 63) = -9223372036854775808 := by decide
theorem bn_int64 (w : World) : Calls Tryz.prog 6 #[.int .i64 64, .bool true] w (RetWW (fun _ => True) w (-9223372036854775808) 9223372036854775807 41) := by
  have h := bounds_signed (fun _ => True) 63 64 (by omega) w (by omega)
  rw [bot_int64, top_int64] at h
  exact h
theorem top_uint8 : (2 : Int) ^ 8 - 1 = 255 := by decide
theorem bn_uint8 (w : World) : Calls Tryz.prog 6 #[.int .i64 8, .bool false] w (RetWW (fun _ => True) w (0) 255 41) := by
  have h := bounds_unsigned (fun _ => True) 8 w (by omega)
  rw [top_uint8] at h
  exact h
theorem top_uint16 : (2 : Int) ^ 16 - 1 = 65535 := by decide
theorem bn_uint16 (w : World) : Calls Tryz.prog 6 #[.int .i64 16, .bool false] w (RetWW (fun _ => True) w (0) 65535 41) := by
  have h := bounds_unsigned (fun _ => True) 16 w (by omega)
  rw [top_uint16] at h
  exact h
theorem top_uint32 : (2 : Int) ^ 32 - 1 = 4294967295 := by decide
theorem bn_uint32 (w : World) : Calls Tryz.prog 6 #[.int .i64 32, .bool false] w (RetWW (fun _ => True) w (0) 4294967295 41) := by
  have h := bounds_unsigned (fun _ => True) 32 w (by omega)
  rw [top_uint32] at h
  exact h
theorem top_uint64 : (2 : Int) ^ 64 - 1 = 18446744073709551615 := by decide
theorem bn_uint64 (w : World) : Calls Tryz.prog 6 #[.int .i64 64, .bool false] w (RetWW (fun _ => True) w (0) 18446744073709551615 41) := by
  have h := bounds_unsigned (fun _ => True) 64 w (by omega)
  rw [top_uint64] at h
  exact h
theorem fit_at (v vx vy : Value) (z x y m : Int) (w : World) (hv : IsW (fun _ => True) w v z 50) (hx : IsW (fun _ => True) w vx x 50) (hy : IsW (fun _ => True) w vy y 50) (hz : 0 ≤ z) (hxz : x ≤ z) (hzy : z ≤ y) (hm : z % 18446744073709551616 = m) :
    Calls Tryz.prog 7 #[v, vx, vy] w (RetS (.tuple #[.int .u64 m, .bool true]) w) := by
  refine (fitted_pos (fun _ => True) v vx vy z x y 50 w hv hx hy hz hxz (by omega)).mono ?_
  rintro e w1 ⟨rfl, hb⟩
  exact ⟨by rw [hm, decide_eq_true (show x ≤ z ∧ z ≤ y from ⟨hxz, hzy⟩)], hb⟩
theorem two_below (w : World) (o1 o2 : Obj) : Below w.heap.size w ((w.alloc o1).alloc o2) := ((Below.refl _ _).alloc (Nat.le_refl _) _).alloc (by simp) _
theorem all_W {w : World} {v : Value} {z : Int} {Q : Nat → Prop} {B : Nat} (h : IsW Q w v z B) (hB : B ≤ 50) : Aside0 (IsW (fun _ => True) w v z 50) := ⟨(h.more hB).mono (Q := fun _ => True) fun _ _ => True.intro⟩
def Held (g1 g2 : Nat) (o1 o2 : Obj) (w : World) : Prop := w.heap[g1]? = some o1 ∧ w.heap[g2]? = some o2
theorem Held.drew {g1 g2 : Nat} {o1 o2 : Obj} {w : World} (h : Held g1 g2 o1 o2 w) : Held g1 g2 o1 o2 w.drew := h
theorem Held.far {g1 g2 : Nat} {o1 o2 : Obj} {w w1 : World} (h : Held g1 g2 o1 o2 w) (hb : Below w.heap.size w w1) : Held g1 g2 o1 o2 w1 := ⟨own_far hb h.1 (Nat.le_refl _), own_far hb h.2 (Nat.le_refl _)⟩

end Go.Proofs.YtlhfmbpijcniaaaGreat.WidemagDiv
