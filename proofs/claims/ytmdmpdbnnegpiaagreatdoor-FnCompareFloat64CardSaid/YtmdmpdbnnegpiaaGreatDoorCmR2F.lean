/- The reference's words on comparisons of one type, walked: values, their order, what is due. -/
import Derived.Test.YtmdmpdbnnegpiaaGreatDoorCmR1
import Derived.Test.YtmdmpdbnnegpiaaGreatDoorCmGF
namespace Go.Proofs.YtmdmpdbnnegpiaaGreatDoor.Cmp
open Go.RowKit Go.Proofs.YtmdmpdbnnegpiaaGreatDoorW.PrintWords Go.Proofs.YtmdmpdbnnegpiaaGreatDoorW.PrintLast Go.Proofs.YtmdmpdbnnegpiaaGreatDoorW.PrintMore
set_option linter.unusedVariables false
set_option linter.unusedSimpArgs false

attribute [local go_sem] run_store_float
def mkV (x : Int) : V := ⟨false, x, ⟨#[]⟩, none, 0, 0⟩
theorem info55 : (Tryz.prog.info? 55).map (fun i => (i.zero, i.size, i.bytes)) = some (some (.agg #[.bool false, .int .u64 0, .string ⟨#[]⟩, .slice none 0 0]), 4, 56) := by kernel_rfl
theorem fitsVF (x : Int) (w : World) (h0 : 0 ≤ x) (h1 : x < 18446744073709551616) : Calls Tryz.prog 20 #[tv 3 64 false, .agg #[.bool false, .int .u64 x, .string ⟨#[]⟩, .slice none 0 0]] w fun e w' => e = .returned (.bool (decide (x < 18446744073709551616))) ∧ Below w.heap.size w w' := by
  refine (fits_F (mkV x) w rfl (Nat.zero_le _) h0 h1).mono ?_
  rintro e w' ⟨rfl, hb⟩
  refine ⟨ret_bool ?_, hb⟩
  rw [Bool.eq_iff_iff]
  simp [fitsN, mkV, fU16, fF64, IntKind.wrap_u64]
  try omega
def PairsP (how : Int) (na nb : Nat) (w : World) (e : Ending) (w' : World) : Prop := w = w' ∧ ∃ (n : Int) (b : Bool), e = .returned (.tuple #[.int .i64 n, .bool b]) ∧ (b = true → (how = 0 ∧ n = na ∧ na = nb) ∨ (how = 1 ∧ n = na ∧ 0 < nb) ∨ (how = 2 ∧ n = nb ∧ 0 < na))
def RoomP (n : Nat) (fr m : Int) (w : World) (e : Ending) (w' : World) : Prop := w = w' ∧ ∃ (b : Bool), e = .returned (.bool b) ∧ (b = true → 0 ≤ fr ∧ fr ≤ 7 ∧ m ≤ 300 ∧ n ≤ 100 ∧ IntKind.i64.wrap (fr + m) ≤ 8 * n)
set_option maxRecDepth 100000 in
set_option maxHeartbeats 4000000 in
theorem pairs2_any (how : Int) (na nb : Nat) (w : World) : Calls Tryz.prog 7 #[.int .i64 how, .int .i64 na, .int .i64 nb] w (PairsP how na nb w) := by
  by_cases h0 : how = 0
  · subst h0
    go_enter Tryz.func7, Tryz.ntmps7
    go_wp2
    go_ret2
    exact ⟨rfl, _, _, rfl, fun h => .inl ⟨rfl, rfl, by simp at h; omega⟩⟩
  · by_cases h1 : how = 1
    · subst h1
      go_enter Tryz.func7, Tryz.ntmps7
      go_wp2
      go_ret2
      exact ⟨rfl, _, _, rfl, fun h => .inr (.inl ⟨rfl, rfl, by simp at h; omega⟩)⟩
    · by_cases h2 : how = 2
      · subst h2
        go_enter Tryz.func7, Tryz.ntmps7
        go_wp2
        go_ret2
        exact ⟨rfl, _, _, rfl, fun h => .inr (.inr ⟨rfl, rfl, by simp at h; omega⟩)⟩
      · go_enter Tryz.func7, Tryz.ntmps7
        go_wp2
        go_ret2
        exact ⟨rfl, _, _, rfl, fun h => by cases h⟩
set_option maxRecDepth 100000 in
set_option maxHeartbeats 4000000 in
theorem room_any (A : Option Addr) (n c : Nat) (fr m : Int) (w : World) : Calls Tryz.prog 9 #[.slice A n c, .int .i64 fr, .int .i64 m] w (RoomP n fr m w) := by
  by_cases h0 : 0 ≤ fr
  · by_cases h1 : fr ≤ 7
    · by_cases h2 : m ≤ 300
      · by_cases h3 : (n : Int) ≤ 100
        · have e1 : IntKind.i64.wrap (8 * (n : Int)) = 8 * (n : Int) := by rw [IntKind.wrap_i64]; omega
          generalize hq : IntKind.i64.wrap (fr + m) = q
          go_enter Tryz.func9, Tryz.ntmps9
          go_wp2
          go_ret
          exact ⟨rfl, _, rfl, fun h => ⟨h0, h1, h2, by omega, by simpa [hq] using h⟩⟩
        · go_enter Tryz.func9, Tryz.ntmps9
          go_wp2
          go_ret
          exact ⟨rfl, _, rfl, fun h => by first | cases h | (simp at h; omega)⟩
      · go_enter Tryz.func9, Tryz.ntmps9
        go_wp2
        go_ret
        exact ⟨rfl, _, rfl, fun h => by first | cases h | (simp at h; omega)⟩
    · go_enter Tryz.func9, Tryz.ntmps9
      go_wp2
      go_ret
      exact ⟨rfl, _, rfl, fun h => by first | cases h | (simp at h; omega)⟩
  · go_enter Tryz.func9, Tryz.ntmps9
    go_wp2
    go_ret
    exact ⟨rfl, _, rfl, fun h => by first | cases h | (simp at h; omega)⟩
set_option maxRecDepth 100000 in
theorem place2_any (how i : Nat) (w : World) (hh : how ≤ 2) : Calls Tryz.prog 22 #[.int .i64 how, .int .i64 i] w (fun e w' => w = w' ∧ e = .returned (.tuple #[.int .i64 ((if how = 2 then 0 else i : Nat) : Int), .int .i64 ((if how = 1 then 0 else i : Nat) : Int)])) := by
  have h : how = 0 ∨ how = 1 ∨ how = 2 := by omega
  rcases h with rfl | rfl | rfl
  all_goals
    go_enter Tryz.func22, Tryz.ntmps22
    go_wp2
    go_ret2
    exact ⟨rfl, rfl⟩
set_option maxRecDepth 100000 in
theorem answer_any (op : Nat) (c : Int) (no : Bool) (w : World) (hh : op ≤ 3) : Calls Tryz.prog 25 #[.int .i64 op, .int .i64 c, .bool no] w (fun e w' => w = w' ∧ e = .returned (.bool (ans op c no))) := by
  have h : op = 0 ∨ op = 1 ∨ op = 2 ∨ op = 3 := by omega
  rcases h with rfl | rfl | rfl | rfl <;> cases no
  all_goals
    go_enter Tryz.func25, Tryz.ntmps25
    go_wp2
    go_ret
    refine ⟨rfl, ret_bool ?_⟩
    simp [ans]
    try rfl
theorem three_blocks (w : World) (o1 o2 o3 : Obj) (n : Nat) : ((((w.alloc o1).alloc o2).alloc o3).drewN n).heap[w.heap.size]? = some o1 ∧ ((((w.alloc o1).alloc o2).alloc o3).drewN n).heap[w.heap.size + 1]? = some o2 ∧ ((((w.alloc o1).alloc o2).alloc o3).drewN n).heap[w.heap.size + 1 + 1]? = some o3 := by
  have h := two_blocks w o1 o2
  have h3 := heap_alloc_new ((w.alloc o1).alloc o2) o3
  exact ⟨(Below.heap_alloc _ _ _ (block_lt h.1)).trans h.1, (Below.heap_alloc _ _ _ (block_lt h.2)).trans h.2, by simpa using h3⟩
def nnF (x : Int) : Bool := nanF x
def sgF (x y : Int) : Int := sgnF x y
theorem law_ansF (op : Nat) (x y : Int) : ans op (if nnF x || nnF y then 0 else sgF x y) (nnF x || nnF y) = cmpF op x y := ans_F op x y
set_option maxRecDepth 100000 in
set_option maxHeartbeats 4000000 in
theorem floatOf64 (x : Int) (w : World) : Calls Tryz.prog 36 #[.int .i64 64, .int .u64 x] w (fun e w' => e = .returned (.float .f64 x.toNat) ∧ w' = w) := by
  have hcv := fun (n : Int) (W : World) => from64 n W
  go_enter Tryz.func36, Tryz.ntmps36
  go_wp2
  go_ret
  exact ⟨rfl, rfl⟩
set_option maxRecDepth 100000 in
set_option maxHeartbeats 4000000 in
theorem notNumF (x : Int) (w : World) : Calls Tryz.prog 23 #[tv 3 64 false, .agg #[.bool false, .int .u64 x, .string ⟨#[]⟩, .slice none 0 0]] w (fun e w' => e = .returned (.bool (nnF x)) ∧ Below w.heap.size w w') := by
  unfold nnF nanF ordF
  go_enter Tryz.func23, Tryz.ntmps23
  go_wp2_with (go_at_call 36; refine (floatOf64 x _).mono ?_; rintro e w1 ⟨rfl, rfl⟩)
  go_ret
  exact ⟨rfl, grow0⟩
set_option maxRecDepth 100000 in
set_option maxHeartbeats 8000000 in
theorem orderF (x y : Int) (w : World) : Calls Tryz.prog 24 #[tv 3 64 false, .agg #[.bool false, .int .u64 x, .string ⟨#[]⟩, .slice none 0 0], .agg #[.bool false, .int .u64 y, .string ⟨#[]⟩, .slice none 0 0]] w (fun e w' => e = .returned (.int .i64 (sgF x y)) ∧ Below w.heap.size w w') := by
  unfold sgF sgnF ordF
  cases h1 : (FloatKind.f64.format.order x.toNat y.toNat == some .lt) <;> cases h2 : (FloatKind.f64.format.order x.toNat y.toNat == some .gt)
  all_goals
    go_enter Tryz.func24, Tryz.ntmps24
    go_wp2_with fail
    go_quiet (fail)
    go_upto_region 3 with fail
    have h3 := three_blocks w (.cells #[.int .i64 3, .int .i64 64, .bool false, .int .i64 0, .int .i64 0, .int .i64 0, .string ⟨#[]⟩, .bool false, .slice none 0 0, .slice none 0 0] 37) (.cells #[.bool false, .int .u64 x, .string ⟨#[]⟩, .slice none 0 0] 55) (.cells #[.bool false, .int .u64 y, .string ⟨#[]⟩, .slice none 0 0] 55) nq
    generalize hW : World.drewN _ nq = W at h3 ⊢
    have f0 : W.cell? ⟨w.heap.size, 1, none⟩ = some (.int .i64 64) := blk_cell h3.1 1
    have f1 : W.cell? ⟨w.heap.size + 1, 1, none⟩ = some (.int .u64 x) := blk_cell h3.2.1 1
    have f2 : W.cell? ⟨w.heap.size + 1 + 1, 1, none⟩ = some (.int .u64 y) := blk_cell h3.2.2 1
    clear h3
    have HB := Aside0.mk (show Below w.heap.size w W by rw [← hW]; repeat (first | exact Below.refl _ _ | apply below_alloc | apply pw_below_drewN | apply below_drew1))
    clear hW
    go_quiet ((go_at_call 36; exact Calls.quiet_of_same (floatOf64 _ _)))
    go_wp2_with fail
    go_ret
    exact ⟨by simp, pw_below_drewN HB.out _⟩

end Go.Proofs.YtmdmpdbnnegpiaaGreatDoor.Cmp
