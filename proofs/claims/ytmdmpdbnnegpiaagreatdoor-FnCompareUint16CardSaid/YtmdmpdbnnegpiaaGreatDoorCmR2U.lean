/- The reference's words on comparisons of one type, walked: values, their order, what is due. -/
import Derived.Test.YtmdmpdbnnegpiaaGreatDoorCmR1
import Derived.Test.YtmdmpdbnnegpiaaGreatDoorCmGU
namespace Go.Proofs.YtmdmpdbnnegpiaaGreatDoor.Cmp
open Go.RowKit Go.Proofs.YtmdmpdbnnegpiaaGreatDoorW.PrintWords Go.Proofs.YtmdmpdbnnegpiaaGreatDoorW.PrintLast Go.Proofs.YtmdmpdbnnegpiaaGreatDoorW.PrintMore
set_option linter.unusedVariables false
set_option linter.unusedSimpArgs false

attribute [local go_sem] run_store_float
def mkV (x : Int) : V := ⟨false, x, ⟨#[]⟩, none, 0, 0⟩
theorem info55 : (Tryz.prog.info? 55).map (fun i => (i.zero, i.size, i.bytes)) = some (some (.agg #[.bool false, .int .u64 0, .string ⟨#[]⟩, .slice none 0 0]), 4, 56) := by kernel_rfl
theorem fitsVU (x : Int) (w : World) (h0 : 0 ≤ x) (h1 : x < 18446744073709551616) : Calls Tryz.prog 20 #[tv 2 16 false, .agg #[.bool false, .int .u64 x, .string ⟨#[]⟩, .slice none 0 0]] w fun e w' => e = .returned (.bool (decide (x < 65536))) ∧ Below w.heap.size w w' := by
  refine (fits_U (mkV x) w rfl (Nat.zero_le _) h0 h1).mono ?_
  rintro e w' ⟨rfl, hb⟩
  refine ⟨ret_bool ?_, hb⟩
  rw [Bool.eq_iff_iff]
  simp [fitsN, mkV, fU16, fF64, IntKind.wrap_u64]
  try omega
def PairsP (how : Int) (na nb : Nat) (w : World) (e : Ending) (w' : World) : Prop := w = w' ∧ ∃ (n : Int) (b : Bool), e = .returned (.tuple #[.int .i64 n, .bool b]) ∧ (b = true → (how = 0 ∧ n = na ∧ na = nb) ∨ (how = 1 ∧ n = na ∧ 0 < nb) ∨ (how = 2 ∧ n = nb ∧ 0 < na))
def RoomP (n : Nat) (fr m : Int) (w : World) (e : Ending) (w' : World) : Prop := w = w' ∧ ∃ (b : Bool), e = .returned (.bool b) ∧ (b = true → 0 ≤ fr ∧ fr ≤ 7 ∧ m ≤ 300 ∧ n ≤ 100 ∧ IntKind.i64.wrap (fr + m) ≤ 8 * n)
set_option maxRecDepth 100000 in
set_option maxHeartbeats 4000000 in
theorem pairs2_any (how : Int) (na nb : Nat) (w : World) : Calls Tryz.prog 7 #[.int .i64 how, .int .i64 na, .int .i64 nb] w (PairsP how na nb w) := by
  by_cases h0 : how = 0
  · subst h0
    go_enter Tryz.func7, Tryz.ntmps7
    go_wp2
    go_ret2
    exact ⟨rfl, _, _, rfl, fun h => .inl ⟨rfl, rfl, by simp at h; omega⟩⟩
  · by_cases h1 : how = 1
    · subst h1
      go_enter Tryz.func7, Tryz.ntmps7
      go_wp2
      go_ret2
      exact ⟨rfl, _, _, rfl, fun h => .inr (.inl ⟨rfl, rfl, by simp at h; omega⟩)⟩
    · by_cases h2 : how = 2
      · subst h2
        go_enter Tryz.func7, Tryz.ntmps7
        go_wp2
        go_ret2
        exact ⟨rfl, _, _, rfl, fun h => .inr (.inr ⟨rfl, rfl, by simp at h; omega⟩)⟩
      · go_enter Tryz.func7, Tryz.ntmps7
        go_wp2
        go_ret2
        exact ⟨rfl, _, _, rfl, fun h => by cases h⟩
set_option maxRecDepth 100000 in
set_option maxHeartbeats 4000000 in
theorem room_any (A : Option Addr) (n c : Nat) (fr m : Int) (w : World) : Calls Tryz.prog 9 #[.slice A n c, .int .i64 fr, .int .i64 m] w (RoomP n fr m w) := by
  by_cases h0 : 0 ≤ fr
  · by_cases h1 : fr ≤ 7
    · by_cases h2 : m ≤ 300
      · by_cases h3 : (n : Int) ≤ 100
        · have e1 : IntKind.i64.wrap (8 * (n : Int)) = 8 * (n : Int) := by rw [IntKind.wrap_i64]; omega
          generalize hq : IntKind.i64.wrap (fr + m) = q
          go_enter Tryz.func9, Tryz.ntmps9
          go_wp2
          go_ret
          exact ⟨rfl, _, rfl, fun h => ⟨h0, h1, h2, by omega, by simpa [hq] using h⟩⟩
        · go_enter Tryz.func9, Tryz.ntmps9
          go_wp2
          go_ret
          exact ⟨rfl, _, rfl, fun h => by first | cases h | (simp at h; omega)⟩
      · go_enter Tryz.func9, Tryz.ntmps9
        go_wp2
        go_ret
        exact ⟨rfl, _, rfl, fun h => by first | cases h | (simp at h; omega)⟩
    · go_enter Tryz.func9, Tryz.ntmps9
      go_wp2
      go_ret
      exact ⟨rfl, _, rfl, fun h => by first | cases h | (simp at h; omega)⟩
  · go_enter Tryz.func9, Tryz.ntmps9
    go_wp2
    go_ret
    exact ⟨rfl, _, rfl, fun h => by first | cases h | (simp at h; omega)⟩
set_option maxRecDepth 100000 in
theorem place2_any (how i : Nat) (w : World) (hh : how ≤ 2) : Calls Tryz.prog 22 #[.int .i64 how, .int .i64 i] w (fun e w' => w = w' ∧ e = .returned (.tuple #[.int .i64 ((if how = 2 then 0 else i : Nat) : Int), .int .i64 ((if how = 1 then 0 else i : Nat) : Int)])) := by
  have h : how = 0 ∨ how = 1 ∨ how = 2 := by omega
  rcases h with rfl | rfl | rfl
  all_goals
    go_enter Tryz.func22, Tryz.ntmps22
    go_wp2
    go_ret2
    exact ⟨rfl, rfl⟩
set_option maxRecDepth 100000 in
theorem answer_any (op : Nat) (c : Int) (no : Bool) (w : World) (hh : op ≤ 3) : Calls Tryz.prog 25 #[.int .i64 op, .int .i64 c, .bool no] w (fun e w' => w = w' ∧ e = .returned (.bool (ans op c no))) := by
  have h : op = 0 ∨ op = 1 ∨ op = 2 ∨ op = 3 := by omega
  rcases h with rfl | rfl | rfl | rfl <;> cases no
  all_goals
    go_enter Tryz.func25, Tryz.ntmps25
    go_wp2
    go_ret
    refine ⟨rfl, ret_bool ?_⟩
    simp [ans]
    try rfl
def nnU (x : Int) : Bool := false
def sgU (x y : Int) : Int := sgnU x y
theorem law_ansU (op : Nat) (x y : Int) : ans op (if nnU x || nnU y then 0 else sgU x y) (nnU x || nnU y) = cmpU op x y := ans_U op x y
set_option maxRecDepth 100000 in
set_option maxHeartbeats 4000000 in
theorem notNumU (x : Int) (w : World) : Calls Tryz.prog 23 #[tv 2 16 false, .agg #[.bool false, .int .u64 x, .string ⟨#[]⟩, .slice none 0 0]] w (fun e w' => e = .returned (.bool (nnU x)) ∧ Below w.heap.size w w') := by
  unfold nnU
  go_enter Tryz.func23, Tryz.ntmps23
  go_wp2
  go_ret
  exact ⟨rfl, by go_grown⟩
set_option maxRecDepth 100000 in
set_option maxHeartbeats 4000000 in
theorem in_none (x : Int) (A : Option Addr) (n c : Nat) (xs : List Int) (w : World) (h : ReadsOf (Value.int .i64) (0 : Int) w A n xs) (hx : ∀ y ∈ xs, (x == y) = false) (hn : n ≤ 1000) : Calls Tryz.prog 39 #[.int .i64 x, .slice A n c] w (fun e w' => e = .returned (.bool false) ∧ w' = w) := by
  have H := Aside0.mk h
  have HX := Aside0.mk hx
  clear h hx
  go_enter Tryz.func39, Tryz.ntmps39
  go_wp2
  go_loopw [9] (fun i wr => ∃ k : Nat, k ≤ n ∧ i = .int .i64 k ∧ wr = w) (fun i _ => n - (intOf i).toNat)
  case atStart => exact ⟨0, Nat.zero_le _, rfl, rfl⟩
  case round =>
    obtain ⟨k, hk, rfl, rfl⟩ := hrel
    by_cases hlt : k < n
    · obtain ⟨hl, _, h3⟩ := H.out
      obtain ⟨a, rfl, hc⟩ := h3 (by omega)
      have c0 := hc k hlt
      have hne : (x == xs.getD k 0) = false := HX.out _ (by rw [List.getD_eq_getElem?_getD, List.getElem?_eq_getElem (by omega)]; exact List.getElem_mem (by omega))
      generalize xs.getD k 0 = y at c0 hne
      have hne2 : ¬ x = y := by simpa using hne
      clear h3 hc hl
      go_wp2
      go_roundw
      case rel => exact ⟨k + 1, by omega, by go_num, trivial⟩
      case measure => simp [intOf]; omega
    · obtain rfl : k = n := by omega
      go_wp2
      go_ret
      exact ⟨rfl, rfl⟩
set_option maxRecDepth 100000 in
set_option maxHeartbeats 8000000 in
theorem orderU (x y : Int) (w : World) : Calls Tryz.prog 24 #[tv 2 16 false, .agg #[.bool false, .int .u64 x, .string ⟨#[]⟩, .slice none 0 0], .agg #[.bool false, .int .u64 y, .string ⟨#[]⟩, .slice none 0 0]] w (fun e w' => e = .returned (.int .i64 (sgU x y)) ∧ Below w.heap.size w w') := by
  unfold sgU sgnU
  have HI := Aside0.mk (fun (W : World) (b : Nat) (hb : b = W.heap.size) => in_none 2 (some ⟨b, 0, none⟩) 5 5 [5, 20, 4, 19, 15] (W.alloc (.cells #[.int .i64 5, .int .i64 20, .int .i64 4, .int .i64 19, .int .i64 15] 3)) ⟨rfl, by omega, fun _ => ⟨_, rfl, fun j hj => by rw [hb, add_plain, cell_of_row _ _ j _ 3 (0, 0) (heap_alloc_new W _)]; match j, hj with | 0, _ | 1, _ | 2, _ | 3, _ | 4, _ => rfl⟩⟩ (by decide) (by omega))
  have by1 : y < x → ¬ x < y := by omega
  by_cases h1 : x < y
  · go_enter Tryz.func24, Tryz.ntmps24
    go_wp2_with fail
    go_quiet (fail)
    go_wp2_with (go_at_call 39; refine (HI.out _ _ (by simp)).mono ?_; rintro e w1 ⟨rfl, rfl⟩)
    go_ret
    exact ⟨by simp [h1], by repeat (first | exact Below.refl _ _ | apply below_alloc | apply pw_below_drewN | apply below_drew1)⟩
  · by_cases h2 : y < x
    · go_enter Tryz.func24, Tryz.ntmps24
      go_wp2_with fail
      go_quiet (fail)
      go_wp2_with (go_at_call 39; refine (HI.out _ _ (by simp)).mono ?_; rintro e w1 ⟨rfl, rfl⟩)
      go_ret
      exact ⟨by simp [h1, h2], by repeat (first | exact Below.refl _ _ | apply below_alloc | apply pw_below_drewN | apply below_drew1)⟩
    · go_enter Tryz.func24, Tryz.ntmps24
      go_wp2_with fail
      go_quiet (fail)
      go_wp2_with (go_at_call 39; refine (HI.out _ _ (by simp)).mono ?_; rintro e w1 ⟨rfl, rfl⟩)
      go_ret
      exact ⟨by simp [h1, h2], by repeat (first | exact Below.refl _ _ | apply below_alloc | apply pw_below_drewN | apply below_drew1)⟩

end Go.Proofs.YtmdmpdbnnegpiaaGreatDoor.Cmp
