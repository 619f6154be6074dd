/- Digits times digits, where each has at most one: the walk. -/
import Derived.Test.YtipnmcnacgmmnaaWdTow
namespace Go.Proofs.Ytipnmcnacgmmnaa.WidemagDiv
open Go.RowKit Go.Proofs.Ytipnmcnacgmmnaa.PmagDiv Go.Proofs.YtipnmcnacgmmnaaW.PrintWords Go.Proofs.YtipnmcnacgmmnaaW.PrintLast Go.Proofs.YtipnmcnacgmmnaaW.PrintMore
set_option linter.unusedVariables false
set_option linter.unusedSimpArgs false

/-- The block of the digits that are made, as they stand. -/
def BkR (w : World) (out : List Int) (W : World) : Prop := W.heap[w.heap.size]? = some (.cells (nums .u32 out).toArray 39 (0, 0)) ∧ Below w.heap.size w W
theorem BkR.start (w : World) (m : Nat) : BkR w (List.replicate m 0) (w.alloc (.cells (madeCells #[.int .u32 0] m) 39)) := by
  refine ⟨(heap_alloc_new w _).trans ?_, (Below.refl _ _).alloc (Nat.le_refl _) _⟩
  have hl : madeCells #[Value.int .u32 0] m = (nums .u32 (List.replicate m 0)).toArray := by
    apply Array.toList_inj.1
    apply List.ext_getElem
    · simp [nums, madeCells]
    · intro i h1 h2
      simp [nums, madeCells, Nat.mod_one]
  rw [hl]
theorem BkR.set {w W : World} {out : List Int} (h : BkR w out W) (k : Nat) (y : Int) : BkR w (out.set k y) (W.setCell ⟨w.heap.size, k, none⟩ (.int .u32 y)) := by
  refine ⟨?_, h.2.setCell (Nat.le_refl _) _⟩
  simp only [World.setCell, Array.getElem?_modify, if_pos, h.1]
  simp [nums, List.map_set]
theorem BkR.drew {w W : World} {out : List Int} (h : BkR w out W) : BkR w out W.drew := ⟨h.1, h.2.drew⟩
theorem BkR.cell {w W : World} {out : List Int} (h : BkR w out W) (k : Nat) (hk : k < out.length) : W.cell? ⟨w.heap.size, k, none⟩ = some (.int .u32 (rd out (k : Int))) ∧ W.frozen? ⟨w.heap.size, k, none⟩ = false := by
  refine ⟨?_, by simp [World.frozen?, h.1]⟩
  rw [cell_of_row W w.heap.size k _ 39 (0, 0) h.1, rd_lt out k hk]
  simp [nums, hk]
theorem BkR.sl {P : Nat → Prop} {w W : World} {out : List Int} {m : Nat} (h : BkR w out W) (hm : out.length = m) (hl : m ≤ 1000000) : Sl (fun k => P k ∨ w.heap.size ≤ k) W (.slice (some ⟨w.heap.size, 0, none⟩) m m) out :=
  Sl.lit_ W w.heap.size 39 m out hm h.1 (.inr (Nat.le_refl _)) hl

theorem mul_bd {x y : Int} (hx : 0 ≤ x ∧ x ≤ 4294967295) (hy : 0 ≤ y ∧ y ≤ 4294967295) : 0 ≤ x * y ∧ x * y ≤ 18446744065119617025 := by
  refine ⟨Int.mul_nonneg hx.1 hy.1, ?_⟩
  have h1 := Int.mul_le_mul hx.2 hy.2 hy.1 (by omega)
  omega
theorem mul_words {x y : Int} (hx : 0 ≤ x ∧ x ≤ 4294967295) (hy : 0 ≤ y ∧ y ≤ 4294967295) :
    IntKind.u64.wrap (IntKind.u64.wrap (IntKind.u64.wrap (x * y))) / 4294967296 = x * y / 4294967296 ∧ IntKind.u64.wrap (IntKind.u64.wrap (IntKind.u64.wrap (x * y))) % 4294967296 = x * y % 4294967296 := by
  obtain ⟨h0, h1⟩ := mul_bd hx hy
  have e : IntKind.u64.wrap (x * y) = x * y := by rw [u64m]; omega
  rw [e, e, e]
  exact ⟨rfl, rfl⟩
theorem mul_out {x y c d : Int} (hx : 0 ≤ x ∧ x ≤ 4294967295) (hy : 0 ≤ y ∧ y ≤ 4294967295) (h : c = x * y / 4294967296 ∧ d = x * y % 4294967296) :
    ([d, 0].set 1 (c % 4294967296)).length = 2 ∧ mag ([d, 0].set 1 (c % 4294967296)) = x * y ∧ Dig ([d, 0].set 1 (c % 4294967296)) := by
  obtain ⟨h0, h1⟩ := mul_bd hx hy
  obtain ⟨rfl, rfl⟩ := h
  refine ⟨rfl, ?_, Dig.mk_cons (by omega) (Dig.mk_cons (by omega) Dig.nil)⟩
  show x * y % 4294967296 + 4294967296 * (x * y / 4294967296 % 4294967296 + 4294967296 * 0) = x * y
  omega

set_option maxRecDepth 100000 in
set_option maxHeartbeats 4000000 in
theorem magMul_11 (P : Nat → Prop) (A1 : Option Addr) (c1 : Nat) (A2 : Option Addr) (c2 : Nat) (x y : Int) (w : World) (h1 : Sl P w (.slice A1 1 c1) [x]) (h2 : Sl P w (.slice A2 1 c2) [y]) (hx : 0 ≤ x ∧ x ≤ 4294967295) (hy : 0 ≤ y ∧ y ≤ 4294967295) :
    Calls Try.prog 28 #[.slice A1 1 c1, .slice A2 1 c2] w (RetSl P w fun r => mag r = x * y ∧ Dig r ∧ r.length ≤ 2) := by
  have hmk := print_make (P := Try.prog) 23 39 .u32 4 Try.underlying23 (by kernel_rfl) (by omega) 2 (by omega)
  rw [show ((2 : Nat) : Int) = 2 from rfl] at hmk
  have HC1 := Aside0.mk (Sl.digits (l := [x]) h1)
  have HC2 := Aside0.mk (Sl.digits (l := [y]) h2)
  have HB0 := Aside0.mk (BkR.start w 2)
  clear h1 h2
  go_enter Try.func28, Try.ntmps28
  go_wp2_with fail
  go_loopw [17] (fun i W => (i = .int .i64 0 ∧ Aside0 (BkR w [0, 0] W)) ∨ (i = .int .i64 1 ∧ ∃ out, Aside0 (out.length = 2 ∧ mag out = x * y ∧ Dig out) ∧ Aside0 (BkR w out W))) (fun i _ => 1 - (intOf i).toNat)
  case atStart => exact .inl ⟨rfl, HB0⟩
  case round =>
    rcases hrel with ⟨rfl, HB⟩ | ⟨rfl, HB⟩
    · clear HB0
      go_wp2_with fail
      go_loopw [22, 7] (fun k cy W => (k = .int .i64 0 ∧ cy = .int .u64 0 ∧ Aside0 (BkR w [0, 0] W)) ∨ (k = .int .i64 1 ∧ ∃ c d, cy = .int .u64 c ∧ Aside0 (c = x * y / 4294967296 ∧ d = x * y % 4294967296) ∧ Aside0 (BkR w [d, 0] W))) (fun k _ _ => 1 - (intOf k).toNat)
      case atStart => exact .inl ⟨rfl, rfl, HB⟩
      case round =>
        clear HB
        rcases hrel with ⟨rfl, rfl, HB⟩ | ⟨rfl, c, d, rfl, HE, HB⟩
        · obtain ⟨c0, f0⟩ := HB.out.cell 0 (by simp)
          obtain ⟨ad1, ea1, ha1⟩ := Kd.at_int (Kd.C_below HC1.out HB.out.2) 0 (by omega) (by simp)
          obtain ⟨ad2, ea2, ha2⟩ := Kd.at_int (Kd.C_below HC2.out HB.out.2) 0 (by omega) (by simp)
          subst ea1
          subst ea2
          rw [show ((0 : Int)).toNat = 0 from rfl, Addr.add_zero', show rd [x] 0 = x from rfl] at ha1
          rw [show ((0 : Int)).toNat = 0 from rfl, Addr.add_zero', show rd [y] 0 = y from rfl] at ha2
          rw [show rd [0, 0] ((0 : Nat) : Int) = 0 from rfl] at c0
          go_wp2_with fail
          go_region
          go_wp2_with fail
          go_roundw
          case rel => exact .inr ⟨rfl, _, _, rfl, ⟨mul_words hx hy⟩, ⟨(HB.out.set 0 _).drew⟩⟩
          case measure => simp [intOf]
        · obtain ⟨c1', f1'⟩ := HB.out.cell 1 (by simp)
          rw [show rd [d, 0] ((1 : Nat) : Int) = 0 from rfl] at c1'
          go_wp2_with fail
          go_roundw
          case rel => exact .inr ⟨rfl, _, ⟨mul_out hx hy HE.out⟩, ⟨HB.out.set 1 _⟩⟩
          case measure => simp [intOf]
    · obtain ⟨out, HO, HB⟩ := HB
      clear HB0
      go_wp2_with (go_at_call 32; refine (trim_any _ _ out _ (HB.out.sl (P := P) HO.out.1 (by omega)) (by have := HO.out.1; omega)).mono ?_; rintro e w4 ⟨v4, r, rfl, hS4, hp4, hb4⟩; have HS4 := Aside0.mk hS4; have HP4 := Aside0.mk hp4; clear hS4 hp4)
      go_ret
      exact ⟨_, r, rfl, HS4.out.mono (fun k hk => by rcases hk with (h | h) | h; exact .inl h; exact .inr h; exact .inr (Nat.le_trans HB.out.2.size h)), ⟨by rw [HP4.out.1, HO.out.2.1], HP4.out.2.2.2 HO.out.2.2, by have := HP4.out.2.2.1; have := HO.out.1; omega⟩, HB.out.2.trans (hb4.mono HB.out.2.size)⟩

set_option maxRecDepth 100000 in
set_option maxHeartbeats 4000000 in
theorem magMul_0m (P : Nat → Prop) (A1 : Option Addr) (c1 : Nat) (A2 : Option Addr) (c2 : Nat) (m : Nat) (w : World) (hm : m ≤ 1000) :
    Calls Try.prog 28 #[.slice A1 0 c1, .slice A2 m c2] w (RetSl P w fun r => mag r = 0 ∧ Dig r ∧ r.length ≤ m) := by
  have hmk := print_make (P := Try.prog) 23 39 .u32 4 Try.underlying23 (by kernel_rfl) (by omega) m (by omega)
  have HB0 := Aside0.mk (BkR.start w m)
  go_enter Try.func28, Try.ntmps28
  go_wp2_with fail
  go_loopw [17] (fun i W => i = .int .i64 0 ∧ Aside0 (BkR w (List.replicate m 0) W)) (fun i _ => 1 - (intOf i).toNat)
  case atStart => exact ⟨rfl, HB0⟩
  case round =>
    obtain ⟨rfl, HB⟩ := hrel
    clear HB0
    go_wp2_with (go_at_call 32; refine (trim_any _ _ (List.replicate m 0) _ (HB.out.sl (P := P) (List.length_replicate ..) (by omega)) (by rw [List.length_replicate]; omega)).mono ?_; rintro e w4 ⟨v4, r, rfl, hS4, hp4, hb4⟩; have HS4 := Aside0.mk hS4; have HP4 := Aside0.mk hp4; clear hS4 hp4)
    go_ret
    exact ⟨_, r, rfl, HS4.out.mono (fun k hk => by rcases hk with (h | h) | h; exact .inl h; exact .inr h; exact .inr (Nat.le_trans HB.out.2.size h)), ⟨by rw [HP4.out.1, mag_zeros], HP4.out.2.2.2 (fun x hx => by rw [List.mem_replicate] at hx; omega), by have := HP4.out.2.2.1; rwa [List.length_replicate] at this⟩, HB.out.2.trans (hb4.mono HB.out.2.size)⟩

set_option maxRecDepth 100000 in
set_option maxHeartbeats 4000000 in
theorem magMul_10 (P : Nat → Prop) (A1 : Option Addr) (c1 : Nat) (A2 : Option Addr) (c2 : Nat) (w : World) :
    Calls Try.prog 28 #[.slice A1 1 c1, .slice A2 0 c2] w (RetSl P w fun r => mag r = 0 ∧ Dig r ∧ r.length ≤ 1) := by
  have hmk := print_make (P := Try.prog) 23 39 .u32 4 Try.underlying23 (by kernel_rfl) (by omega) 1 (by omega)
  rw [show ((1 : Nat) : Int) = 1 from rfl] at hmk
  have HB0 := Aside0.mk (BkR.start w 1)
  go_enter Try.func28, Try.ntmps28
  go_wp2_with fail
  go_loopw [17] (fun i W => (i = .int .i64 0 ∧ Aside0 (BkR w [0] W)) ∨ (i = .int .i64 1 ∧ Aside0 (BkR w [0] W))) (fun i _ => 1 - (intOf i).toNat)
  case atStart => exact .inl ⟨rfl, HB0⟩
  case round =>
    rcases hrel with ⟨rfl, HB⟩ | ⟨rfl, HB⟩
    · clear HB0
      go_wp2_with fail
      go_loopw [22, 7] (fun k cy W => k = .int .i64 0 ∧ cy = .int .u64 0 ∧ Aside0 (BkR w [0] W)) (fun k _ _ => 1 - (intOf k).toNat)
      case atStart => exact ⟨rfl, rfl, HB⟩
      case round =>
        clear HB
        obtain ⟨rfl, rfl, HB⟩ := hrel
        obtain ⟨c0, f0⟩ := HB.out.cell 0 (by simp)
        rw [show rd [0] ((0 : Nat) : Int) = 0 from rfl] at c0
        go_wp2_with fail
        go_roundw
        case rel => exact .inr ⟨rfl, ⟨HB.out.set 0 _⟩⟩
        case measure => simp [intOf]
    · clear HB0
      go_wp2_with (go_at_call 32; refine (trim_any _ _ [0] _ (HB.out.sl (P := P) (m := 1) rfl (by omega)) (by simp)).mono ?_; rintro e w4 ⟨v4, r, rfl, hS4, hp4, hb4⟩; have HS4 := Aside0.mk hS4; have HP4 := Aside0.mk hp4; clear hS4 hp4)
      go_ret
      exact ⟨_, r, rfl, HS4.out.mono (fun k hk => by rcases hk with (h | h) | h; exact .inl h; exact .inr h; exact .inr (Nat.le_trans HB.out.2.size h)), ⟨by rw [HP4.out.1]; rfl, HP4.out.2.2.2 (Dig.mk_cons (by omega) Dig.nil), HP4.out.2.2.1⟩, HB.out.2.trans (hb4.mono HB.out.2.size)⟩

theorem RetSl.imp {P : Nat → Prop} {w : World} {p q : List Int → Prop} (h : ∀ r, p r → q r) (e : Ending) (w' : World) (hr : RetSl P w p e w') : RetSl P w q e w' := by
  obtain ⟨v, r, h1, h2, h3, h4⟩ := hr
  exact ⟨v, r, h1, h2, h _ h3, h4⟩
theorem magMul_small (P : Nat → Prop) (v1 v2 : Value) (l1 l2 : List Int) (w : World) (h1 : Sl P w v1 l1) (h2 : Sl P w v2 l2) (d1 : Dig l1) (d2 : Dig l2) (n1 : l1.length ≤ 1) (n2 : l2.length ≤ 1) :
    Calls Try.prog 28 #[v1, v2] w (RetSl P w fun r => mag r = mag l1 * mag l2 ∧ Dig r ∧ r.length ≤ 2) := by
  obtain ⟨A1, c1, rfl, _, _⟩ := h1.shape
  obtain ⟨A2, c2, rfl, _, _⟩ := h2.shape
  match l1, l2, h1, h2, d1, d2, n1, n2 with
  | [], l2, _, _, _, _, _, n2 => exact (magMul_0m P A1 c1 A2 c2 l2.length w (by omega)).mono (RetSl.imp fun r h => ⟨by rw [h.1]; simp [mag], h.2.1, by have := h.2.2; omega⟩)
  | [x], [], _, _, _, _, _, _ => exact (magMul_10 P A1 c1 A2 c2 w).mono (RetSl.imp fun r h => ⟨by rw [h.1]; simp [mag], h.2.1, by have := h.2.2; omega⟩)
  | [x], [y], h1, h2, d1, d2, _, _ => exact (magMul_11 P A1 c1 A2 c2 x y w h1 h2 d1.cons.1 d2.cons.1).mono (RetSl.imp fun r h => ⟨by rw [h.1]; simp [mag], h.2⟩)

theorem one_digit {l : List Int} {x : Int} (h : Rep false l x) (hx : x ≤ 4294967295) : l.length ≤ 1 := by
  have p1 := h.pos rfl
  by_cases e : l = []
  · subst e; simp
  · have h := mag_ge h.dig h.nrm e
    rcases Nat.lt_or_ge 1 l.length with hl | hl
    · have := pw_mono (show 1 ≤ l.length - 1 by omega)
      have e1 : pw 1 = 4294967296 := rfl
      omega
    · exact hl

end Go.Proofs.Ytipnmcnacgmmnaa.WidemagDiv
