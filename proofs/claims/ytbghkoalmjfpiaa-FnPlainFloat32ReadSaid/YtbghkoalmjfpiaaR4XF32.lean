/- The decoder of numbers: what it reads and what it leaves out. -/
import Derived.Test.YtbghkoalmjfpiaaR4W
import Derived.Test.YtbghkoalmjfpiaaR4I
import Derived.Laws.Externs
import Derived.Laws.CopyOwn
namespace Go.Proofs.Ytbghkoalmjfpiaa.Plain
open Go.RowKit Go.Proofs.YtbghkoalmjfpiaaW.PrintWords Go.Proofs.YtbghkoalmjfpiaaW.PrintLast Go.Proofs.YtbghkoalmjfpiaaW.PrintMore Go.Proofs.Ytbghkoalmjfpiaa.PBatchedValues
set_option linter.unusedVariables false
set_option linter.unusedSimpArgs false

abbrev encF32 (v : V) : List Int := le v.num 4
def mkF32 (wd : Int) (nv : Nat) (s : Value) : Array Value := #[.int .i64 nv, s, .int .i64 wd, .nilIface]
/-- What the laws ask of the values. -/
def OkF32 (wd : Nat) (l : List V) : Prop := wd = 0 ∧ True ∧ l.length ≤ 500 ∧ ∀ v ∈ l, 0 ≤ v.num ∧ v.num < 18446744073709551616
theorem OkF32.drop {wd : Nat} {l : List V} (h : OkF32 wd l) (k : Nat) : OkF32 wd (l.drop k) := ⟨h.1, h.2.1, by have := h.2.2.1; rw [List.length_drop]; omega, fun v hv => h.2.2.2 v (List.mem_of_mem_drop hv)⟩
theorem flatF32_len (l : List V) : (l.flatMap encF32).length = l.length * 4 := by
  induction l with
  | nil => rfl
  | cons v l ih => rw [List.flatMap_cons, List.length_append, ih, le_len, List.length_cons]; omega
theorem DB.cellsF32 {T : TypeId} {wd : Int} {W wr : World} {g nv : Nat} {bs : List Int} {A : Option Addr} {c : Nat} (h : DB T (mkF32 wd) W g wr nv bs A c) :
    wr.cell? ⟨g, 0, none⟩ = some (.int .i64 nv) ∧ wr.cell? ⟨g, 1, none⟩ = some (.slice A bs.length c) ∧ (∀ i, wr.frozen? ⟨g, i, none⟩ = false) :=
  ⟨blk_cell h.blk 0, blk_cell h.blk 1, blk_frozen h.blk⟩
set_option maxRecDepth 100000 in
theorem widthF32 (w : World) : Calls Try.prog 96 #[] w fun e w' => e = .returned (.int .i64 4) ∧ w = w' := by
  have ta21 := fun (v : Value) (W : World) => ta_no (P := Try.prog) (t := 113) (a := 21) (xT := 20) v (.int .i32 0) (by kernel_rfl) (by kernel_rfl) (by decide) W
  have ta113 := fun (v : Value) (W : World) => ta_yes (P := Try.prog) (t := 113) (xT := 20) v (by kernel_rfl) W
  have ta2 := fun (v : Value) (W : World) => ta_no (P := Try.prog) (t := 113) (a := 2) (xT := 20) v (.int .i64 0) (by kernel_rfl) (by kernel_rfl) (by decide) W
  have ta123 := fun (v : Value) (W : World) => ta_no (P := Try.prog) (t := 113) (a := 123) (xT := 20) v (.float .f64 0) (by kernel_rfl) (by kernel_rfl) (by decide) W
  go_enter Try.func96, Try.ntmps96
  go_wp2
  go_ret
  exact ⟨rfl, rfl⟩
set_option maxRecDepth 100000 in
theorem reqF32 (n : Nat) (w : World) (h : n ≤ 1000) : Calls Try.prog 84 #[.int .i64 n] w fun e w' => e = .returned (.int .i64 ((n * 4 : Nat) : Int)) ∧ w = w' := by
  have e : ((n * 4 : Nat) : Int) = (n : Int) * 4 := by omega
  rw [e]
  clear e
  go_enter Try.func84, Try.ntmps84
  go_wp2_with (go_at_call 96; (with_reducible refine (widthF32 _).mono ?_); rintro e w1 ⟨rfl, rfl⟩)
  go_ret
  exact ⟨rfl, rfl⟩
/-- What is left of a row of bytes behind its j first ones, at one world. -/
theorem cut_at {w : World} {A : Option Addr} {n : Nat} {xs : List Int} (h : ReadsOf (Value.int .u8) (0 : Int) w A n xs) (c j : Nat) (hj : j ≤ n) (hc : n ≤ c) :
    ∃ A', (∀ W : World, (Instr.slice 26 (.slice A n c) (some (.int .i64 (j : Int))) none none).run Try.prog W = .ok (.slice A' (n - j) (c - j)) W) ∧ ∀ w1, Below w.heap.size w w1 → ReadsOf (Value.int .u8) (0 : Int) w1 A' (n - j) (xs.drop j) := by
  obtain ⟨i, hi, hs⟩ := info5p
  obtain ⟨rfl, _⟩ : xs.length = n ∧ True := ⟨h.1, trivial⟩
  obtain ⟨A', h1, h2, h3⟩ := print_drop_of (P := Try.prog) (Value.int .u8) 0 26 5 .i64 Try.underlying26 hi hs A c xs (j : Int) (by omega) (by omega) hc
  simp only [Int.toNat_natCast, List.length_drop] at h1 h2 h3
  exact ⟨A', h1, fun w1 hb => h2 w1 (ReadsOf.below h hb)⟩
attribute [local go_sem] run_store_float
/-- What is read of a number's bytes. -/
def lowF32 (x : Int) : Int := x % 4294967296
def dxF32 (x : Int) : Nat := (lowF32 x).toNat
theorem le_lowF32 (x : Int) : le x 4 = le (lowF32 x) 4 := by
  rw [le4_list, le4_list]
  simp [byteAt, lowF32]
  omega
theorem lowF32_range (x : Int) (h0 : 0 ≤ x) (h1 : x < 18446744073709551616) : 0 ≤ lowF32 x ∧ lowF32 x < 4294967296 := by unfold lowF32; omega
set_option maxRecDepth 100000 in
set_option maxHeartbeats 4000000 in
theorem getF32 (A : Option Addr) (n c i : Nat) (xs : List Int) (x : Int) (w : World) (h : ReadsOf (Value.int .u8) (0 : Int) w A n xs) (hc : n ≤ c) (hi : 4 * i + 4 ≤ n) (hn : n ≤ 1000000) (hx : (xs.drop (4 * i)).take 4 = le x 4) (h0 : 0 ≤ x) (h1 : x < 18446744073709551616) :
    Calls Try.prog 103 #[.slice A n c, .int .i64 i] w fun e w' => e = .returned (.float .f32 (dxF32 x)) ∧ Below w.heap.size w w' := by
  obtain ⟨A', hcut, hrd⟩ := cut_at h c (4 * i) (by omega) hc
  have e : ((4 * i : Nat) : Int) = 4 * (i : Int) := by omega
  rw [e] at hcut
  have HRD := Aside0.mk hrd
  have HX := Aside0.mk hx
  have hin : (i : Int) ≤ 1000000 := by omega
  have hi0 : (0 : Int) ≤ 4 * (i : Int) := by omega
  have hin2 : 4 * (i : Int) ≤ (n : Int) := by omega
  have hwr : IntKind.i64.wrap (4 * (i : Int)) = 4 * (i : Int) := by rw [IntKind.wrap_i64]; omega
  clear h hx hrd e
  have ta166 := fun (v : Value) (W : World) => ta_no (P := Try.prog) (t := 169) (a := 166) (xT := 20) v (.pointer none) (by kernel_rfl) (by kernel_rfl) (by decide) W
  have ta167 := fun (v : Value) (W : World) => ta_no (P := Try.prog) (t := 169) (a := 167) (xT := 20) v (.pointer none) (by kernel_rfl) (by kernel_rfl) (by decide) W
  have ta169 := fun (v : Value) (W : World) => ta_yes (P := Try.prog) (t := 169) (xT := 20) v (by kernel_rfl) W
  have ta171 := fun (v : Value) (W : World) => ta_no (P := Try.prog) (t := 169) (a := 171) (xT := 20) v (.pointer none) (by kernel_rfl) (by kernel_rfl) (by decide) W
  have ta173 := fun (v : Value) (W : World) => ta_no (P := Try.prog) (t := 169) (a := 173) (xT := 20) v (.pointer none) (by kernel_rfl) (by kernel_rfl) (by decide) W
  have hfb := fun (n : Int) (W : World) => from32 n W
  go_enter Try.func103, Try.ntmps103
  go_wp2_with fail
  go_region_held3 (fun w' => True) (trivial) (first | (go_at_call 77; refine (uint32_le A' (n - 4 * i) (c - 4 * i) (xs.drop (4 * i)) (lowF32 x) _ (HRD.out _ (((Below.refl _ _).alloc (Nat.le_refl _) _).drew)) (by omega) (by rw [HX.out]; exact le_lowF32 x) (lowF32_range x h0 h1).1 (lowF32_range x h0 h1).2).mono ?_; rintro e w3 ⟨rfl, hb3⟩; have k3 : w3.heap[w.heap.size]? = some (.cells #[.float .f32 0] 113 (0, 0)) := (hb3.block _ (by simp)).trans (heap_alloc_new w _); have f0 : w3.cell? ⟨w.heap.size, 0, none⟩ = some (.float .f32 0) := blk_cell k3 0; have z0 := blk_frozen k3 0; have HB3 := Aside0.mk (show Below w.heap.size w w3 from (((Below.refl _ _).alloc (Nat.le_refl _) _).drew).trans (hb3.mono (by simp))); clear hb3 k3))
  go_wp2
  have k5 : ((w3.setCell ⟨w.heap.size, 0, none⟩ (.float .f32 ((lowF32 x).toNat))).setCell ⟨w.heap.size, 0, none⟩ (.float .f32 ((lowF32 x).toNat))).cell? ⟨w.heap.size, 0, none⟩ = some (.float .f32 ((lowF32 x).toNat)) := cell_twice f0
  exact bodyPost_ret (v := .float .f32 ((lowF32 x).toNat)) (by simp [results, Try.results103, go_sem, k5]) rfl ⟨rfl, (HB3.out.setCell (p := ⟨w.heap.size, 0, none⟩) (Nat.le_refl _) _).setCell (p := ⟨w.heap.size, 0, none⟩) (Nat.le_refl _) _⟩
/-! ### rows of numbers -/
def cellEF32 (x : Nat) : Value := .float .f32 x
def decVF32 (v : V) : Nat := dxF32 v.num
theorem req_atF32 (n p : Nat) (hp : n * 4 = p) (w : World) (h : n ≤ 1000) : Calls Try.prog 84 #[.int .i64 n] w fun e w' => e = .returned (.int .i64 p) ∧ w = w' := by
  subst hp
  exact reqF32 n w h
theorem req_oneF32 (w : World) : Calls Try.prog 84 #[.int .i64 1] w fun e w' => e = .returned (.int .i64 4) ∧ w = w' := reqF32 1 w (by omega)
theorem flatF32_drop (l : List V) (k : Nat) (h : k ≤ l.length) : (l.flatMap encF32).drop (4 * k) = (l.drop k).flatMap encF32 := by
  have e1 : l.flatMap encF32 = (l.take k).flatMap encF32 ++ (l.drop k).flatMap encF32 := by rw [← List.flatMap_append, List.take_append_drop]
  have e2 : ((l.take k).flatMap encF32).length = 4 * k := by rw [flatF32_len, List.length_take, Nat.min_eq_left h]; omega
  rw [e1, ← e2, List.drop_left]
theorem flatF32_at (l : List V) (k : Nat) (h : k < l.length) : ((l.flatMap encF32).drop (4 * k)).take 4 = le (gv l k).num 4 := by
  rw [flatF32_drop l k (by omega)]
  have := flat_take0 encF32 l k h
  rwa [le_len] at this
theorem infoNF32 : (Try.prog.info? 113).map (fun i => (i.zero, i.size, i.bytes)) = some (some (.float .f32 0), 1, 4) := by kernel_rfl
/-- A new row of numbers. -/
def NewRowF32 (l : List V) (m : Nat) (w : World) (e : Ending) (w' : World) : Prop :=
  ∃ p, e = .returned (.slice (some ⟨p, 0, none⟩) m m) ∧ w.heap.size ≤ p ∧ w'.heap[p]? = some (.cells ((l.map decVF32).map cellEF32).toArray 113 (0, 0)) ∧ Below w.heap.size w w'
set_option maxRecDepth 100000 in
set_option maxHeartbeats 8000000 in
theorem fromF32 (A : Option Addr) (n m c : Nat) (l : List V) (w : World) (h : ReadsOf (Value.int .u8) (0 : Int) w A n (l.flatMap encF32)) (hc : n ≤ c) (hm : l.length = m) (hn : n = m * 4) (hms : m ≤ 500) (hr : ∀ v ∈ l, 0 ≤ v.num ∧ v.num < 18446744073709551616) :
    Calls Try.prog 97 #[.slice A n c] w (NewRowF32 l m w) := by
  have hq : (n : Int) / 4 = (m : Int) := by omega
  have hnb : n ≤ 1000000 := by omega
  have hmk := print_make_of (P := Try.prog) 115 113 (.float .f32 0) 4 Try.underlying115 infoNF32 rfl (by omega) m (by omega)
  have hx0 : 0 ≤ (m : Int) := by omega
  have HH := Aside0.mk h
  have HR := Aside0.mk hr
  have HM := Aside0.mk hm
  have HN := Aside0.mk hn
  clear h hr hm hn
  go_enter Try.func97, Try.ntmps97
  go_wp2_with (go_at_call 84; (with_reducible refine (req_oneF32 _).mono ?_); rintro e w1 ⟨rfl, rfl⟩)
  have hqf : madeCells #[.float .f32 0] m = ((fill ([] : List Nat) (0 : Nat) m).map cellEF32).toArray := made_fill cellEF32 (0 : Nat) m
  go_loopw [12] (fun i wr => ∃ k : Nat, k ≤ m ∧ i = .int .i64 k ∧ Aside0 (wr.heap[w.heap.size]? = some (.cells ((fill ((l.take k).map decVF32) (0 : Nat) m).map cellEF32).toArray 113 (0, 0))) ∧ Aside0 (Below w.heap.size w wr)) (fun i _ => m - (intOf i).toNat)
  case atStart => exact ⟨0, Nat.zero_le _, rfl, ⟨by rw [List.take_zero, List.map_nil, ← hqf]; exact heap_alloc_new _ _⟩, ⟨(Below.refl _ _).alloc (Nat.le_refl _) _⟩⟩
  case round =>
    clear hqf hmk
    obtain ⟨k, hk, rfl, HQ, HB⟩ := hrel
    by_cases hlt : k < m
    · have hkl : k < l.length := by have := HM.out; omega
      have hyl : ((l.take k).map decVF32).length = k := by rw [List.length_map, List.length_take]; omega
      obtain ⟨x0, x1⟩ := HR.out _ (gv_mem hkl)
      have hfa := flatF32_at l k hkl
      have HS := Aside0.mk (show (l.take (k + 1)).map decVF32 = (l.take k).map decVF32 ++ [dxF32 (gv l k).num] by rw [take_snoc l k hkl, List.map_append]; rfl)
      have HG := Aside0.mk (fun W (hb : Below w.heap.size w W) => getF32 A n c k (l.flatMap encF32) (gv l k).num W (ReadsOf.below HH.out hb) hc (by have := HN.out; omega) hnb hfa x0 x1)
      have hql : w.heap.size < wr.heap.size := block_lt HQ.out
      have HYL := Aside0.mk hyl
      generalize (gv l k).num = x at HS HG
      clear hfa x0 x1 hyl
      go_wp2_with (go_at_call 103; (with_reducible refine (HG.out _ HB.out).mono ?_); rintro e w3 ⟨rfl, hb3⟩; have hq4 : w3.heap[w.heap.size]? = some (.cells ((fill ((l.take k).map decVF32) (0 : Nat) m).map cellEF32).toArray 113 (0, 0)) := (hb3.block _ hql).trans HQ.out; have HQ4 := Aside0.mk hq4; have hq0 : w3.cell? ⟨w.heap.size, k, none⟩ = some (.float .f32 0) := (by have h1 := fill_cell cellEF32 ((l.take k).map decVF32) (0 : Nat) m (by rw [HYL.out]; exact hlt); rw [HYL.out] at h1; rw [blk_cell hq4 k]; exact h1); have hqz := blk_frozen hq4 k; have HB3 := Aside0.mk (HB.out.trans (hb3.mono HB.out.size)); clear hb3 hq4)
      go_roundw
      case rel =>
        refine ⟨k + 1, by omega, by go_num, ⟨?_⟩, ⟨HB3.out.setCell (by show w.heap.size ≤ w.heap.size; omega) _⟩⟩
        have h1 := blk_set HQ4.out k (cellEF32 (dxF32 x))
        have h2 := fill_put cellEF32 ((l.take k).map decVF32) (0 : Nat) (dxF32 x) m (by rw [HYL.out]; exact hlt)
        rw [HYL.out] at h2
        rw [h2] at h1
        rw [HS.out]
        exact h1
      case measure => simp [intOf]; omega
    · obtain rfl : k = m := by omega
      go_wp2
      go_ret
      refine ⟨w.heap.size, rfl, Nat.le_refl _, ?_, HB.out⟩
      have h1 := HQ.out
      have h2 := HM.out
      rw [List.take_of_length_le (by omega)] at h1
      have h3 : (l.map decVF32).length = k := by rw [List.length_map]; exact h2
      rw [← h3, fill_all] at h1
      exact h1
theorem splice_all {α : Type} (cur cs : List α) (h : cs.length = cur.length) : splice cur 0 cs = cs := by
  simp [splice, h]
set_option maxRecDepth 100000 in
set_option maxHeartbeats 8000000 in
theorem copyFromF32 (A : Option Addr) (n m c q : Nat) (l : List V) (w : World) (h : ReadsOf (Value.int .u8) (0 : Int) w A n (l.flatMap encF32)) (hc : n ≤ c) (hm : l.length = m) (hn : n = m * 4) (hms : m ≤ 500) (hr : ∀ v ∈ l, 0 ≤ v.num ∧ v.num < 18446744073709551616)
    (hq : w.heap[q]? = some (.cells ((fill ([] : List Nat) (0 : Nat) m).map cellEF32).toArray 113 (0, 0))) :
    Calls Try.prog 85 #[.slice (some ⟨q, 0, none⟩) m m, .slice A n c] w fun e w' => e = .returned (.tuple #[]) ∧ w'.heap[q]? = some (.cells ((l.map decVF32).map cellEF32).toArray 113 (0, 0)) ∧ Below q w w' := by
  have HF := Aside0.mk (fromF32 A n m c l w h hc hm hn hms hr)
  have HQ := Aside0.mk hq
  have HM := Aside0.mk hm
  have hql : q < w.heap.size := block_lt hq
  clear h hr hq hm hn
  go_enter Try.func85, Try.ntmps85
  go_wp2_with (first | (go_at_call 97; (with_reducible refine HF.out.mono ?_); rintro e w1 ⟨p, rfl, hp, hh, hb⟩; have HP := Aside0.mk hh; have HB := Aside0.mk hb; clear hh hb) | (have hg := HP.out; clear hg; (with_reducible show wpList _ _ _ _ _ _); refine wpList_copy_splice rfl (.tmp 4) (.tmp 6) 115 115 rfl 113 Try.underlying115 (by kernel_rfl) (some ⟨q, 0, none⟩) (some ⟨p, 0, none⟩) m m m m rfl rfl q 0 ((fill ([] : List Nat) (0 : Nat) m).map cellEF32) 113 ((HB.out.block q hql).trans HQ.out) ((l.map decVF32).map cellEF32) (by rw [List.length_map, List.length_map, HM.out]; exact (Nat.min_self m).symm) (fun _ => ⟨rfl, ⟨p, 0, none⟩, rfl, fun j v hj => by rw [add_plain, blk_cell HP.out j]; simpa using hj⟩) (by rw [List.length_map, List.length_map, List.length_map, HM.out, fill_len _ _ _ (Nat.zero_le _)]; omega) (fun v hv => by obtain ⟨x, _, rfl⟩ := List.mem_map.1 hv; rfl) q w (HB.out.mono (by omega)) (Nat.le_refl _) ?_; intro w' hh hb'))
  go_end0
  refine ⟨rfl, ?_, hb'⟩
  have h1 : w'.heap[q]? = _ := hh
  rw [splice_all _ _ (by rw [List.length_map, List.length_map, List.length_map, HM.out, fill_len _ _ _ (Nat.zero_le _)])] at h1
  first | exact h1 | (rw [List.map_map] at h1; exact h1)
/-! ### the decoder's calls -/
theorem mulF32 {n m : Nat} (h : n ≤ m) (hm : m ≤ 500) : n * 4 ≤ 20000 ∧ n * 4 ≤ m * 4 := by omega
set_option maxRecDepth 100000 in
set_option maxHeartbeats 4000000 in
theorem dis0F32 (k p g c nv : Nat) (A : Option Addr) (bs : List Int) (W w : World) (hk : k ≤ nv) (hn : nv ≤ 500) (hp : k * 4 = p) (hpb : p ≤ bs.length) (hps : p ≤ 1000000) (h : DB 114 (mkF32 0) W g w nv bs A c) :
    Calls Try.prog 63 #[.pointer (some ⟨g, 0, none⟩), .int .i64 k] w (Went 114 (mkF32 0) W g nv k (bs.drop p) w) := by
  obtain ⟨f0, f1, fz⟩ := h.cellsF32
  obtain ⟨A', hcut, hrd, hle⟩ := h.rd.cut c p hpb h.le
  have hd1 : decide ((2147483647 : Int) < (p : Int)) = false := decide_eq_false (by omega)
  have HH := Aside0.mk h
  have HRD := Aside0.mk hrd
  have HLE := Aside0.mk hle
  have HP := Aside0.mk hp
  clear h hrd hle hp
  go_enter Try.func63, Try.ntmps63
  go_wp2_with (go_at_call 84; (with_reducible refine (req_atF32 k p HP.out _ (by omega)).mono ?_); rintro e w1 ⟨rfl, rfl⟩)
  go_ret2
  refine ⟨rfl, gb_set (p := ⟨g, 0, none⟩) (gb_set (p := ⟨g, 1, none⟩) (World.grownBy.refl _ _) (.inl rfl) _) (.inl rfl) _, A', c - p, gb_set (gb_set HH.out.grown (.inl rfl) _) (.inl rfl) _, HH.out.lt, ?_, HRD.out, HLE.out, by have := HH.out.small; rw [List.length_drop]; omega⟩
  have h2 := blk_set (blk_set HH.out.blk 1 (.slice A' (bs.drop p).length (c - p))) 0 (.int .i64 ((nv - k : Nat) : Int))
  have e : ((nv - k : Nat) : Int) = (nv : Int) - k := by omega
  simp only [e] at h2 ⊢
  first | exact h2 | simpa [mkF32, e] using h2
theorem disF32 (dd g c m : Nat) (A : Option Addr) (rem : List V) (W w : World) (hk : m ≤ rem.length) (ho : OkF32 0 rem) (h : DB 114 (mkF32 0) W g w rem.length (rem.flatMap encF32) A c) :
    Calls Try.prog 63 #[.pointer (some ⟨g, 0, none⟩), .int .i64 m] w (Went 114 (mkF32 0) W g rem.length m ((rem.drop m).flatMap encF32) w) := by
  have hr := ho.2.2.1
  have ed := flatF32_drop rem m hk
  rw [← ed]
  have := dis0F32 m (4 * m) g c rem.length A (rem.flatMap encF32) W w hk hr (by omega) (by rw [flatF32_len]; omega) (by omega) h
  exact this
set_option maxRecDepth 100000 in
set_option maxHeartbeats 8000000 in
theorem decF32 (dd n g c : Nat) (A : Option Addr) (rem : List V) (W Wa : World) (hn : n ≤ rem.length) (ho : OkF32 0 rem) (h : DB 114 (mkF32 0) W g Wa rem.length (rem.flatMap encF32) A c) :
    Calls Try.prog 62 #[.pointer (some ⟨g, 0, none⟩), .slice (some ⟨Wa.heap.size, 0, none⟩) n n] (Wa.alloc (.cells (madeCells #[.float .f32 0] n) 113)) (Red 114 113 (mkF32 0) encF32 cellEF32 (fun x v => decVF32 v = x) W g Wa rem n) := by
  have hr := ho.2.2.1
  have hl := flatF32_len rem
  obtain ⟨p, hp⟩ : ∃ p, n * 4 = p := ⟨_, rfl⟩
  obtain ⟨bl, hbl⟩ : ∃ bl, (rem.flatMap encF32).length = bl := ⟨_, rfl⟩
  have hpb : p ≤ bl := by omega
  have hps : p ≤ 20000 := by omega
  obtain ⟨f0, f1, fz⟩ := h.cellsF32
  have hcb := h.le
  have hd1 : decide ((2147483647 : Int) < (p : Int)) = false := decide_eq_false (by omega)
  have hd2 : decide (bl < p) = false := decide_eq_false (by omega)
  have hqg : Wa.heap.size ≠ g := by have := h.lt; have := h.grown.size; omega
  have hgq : g ≠ Wa.heap.size := fun e => hqg e.symm
  have hglt : g < Wa.heap.size := by have := h.lt; have := h.grown.size; omega
  obtain ⟨A2, hcut, hrd2, hle2⟩ := h.rd.cut c p (by omega) hcb
  obtain ⟨hhead, hrd1⟩ := h.rd.head c p (by omega) hcb
  have ep : p = 4 * n := by omega
  have t1 : (rem.flatMap encF32).drop p = (rem.drop n).flatMap encF32 := by rw [ep]; exact flatF32_drop rem n hn
  have t0 : (rem.flatMap encF32).take p = (rem.take n).flatMap encF32 := by
    have e1 : rem.flatMap encF32 = (rem.take n).flatMap encF32 ++ (rem.drop n).flatMap encF32 := by rw [← List.flatMap_append, List.take_append_drop]
    have e2 : ((rem.take n).flatMap encF32).length = p := by rw [flatF32_len, List.length_take, Nat.min_eq_left hn]; omega
    rw [e1, ← e2, List.take_left]
  rw [t0] at hhead hrd1
  rw [t1] at hcut hrd2 hle2
  have t2 : ((rem.take n).flatMap encF32).length = p := by rw [flatF32_len, List.length_take, Nat.min_eq_left hn]; omega
  obtain ⟨bm, hbm⟩ : ∃ bm, ((rem.drop n).flatMap encF32).length = bm := ⟨_, rfl⟩
  have hrng := ho.2.2.2
  have HCF := Aside0.mk (fun W2 (hg : W.grownBy W2 (some g)) (hq : W2.heap[Wa.heap.size]? = _) => copyFromF32 A p n c Wa.heap.size (rem.take n) W2 (by have := hrd1 W2 hg; rwa [t2] at this) (by omega) (by rw [List.length_take]; omega) hp.symm (by omega) (fun v hv => hrng v (List.mem_of_mem_take hv)) hq)
  rw [hbl] at f1 hcut hhead hcb
  rw [hbm] at hcut
  rw [t2] at hhead
  have HH := Aside0.mk h
  have HR2 := Aside0.mk hrd2
  have HL2 := Aside0.mk hle2
  have HBM := Aside0.mk hbm
  have HBL := Aside0.mk hbl
  have HP := Aside0.mk hp
  have HT2 := Aside0.mk hl
  have hpc : p ≤ c := by omega
  have hqf := made_fill cellEF32 (0 : Nat) n
  have HQF := Aside0.mk hqf
  clear h hl hbl hp t0 t1 t2 hrd1 hrd2 hle2 hbm ho hrng ep hqf
  go_enter Try.func62, Try.ntmps62
  go_wp2_with (go_at_call 84; (with_reducible refine (req_atF32 n p HP.out _ (by omega)).mono ?_); rintro e w1 ⟨rfl, rfl⟩)
  have HGW := Aside0.mk (show W.grownBy (Wa.alloc (.cells (madeCells #[.float .f32 0] n) 113)).drew (some g) from gb_drew (HH.out.grown.trans (World.grownBy_alloc _ _ _)))
  have HQW := Aside0.mk (show (Wa.alloc (.cells (madeCells #[.float .f32 0] n) 113)).drew.heap[Wa.heap.size]? = some (.cells ((fill ([] : List Nat) (0 : Nat) n).map cellEF32).toArray 113 (0, 0)) by rw [← HQF.out]; exact heap_alloc_new _ _)
  go_region_held3 (fun w' => w'.cell? ⟨g, 1, none⟩ = some (.slice A bl c)) (first | exact f1 | exact e1 | (go_keep; done)) (first | (go_at_call 85; refine (HCF.out _ HGW.out HQW.out).mono ?_; rintro e w3 ⟨rfl, hq3, hb3⟩; have HQ3 := Aside0.mk hq3; have HB3 := Aside0.mk hb3; have hg3 : w3.heap[g]? = some (.cells (mkF32 0 rem.length (.slice A bl c)) 114 (0, 0)) := (hb3.block g hglt).trans ((Below.heap_alloc _ _ _ hglt).trans (by rw [← HBL.out]; exact HH.out.blk)); have HG3 := Aside0.mk hg3; have e0 : w3.cell? ⟨g, 0, none⟩ = some (.int .i64 rem.length) := blk_cell hg3 0; have e1 : w3.cell? ⟨g, 1, none⟩ = some (.slice A bl c) := blk_cell hg3 1; have ez0 := blk_frozen hg3 0; have ez1 := blk_frozen hg3 1; clear hq3 hb3 hg3 f0 f1 fz))
  go_wp2_with fail
  go_ret2
  have hgw : W.grownBy w3 (some g) := gb_base HGW.out (HB3.out.mono HH.out.grown.size)
  have hga : Wa.grownBy w3 (some g) := gb_base (gb_drew (World.grownBy_alloc _ _ _)) HB3.out
  refine ⟨rfl, gb_set (p := ⟨g, 0, none⟩) (gb_set (p := ⟨g, 1, none⟩) hga (.inl rfl) _) (.inl rfl) _, ⟨A2, c - p, gb_set (p := ⟨g, 0, none⟩) (gb_set (p := ⟨g, 1, none⟩) hgw (.inl rfl) _) (.inl rfl) _, HH.out.lt, ?_, HR2.out, HL2.out, ?_⟩, (rem.take n).map decVF32, by rw [List.length_map, List.length_take]; omega, ?_, ?_⟩
  · rw [HBM.out]
    have h2 := blk_set (blk_set HG3.out 1 (.slice A2 bm (c - p))) 0 (.int .i64 ((rem.length - n : Nat) : Int))
    have e : ((rem.length - n : Nat) : Int) = (rem.length : Int) - n := by omega
    simp only [e] at h2 ⊢
    first | exact h2 | simpa [mkF32, e] using h2
  · rw [flatF32_len, List.length_drop]; omega
  · exact (Below.heap_setCell _ ⟨g, 0, none⟩ _ Wa.heap.size hqg).trans ((Below.heap_setCell _ ⟨g, 1, none⟩ _ Wa.heap.size hqg).trans HQ3.out)
  · refine ⟨by rw [List.length_map], fun j x y hx hy => ?_⟩
    rw [List.getElem?_map, hy] at hx
    exact Option.some.inj hx
set_option maxRecDepth 100000 in
set_option maxHeartbeats 4000000 in
theorem decF32_err (n g c nv : Nat) (A : Option Addr) (bs : List Int) (q : Addr) (W w : World) (hn : n ≤ nv) (hr : nv ≤ 500) (hs : bs.length < n * 4) (h : DB 114 (mkF32 0) W g w nv bs A c) :
    Calls Try.prog 62 #[.pointer (some ⟨g, 0, none⟩), .slice (some q) n n] w (RedErr w) := by
  obtain ⟨p, hp⟩ : ∃ p, n * 4 = p := ⟨_, rfl⟩
  have hps : p ≤ 20000 := by omega
  rw [hp] at hs
  have HP := Aside0.mk hp
  obtain ⟨f0, f1, fz⟩ := h.cellsF32
  clear h hp
  go_enter Try.func62, Try.ntmps62
  go_wp2_with (first | (go_at_call 84; (with_reducible refine (req_atF32 n p HP.out _ (by omega)).mono ?_); rintro e w1 ⟨rfl, rfl⟩) | (go_at_call 74; (with_reducible refine (err_any _ _).mono ?_); rintro e w1 ⟨t, pv, rfl, hb⟩))
  go_ret2
  exact ⟨_, _, _, rfl, hb⟩

end Go.Proofs.Ytbghkoalmjfpiaa.Plain
