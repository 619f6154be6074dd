/- The decoder of numbers: what it reads and what it leaves out. -/
import Derived.Test.YtbghkoalmjfpiaaR4W
import Derived.Test.YtbghkoalmjfpiaaR4I
import Derived.Laws.Externs
import Derived.Laws.CopyOwn
namespace Go.Proofs.Ytbghkoalmjfpiaa.Plain
open Go.RowKit Go.Proofs.YtbghkoalmjfpiaaW.PrintWords Go.Proofs.YtbghkoalmjfpiaaW.PrintLast Go.Proofs.YtbghkoalmjfpiaaW.PrintMore Go.Proofs.Ytbghkoalmjfpiaa.PBatchedValues
set_option linter.unusedVariables false
set_option linter.unusedSimpArgs false

abbrev encI64 (v : V) : List Int := le v.num 8
def mkI64 (wd : Int) (nv : Nat) (s : Value) : Array Value := #[.int .i64 nv, s, .int .i64 wd, .nilIface]
/-- What the laws ask of the values. -/
def OkI64 (wd : Nat) (l : List V) : Prop := wd = 0 ∧ True ∧ l.length ≤ 500 ∧ ∀ v ∈ l, 0 ≤ v.num ∧ v.num < 18446744073709551616
theorem OkI64.drop {wd : Nat} {l : List V} (h : OkI64 wd l) (k : Nat) : OkI64 wd (l.drop k) := ⟨h.1, h.2.1, by have := h.2.2.1; rw [List.length_drop]; omega, fun v hv => h.2.2.2 v (List.mem_of_mem_drop hv)⟩
theorem flatI64_len (l : List V) : (l.flatMap encI64).length = l.length * 8 := by
  induction l with
  | nil => rfl
  | cons v l ih => rw [List.flatMap_cons, List.length_append, ih, le_len, List.length_cons]; omega
theorem DB.cellsI64 {T : TypeId} {wd : Int} {W wr : World} {g nv : Nat} {bs : List Int} {A : Option Addr} {c : Nat} (h : DB T (mkI64 wd) W g wr nv bs A c) :
    wr.cell? ⟨g, 0, none⟩ = some (.int .i64 nv) ∧ wr.cell? ⟨g, 1, none⟩ = some (.slice A bs.length c) ∧ (∀ i, wr.frozen? ⟨g, i, none⟩ = false) :=
  ⟨blk_cell h.blk 0, blk_cell h.blk 1, blk_frozen h.blk⟩
set_option maxRecDepth 100000 in
theorem widthI64 (w : World) : Calls Try.prog 92 #[] w fun e w' => e = .returned (.int .i64 8) ∧ w = w' := by
  have ta21 := fun (v : Value) (W : World) => ta_no (P := Try.prog) (t := 2) (a := 21) (xT := 20) v (.int .i32 0) (by kernel_rfl) (by kernel_rfl) (by decide) W
  have ta113 := fun (v : Value) (W : World) => ta_no (P := Try.prog) (t := 2) (a := 113) (xT := 20) v (.float .f32 0) (by kernel_rfl) (by kernel_rfl) (by decide) W
  have ta2 := fun (v : Value) (W : World) => ta_yes (P := Try.prog) (t := 2) (xT := 20) v (by kernel_rfl) W
  have ta123 := fun (v : Value) (W : World) => ta_no (P := Try.prog) (t := 2) (a := 123) (xT := 20) v (.float .f64 0) (by kernel_rfl) (by kernel_rfl) (by decide) W
  go_enter Try.func92, Try.ntmps92
  go_wp2
  go_ret
  exact ⟨rfl, rfl⟩
set_option maxRecDepth 100000 in
theorem reqI64 (n : Nat) (w : World) (h : n ≤ 1000) : Calls Try.prog 80 #[.int .i64 n] w fun e w' => e = .returned (.int .i64 ((n * 8 : Nat) : Int)) ∧ w = w' := by
  have e : ((n * 8 : Nat) : Int) = (n : Int) * 8 := by omega
  rw [e]
  clear e
  go_enter Try.func80, Try.ntmps80
  go_wp2_with (go_at_call 92; (with_reducible refine (widthI64 _).mono ?_); rintro e w1 ⟨rfl, rfl⟩)
  go_ret
  exact ⟨rfl, rfl⟩
/-- What is left of a row of bytes behind its j first ones, at one world. -/
theorem cut_at {w : World} {A : Option Addr} {n : Nat} {xs : List Int} (h : ReadsOf (Value.int .u8) (0 : Int) w A n xs) (c j : Nat) (hj : j ≤ n) (hc : n ≤ c) :
    ∃ A', (∀ W : World, (Instr.slice 26 (.slice A n c) (some (.int .i64 (j : Int))) none none).run Try.prog W = .ok (.slice A' (n - j) (c - j)) W) ∧ ∀ w1, Below w.heap.size w w1 → ReadsOf (Value.int .u8) (0 : Int) w1 A' (n - j) (xs.drop j) := by
  obtain ⟨i, hi, hs⟩ := info5p
  obtain ⟨rfl, _⟩ : xs.length = n ∧ True := ⟨h.1, trivial⟩
  obtain ⟨A', h1, h2, h3⟩ := print_drop_of (P := Try.prog) (Value.int .u8) 0 26 5 .i64 Try.underlying26 hi hs A c xs (j : Int) (by omega) (by omega) hc
  simp only [Int.toNat_natCast, List.length_drop] at h1 h2 h3
  exact ⟨A', h1, fun w1 hb => h2 w1 (ReadsOf.below h hb)⟩
/-- What is read of a number's bytes. -/
def lowI64 (x : Int) : Int := x
def dxI64 (x : Int) : Int := wrap64 (lowI64 x)
theorem le_lowI64 (x : Int) : le x 8 = le (lowI64 x) 8 := rfl
theorem lowI64_range (x : Int) (h0 : 0 ≤ x) (h1 : x < 18446744073709551616) : 0 ≤ lowI64 x ∧ lowI64 x < 18446744073709551616 := ⟨h0, h1⟩
set_option maxRecDepth 100000 in
set_option maxHeartbeats 4000000 in
theorem getI64 (A : Option Addr) (n c i : Nat) (xs : List Int) (x : Int) (w : World) (h : ReadsOf (Value.int .u8) (0 : Int) w A n xs) (hc : n ≤ c) (hi : 8 * i + 8 ≤ n) (hn : n ≤ 1000000) (hx : (xs.drop (8 * i)).take 8 = le x 8) (h0 : 0 ≤ x) (h1 : x < 18446744073709551616) :
    Calls Try.prog 101 #[.slice A n c, .int .i64 i] w fun e w' => e = .returned (.int .i64 (dxI64 x)) ∧ Below w.heap.size w w' := by
  obtain ⟨A', hcut, hrd⟩ := cut_at h c (8 * i) (by omega) hc
  have e : ((8 * i : Nat) : Int) = 8 * (i : Int) := by omega
  rw [e] at hcut
  have HRD := Aside0.mk hrd
  have HX := Aside0.mk hx
  have hin : (i : Int) ≤ 1000000 := by omega
  have hi0 : (0 : Int) ≤ 8 * (i : Int) := by omega
  have hin2 : 8 * (i : Int) ≤ (n : Int) := by omega
  have hwr : IntKind.i64.wrap (8 * (i : Int)) = 8 * (i : Int) := by rw [IntKind.wrap_i64]; omega
  clear h hx hrd e
  have ta166 := fun (v : Value) (W : World) => ta_no (P := Try.prog) (t := 167) (a := 166) (xT := 20) v (.pointer none) (by kernel_rfl) (by kernel_rfl) (by decide) W
  have ta167 := fun (v : Value) (W : World) => ta_yes (P := Try.prog) (t := 167) (xT := 20) v (by kernel_rfl) W
  have ta169 := fun (v : Value) (W : World) => ta_no (P := Try.prog) (t := 167) (a := 169) (xT := 20) v (.pointer none) (by kernel_rfl) (by kernel_rfl) (by decide) W
  have ta171 := fun (v : Value) (W : World) => ta_no (P := Try.prog) (t := 167) (a := 171) (xT := 20) v (.pointer none) (by kernel_rfl) (by kernel_rfl) (by decide) W
  have ta173 := fun (v : Value) (W : World) => ta_no (P := Try.prog) (t := 167) (a := 173) (xT := 20) v (.pointer none) (by kernel_rfl) (by kernel_rfl) (by decide) W
  go_enter Try.func101, Try.ntmps101
  go_wp2_with fail
  go_region_held3 (fun w' => True) (trivial) (first | (go_at_call 105; refine (uint64_le A' (n - 8 * i) (c - 8 * i) (xs.drop (8 * i)) (lowI64 x) _ (HRD.out _ (((Below.refl _ _).alloc (Nat.le_refl _) _).drew)) (by omega) (by rw [HX.out]; exact le_lowI64 x) (lowI64_range x h0 h1).1 (lowI64_range x h0 h1).2).mono ?_; rintro e w3 ⟨rfl, hb3⟩; have k3 : w3.heap[w.heap.size]? = some (.cells #[.int .i64 0] 2 (0, 0)) := (hb3.block _ (by simp)).trans (heap_alloc_new w _); have f0 : w3.cell? ⟨w.heap.size, 0, none⟩ = some (.int .i64 0) := blk_cell k3 0; have z0 := blk_frozen k3 0; have HB3 := Aside0.mk (show Below w.heap.size w w3 from (((Below.refl _ _).alloc (Nat.le_refl _) _).drew).trans (hb3.mono (by simp))); clear hb3 k3))
  go_wp2
  have k5 : ((w3.setCell ⟨w.heap.size, 0, none⟩ (.int .i64 (wrap64 (lowI64 x)))).setCell ⟨w.heap.size, 0, none⟩ (.int .i64 (wrap64 (lowI64 x)))).cell? ⟨w.heap.size, 0, none⟩ = some (.int .i64 (wrap64 (lowI64 x))) := cell_twice f0
  exact bodyPost_ret (v := .int .i64 (wrap64 (lowI64 x))) (by simp [results, Try.results101, go_sem, k5]) rfl ⟨rfl, (HB3.out.setCell (p := ⟨w.heap.size, 0, none⟩) (Nat.le_refl _) _).setCell (p := ⟨w.heap.size, 0, none⟩) (Nat.le_refl _) _⟩
/-! ### rows of numbers -/
def cellEI64 (x : Int) : Value := .int .i64 x
def decVI64 (v : V) : Int := dxI64 v.num
theorem req_atI64 (n p : Nat) (hp : n * 8 = p) (w : World) (h : n ≤ 1000) : Calls Try.prog 80 #[.int .i64 n] w fun e w' => e = .returned (.int .i64 p) ∧ w = w' := by
  subst hp
  exact reqI64 n w h
theorem req_oneI64 (w : World) : Calls Try.prog 80 #[.int .i64 1] w fun e w' => e = .returned (.int .i64 8) ∧ w = w' := reqI64 1 w (by omega)
theorem flatI64_drop (l : List V) (k : Nat) (h : k ≤ l.length) : (l.flatMap encI64).drop (8 * k) = (l.drop k).flatMap encI64 := by
  have e1 : l.flatMap encI64 = (l.take k).flatMap encI64 ++ (l.drop k).flatMap encI64 := by rw [← List.flatMap_append, List.take_append_drop]
  have e2 : ((l.take k).flatMap encI64).length = 8 * k := by rw [flatI64_len, List.length_take, Nat.min_eq_left h]; omega
  rw [e1, ← e2, List.drop_left]
theorem flatI64_at (l : List V) (k : Nat) (h : k < l.length) : ((l.flatMap encI64).drop (8 * k)).take 8 = le (gv l k).num 8 := by
  rw [flatI64_drop l k (by omega)]
  have := flat_take0 encI64 l k h
  rwa [le_len] at this
theorem infoNI64 : (Try.prog.info? 2).map (fun i => (i.zero, i.size, i.bytes)) = some (some (.int .i64 0), 1, 8) := by kernel_rfl
/-- A new row of numbers. -/
def NewRowI64 (l : List V) (m : Nat) (w : World) (e : Ending) (w' : World) : Prop :=
  ∃ p, e = .returned (.slice (some ⟨p, 0, none⟩) m m) ∧ w.heap.size ≤ p ∧ w'.heap[p]? = some (.cells ((l.map decVI64).map cellEI64).toArray 2 (0, 0)) ∧ Below w.heap.size w w'
set_option maxRecDepth 100000 in
set_option maxHeartbeats 8000000 in
theorem fromI64 (A : Option Addr) (n m c : Nat) (l : List V) (w : World) (h : ReadsOf (Value.int .u8) (0 : Int) w A n (l.flatMap encI64)) (hc : n ≤ c) (hm : l.length = m) (hn : n = m * 8) (hms : m ≤ 500) (hr : ∀ v ∈ l, 0 ≤ v.num ∧ v.num < 18446744073709551616) :
    Calls Try.prog 93 #[.slice A n c] w (NewRowI64 l m w) := by
  have hq : (n : Int) / 8 = (m : Int) := by omega
  have hnb : n ≤ 1000000 := by omega
  have hmk := print_make_of (P := Try.prog) 94 2 (.int .i64 0) 8 Try.underlying94 infoNI64 rfl (by omega) m (by omega)
  have hx0 : 0 ≤ (m : Int) := by omega
  have HH := Aside0.mk h
  have HR := Aside0.mk hr
  have HM := Aside0.mk hm
  have HN := Aside0.mk hn
  clear h hr hm hn
  go_enter Try.func93, Try.ntmps93
  go_wp2_with (go_at_call 80; (with_reducible refine (req_oneI64 _).mono ?_); rintro e w1 ⟨rfl, rfl⟩)
  have hqf : madeCells #[.int .i64 0] m = ((fill ([] : List Int) (0 : Int) m).map cellEI64).toArray := made_fill cellEI64 (0 : Int) m
  go_loopw [12] (fun i wr => ∃ k : Nat, k ≤ m ∧ i = .int .i64 k ∧ Aside0 (wr.heap[w.heap.size]? = some (.cells ((fill ((l.take k).map decVI64) (0 : Int) m).map cellEI64).toArray 2 (0, 0))) ∧ Aside0 (Below w.heap.size w wr)) (fun i _ => m - (intOf i).toNat)
  case atStart => exact ⟨0, Nat.zero_le _, rfl, ⟨by rw [List.take_zero, List.map_nil, ← hqf]; exact heap_alloc_new _ _⟩, ⟨(Below.refl _ _).alloc (Nat.le_refl _) _⟩⟩
  case round =>
    clear hqf hmk
    obtain ⟨k, hk, rfl, HQ, HB⟩ := hrel
    by_cases hlt : k < m
    · have hkl : k < l.length := by have := HM.out; omega
      have hyl : ((l.take k).map decVI64).length = k := by rw [List.length_map, List.length_take]; omega
      obtain ⟨x0, x1⟩ := HR.out _ (gv_mem hkl)
      have hfa := flatI64_at l k hkl
      have HS := Aside0.mk (show (l.take (k + 1)).map decVI64 = (l.take k).map decVI64 ++ [dxI64 (gv l k).num] by rw [take_snoc l k hkl, List.map_append]; rfl)
      have HG := Aside0.mk (fun W (hb : Below w.heap.size w W) => getI64 A n c k (l.flatMap encI64) (gv l k).num W (ReadsOf.below HH.out hb) hc (by have := HN.out; omega) hnb hfa x0 x1)
      have hql : w.heap.size < wr.heap.size := block_lt HQ.out
      have HYL := Aside0.mk hyl
      generalize (gv l k).num = x at HS HG
      clear hfa x0 x1 hyl
      go_wp2_with (go_at_call 101; (with_reducible refine (HG.out _ HB.out).mono ?_); rintro e w3 ⟨rfl, hb3⟩; have hq4 : w3.heap[w.heap.size]? = some (.cells ((fill ((l.take k).map decVI64) (0 : Int) m).map cellEI64).toArray 2 (0, 0)) := (hb3.block _ hql).trans HQ.out; have HQ4 := Aside0.mk hq4; have hq0 : w3.cell? ⟨w.heap.size, k, none⟩ = some (.int .i64 0) := (by have h1 := fill_cell cellEI64 ((l.take k).map decVI64) (0 : Int) m (by rw [HYL.out]; exact hlt); rw [HYL.out] at h1; rw [blk_cell hq4 k]; exact h1); have hqz := blk_frozen hq4 k; have HB3 := Aside0.mk (HB.out.trans (hb3.mono HB.out.size)); clear hb3 hq4)
      go_roundw
      case rel =>
        refine ⟨k + 1, by omega, by go_num, ⟨?_⟩, ⟨HB3.out.setCell (by show w.heap.size ≤ w.heap.size; omega) _⟩⟩
        have h1 := blk_set HQ4.out k (cellEI64 (dxI64 x))
        have h2 := fill_put cellEI64 ((l.take k).map decVI64) (0 : Int) (dxI64 x) m (by rw [HYL.out]; exact hlt)
        rw [HYL.out] at h2
        rw [h2] at h1
        rw [HS.out]
        exact h1
      case measure => simp [intOf]; omega
    · obtain rfl : k = m := by omega
      go_wp2
      go_ret
      refine ⟨w.heap.size, rfl, Nat.le_refl _, ?_, HB.out⟩
      have h1 := HQ.out
      have h2 := HM.out
      rw [List.take_of_length_le (by omega)] at h1
      have h3 : (l.map decVI64).length = k := by rw [List.length_map]; exact h2
      rw [← h3, fill_all] at h1
      exact h1
theorem splice_all {α : Type} (cur cs : List α) (h : cs.length = cur.length) : splice cur 0 cs = cs := by
  simp [splice, h]
set_option maxRecDepth 100000 in
set_option maxHeartbeats 8000000 in
theorem copyFromI64 (A : Option Addr) (n m c q : Nat) (l : List V) (w : World) (h : ReadsOf (Value.int .u8) (0 : Int) w A n (l.flatMap encI64)) (hc : n ≤ c) (hm : l.length = m) (hn : n = m * 8) (hms : m ≤ 500) (hr : ∀ v ∈ l, 0 ≤ v.num ∧ v.num < 18446744073709551616)
    (hq : w.heap[q]? = some (.cells ((fill ([] : List Int) (0 : Int) m).map cellEI64).toArray 2 (0, 0))) :
    Calls Try.prog 81 #[.slice (some ⟨q, 0, none⟩) m m, .slice A n c] w fun e w' => e = .returned (.tuple #[]) ∧ w'.heap[q]? = some (.cells ((l.map decVI64).map cellEI64).toArray 2 (0, 0)) ∧ Below q w w' := by
  have HF := Aside0.mk (fromI64 A n m c l w h hc hm hn hms hr)
  have HQ := Aside0.mk hq
  have HM := Aside0.mk hm
  have hql : q < w.heap.size := block_lt hq
  clear h hr hq hm hn
  go_enter Try.func81, Try.ntmps81
  go_wp2_with (first | (go_at_call 93; (with_reducible refine HF.out.mono ?_); rintro e w1 ⟨p, rfl, hp, hh, hb⟩; have HP := Aside0.mk hh; have HB := Aside0.mk hb; clear hh hb) | (have hg := HP.out; clear hg; (with_reducible show wpList _ _ _ _ _ _); refine wpList_copy_splice rfl (.tmp 4) (.tmp 6) 94 94 rfl 2 Try.underlying94 (by kernel_rfl) (some ⟨q, 0, none⟩) (some ⟨p, 0, none⟩) m m m m rfl rfl q 0 ((fill ([] : List Int) (0 : Int) m).map cellEI64) 2 ((HB.out.block q hql).trans HQ.out) ((l.map decVI64).map cellEI64) (by rw [List.length_map, List.length_map, HM.out]; exact (Nat.min_self m).symm) (fun _ => ⟨rfl, ⟨p, 0, none⟩, rfl, fun j v hj => by rw [add_plain, blk_cell HP.out j]; simpa using hj⟩) (by rw [List.length_map, List.length_map, List.length_map, HM.out, fill_len _ _ _ (Nat.zero_le _)]; omega) (fun v hv => by obtain ⟨x, _, rfl⟩ := List.mem_map.1 hv; rfl) q w (HB.out.mono (by omega)) (Nat.le_refl _) ?_; intro w' hh hb'))
  go_end0
  refine ⟨rfl, ?_, hb'⟩
  have h1 : w'.heap[q]? = _ := hh
  rw [splice_all _ _ (by rw [List.length_map, List.length_map, List.length_map, HM.out, fill_len _ _ _ (Nat.zero_le _)])] at h1
  first | exact h1 | (rw [List.map_map] at h1; exact h1)
/-! ### the decoder's calls -/
theorem mulI64 {n m : Nat} (h : n ≤ m) (hm : m ≤ 500) : n * 8 ≤ 20000 ∧ n * 8 ≤ m * 8 := by omega
set_option maxRecDepth 100000 in
set_option maxHeartbeats 4000000 in
theorem dis0I64 (k p g c nv : Nat) (A : Option Addr) (bs : List Int) (W w : World) (hk : k ≤ nv) (hn : nv ≤ 500) (hp : k * 8 = p) (hpb : p ≤ bs.length) (hps : p ≤ 1000000) (h : DB 93 (mkI64 0) W g w nv bs A c) :
    Calls Try.prog 51 #[.pointer (some ⟨g, 0, none⟩), .int .i64 k] w (Went 93 (mkI64 0) W g nv k (bs.drop p) w) := by
  obtain ⟨f0, f1, fz⟩ := h.cellsI64
  obtain ⟨A', hcut, hrd, hle⟩ := h.rd.cut c p hpb h.le
  have hd1 : decide ((2147483647 : Int) < (p : Int)) = false := decide_eq_false (by omega)
  have HH := Aside0.mk h
  have HRD := Aside0.mk hrd
  have HLE := Aside0.mk hle
  have HP := Aside0.mk hp
  clear h hrd hle hp
  go_enter Try.func51, Try.ntmps51
  go_wp2_with (go_at_call 80; (with_reducible refine (req_atI64 k p HP.out _ (by omega)).mono ?_); rintro e w1 ⟨rfl, rfl⟩)
  go_ret2
  refine ⟨rfl, gb_set (p := ⟨g, 0, none⟩) (gb_set (p := ⟨g, 1, none⟩) (World.grownBy.refl _ _) (.inl rfl) _) (.inl rfl) _, A', c - p, gb_set (gb_set HH.out.grown (.inl rfl) _) (.inl rfl) _, HH.out.lt, ?_, HRD.out, HLE.out, by have := HH.out.small; rw [List.length_drop]; omega⟩
  have h2 := blk_set (blk_set HH.out.blk 1 (.slice A' (bs.drop p).length (c - p))) 0 (.int .i64 ((nv - k : Nat) : Int))
  have e : ((nv - k : Nat) : Int) = (nv : Int) - k := by omega
  simp only [e] at h2 ⊢
  first | exact h2 | simpa [mkI64, e] using h2
theorem disI64 (dd g c m : Nat) (A : Option Addr) (rem : List V) (W w : World) (hk : m ≤ rem.length) (ho : OkI64 0 rem) (h : DB 93 (mkI64 0) W g w rem.length (rem.flatMap encI64) A c) :
    Calls Try.prog 51 #[.pointer (some ⟨g, 0, none⟩), .int .i64 m] w (Went 93 (mkI64 0) W g rem.length m ((rem.drop m).flatMap encI64) w) := by
  have hr := ho.2.2.1
  have ed := flatI64_drop rem m hk
  rw [← ed]
  have := dis0I64 m (8 * m) g c rem.length A (rem.flatMap encI64) W w hk hr (by omega) (by rw [flatI64_len]; omega) (by omega) h
  exact this
set_option maxRecDepth 100000 in
set_option maxHeartbeats 8000000 in
theorem decI64 (dd n g c : Nat) (A : Option Addr) (rem : List V) (W Wa : World) (hn : n ≤ rem.length) (ho : OkI64 0 rem) (h : DB 93 (mkI64 0) W g Wa rem.length (rem.flatMap encI64) A c) :
    Calls Try.prog 50 #[.pointer (some ⟨g, 0, none⟩), .slice (some ⟨Wa.heap.size, 0, none⟩) n n] (Wa.alloc (.cells (madeCells #[.int .i64 0] n) 2)) (Red 93 2 (mkI64 0) encI64 cellEI64 (fun x v => decVI64 v = x) W g Wa rem n) := by
  have hr := ho.2.2.1
  have hl := flatI64_len rem
  obtain ⟨p, hp⟩ : ∃ p, n * 8 = p := ⟨_, rfl⟩
  obtain ⟨bl, hbl⟩ : ∃ bl, (rem.flatMap encI64).length = bl := ⟨_, rfl⟩
  have hpb : p ≤ bl := by omega
  have hps : p ≤ 20000 := by omega
  obtain ⟨f0, f1, fz⟩ := h.cellsI64
  have hcb := h.le
  have hd1 : decide ((2147483647 : Int) < (p : Int)) = false := decide_eq_false (by omega)
  have hd2 : decide (bl < p) = false := decide_eq_false (by omega)
  have hqg : Wa.heap.size ≠ g := by have := h.lt; have := h.grown.size; omega
  have hgq : g ≠ Wa.heap.size := fun e => hqg e.symm
  have hglt : g < Wa.heap.size := by have := h.lt; have := h.grown.size; omega
  obtain ⟨A2, hcut, hrd2, hle2⟩ := h.rd.cut c p (by omega) hcb
  obtain ⟨hhead, hrd1⟩ := h.rd.head c p (by omega) hcb
  have ep : p = 8 * n := by omega
  have t1 : (rem.flatMap encI64).drop p = (rem.drop n).flatMap encI64 := by rw [ep]; exact flatI64_drop rem n hn
  have t0 : (rem.flatMap encI64).take p = (rem.take n).flatMap encI64 := by
    have e1 : rem.flatMap encI64 = (rem.take n).flatMap encI64 ++ (rem.drop n).flatMap encI64 := by rw [← List.flatMap_append, List.take_append_drop]
    have e2 : ((rem.take n).flatMap encI64).length = p := by rw [flatI64_len, List.length_take, Nat.min_eq_left hn]; omega
    rw [e1, ← e2, List.take_left]
  rw [t0] at hhead hrd1
  rw [t1] at hcut hrd2 hle2
  have t2 : ((rem.take n).flatMap encI64).length = p := by rw [flatI64_len, List.length_take, Nat.min_eq_left hn]; omega
  obtain ⟨bm, hbm⟩ : ∃ bm, ((rem.drop n).flatMap encI64).length = bm := ⟨_, rfl⟩
  have hrng := ho.2.2.2
  have HCF := Aside0.mk (fun W2 (hg : W.grownBy W2 (some g)) (hq : W2.heap[Wa.heap.size]? = _) => copyFromI64 A p n c Wa.heap.size (rem.take n) W2 (by have := hrd1 W2 hg; rwa [t2] at this) (by omega) (by rw [List.length_take]; omega) hp.symm (by omega) (fun v hv => hrng v (List.mem_of_mem_take hv)) hq)
  rw [hbl] at f1 hcut hhead hcb
  rw [hbm] at hcut
  rw [t2] at hhead
  have HH := Aside0.mk h
  have HR2 := Aside0.mk hrd2
  have HL2 := Aside0.mk hle2
  have HBM := Aside0.mk hbm
  have HBL := Aside0.mk hbl
  have HP := Aside0.mk hp
  have HT2 := Aside0.mk hl
  have hpc : p ≤ c := by omega
  have hqf := made_fill cellEI64 (0 : Int) n
  have HQF := Aside0.mk hqf
  clear h hl hbl hp t0 t1 t2 hrd1 hrd2 hle2 hbm ho hrng ep hqf
  go_enter Try.func50, Try.ntmps50
  go_wp2_with (go_at_call 80; (with_reducible refine (req_atI64 n p HP.out _ (by omega)).mono ?_); rintro e w1 ⟨rfl, rfl⟩)
  have HGW := Aside0.mk (show W.grownBy (Wa.alloc (.cells (madeCells #[.int .i64 0] n) 2)).drew (some g) from gb_drew (HH.out.grown.trans (World.grownBy_alloc _ _ _)))
  have HQW := Aside0.mk (show (Wa.alloc (.cells (madeCells #[.int .i64 0] n) 2)).drew.heap[Wa.heap.size]? = some (.cells ((fill ([] : List Int) (0 : Int) n).map cellEI64).toArray 2 (0, 0)) by rw [← HQF.out]; exact heap_alloc_new _ _)
  go_region_held3 (fun w' => w'.cell? ⟨g, 1, none⟩ = some (.slice A bl c)) (first | exact f1 | exact e1 | (go_keep; done)) (first | (go_at_call 81; refine (HCF.out _ HGW.out HQW.out).mono ?_; rintro e w3 ⟨rfl, hq3, hb3⟩; have HQ3 := Aside0.mk hq3; have HB3 := Aside0.mk hb3; have hg3 : w3.heap[g]? = some (.cells (mkI64 0 rem.length (.slice A bl c)) 93 (0, 0)) := (hb3.block g hglt).trans ((Below.heap_alloc _ _ _ hglt).trans (by rw [← HBL.out]; exact HH.out.blk)); have HG3 := Aside0.mk hg3; have e0 : w3.cell? ⟨g, 0, none⟩ = some (.int .i64 rem.length) := blk_cell hg3 0; have e1 : w3.cell? ⟨g, 1, none⟩ = some (.slice A bl c) := blk_cell hg3 1; have ez0 := blk_frozen hg3 0; have ez1 := blk_frozen hg3 1; clear hq3 hb3 hg3 f0 f1 fz))
  go_wp2_with fail
  go_ret2
  have hgw : W.grownBy w3 (some g) := gb_base HGW.out (HB3.out.mono HH.out.grown.size)
  have hga : Wa.grownBy w3 (some g) := gb_base (gb_drew (World.grownBy_alloc _ _ _)) HB3.out
  refine ⟨rfl, gb_set (p := ⟨g, 0, none⟩) (gb_set (p := ⟨g, 1, none⟩) hga (.inl rfl) _) (.inl rfl) _, ⟨A2, c - p, gb_set (p := ⟨g, 0, none⟩) (gb_set (p := ⟨g, 1, none⟩) hgw (.inl rfl) _) (.inl rfl) _, HH.out.lt, ?_, HR2.out, HL2.out, ?_⟩, (rem.take n).map decVI64, by rw [List.length_map, List.length_take]; omega, ?_, ?_⟩
  · rw [HBM.out]
    have h2 := blk_set (blk_set HG3.out 1 (.slice A2 bm (c - p))) 0 (.int .i64 ((rem.length - n : Nat) : Int))
    have e : ((rem.length - n : Nat) : Int) = (rem.length : Int) - n := by omega
    simp only [e] at h2 ⊢
    first | exact h2 | simpa [mkI64, e] using h2
  · rw [flatI64_len, List.length_drop]; omega
  · exact (Below.heap_setCell _ ⟨g, 0, none⟩ _ Wa.heap.size hqg).trans ((Below.heap_setCell _ ⟨g, 1, none⟩ _ Wa.heap.size hqg).trans HQ3.out)
  · refine ⟨by rw [List.length_map], fun j x y hx hy => ?_⟩
    rw [List.getElem?_map, hy] at hx
    exact Option.some.inj hx
set_option maxRecDepth 100000 in
set_option maxHeartbeats 4000000 in
theorem decI64_err (n g c nv : Nat) (A : Option Addr) (bs : List Int) (q : Addr) (W w : World) (hn : n ≤ nv) (hr : nv ≤ 500) (hs : bs.length < n * 8) (h : DB 93 (mkI64 0) W g w nv bs A c) :
    Calls Try.prog 50 #[.pointer (some ⟨g, 0, none⟩), .slice (some q) n n] w (RedErr w) := by
  obtain ⟨p, hp⟩ : ∃ p, n * 8 = p := ⟨_, rfl⟩
  have hps : p ≤ 20000 := by omega
  rw [hp] at hs
  have HP := Aside0.mk hp
  obtain ⟨f0, f1, fz⟩ := h.cellsI64
  clear h hp
  go_enter Try.func50, Try.ntmps50
  go_wp2_with (first | (go_at_call 80; (with_reducible refine (req_atI64 n p HP.out _ (by omega)).mono ?_); rintro e w1 ⟨rfl, rfl⟩) | (go_at_call 74; (with_reducible refine (err_any _ _).mono ?_); rintro e w1 ⟨t, pv, rfl, hb⟩))
  go_ret2
  exact ⟨_, _, _, rfl, hb⟩

end Go.Proofs.Ytbghkoalmjfpiaa.Plain
