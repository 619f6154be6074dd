/- The decoder of numbers of 96 bits: what it reads and what it leaves out. -/
import Derived.Test.YtbghkoalmjfpiaaR4A12
import Derived.StillTailTactics
namespace Go.Proofs.Ytbghkoalmjfpiaa.Plain
open Go.RowKit Go.Proofs.YtbghkoalmjfpiaaW.PrintWords Go.Proofs.YtbghkoalmjfpiaaW.PrintLast Go.Proofs.YtbghkoalmjfpiaaW.PrintMore Go.Proofs.Ytbghkoalmjfpiaa.PBatchedValues
set_option linter.unusedVariables false
set_option linter.unusedSimpArgs false

abbrev encI96 (v : V) : List Int := bytesOf v.txt
def mkI96 (wd : Int) (nv : Nat) (s : Value) : Array Value := #[.int .i64 nv, s, .int .i64 wd, .nilIface]
/-- What the laws ask of the values. -/
def OkI96 (wd : Nat) (l : List V) : Prop := wd = 0 ∧ True ∧ l.length ≤ 500 ∧ ∀ v ∈ l, (bytesOf v.txt).length = 12
theorem OkI96.drop {wd : Nat} {l : List V} (h : OkI96 wd l) (k : Nat) : OkI96 wd (l.drop k) := ⟨h.1, h.2.1, by have := h.2.2.1; rw [List.length_drop]; omega, fun v hv => h.2.2.2 v (List.mem_of_mem_drop hv)⟩
theorem flatI96_len : ∀ l : List V, (∀ v ∈ l, (bytesOf v.txt).length = 12) → (l.flatMap encI96).length = l.length * 12
  | [], _ => rfl
  | v :: l, h => by
    rw [List.flatMap_cons, List.length_append, flatI96_len l (fun u hu => h u (by simp [hu])), List.length_cons]
    have := h v (by simp)
    show (bytesOf v.txt).length + _ = _
    omega
theorem flatI96_drop (l : List V) (ht : ∀ v ∈ l, (bytesOf v.txt).length = 12) (k : Nat) (h : k ≤ l.length) : (l.flatMap encI96).drop (12 * k) = (l.drop k).flatMap encI96 := by
  have e1 : l.flatMap encI96 = (l.take k).flatMap encI96 ++ (l.drop k).flatMap encI96 := by rw [← List.flatMap_append, List.take_append_drop]
  have e2 : ((l.take k).flatMap encI96).length = 12 * k := by rw [flatI96_len _ (fun v hv => ht v (List.mem_of_mem_take hv)), List.length_take, Nat.min_eq_left h]; omega
  rw [e1, ← e2, List.drop_left]
theorem flatI96_at (l : List V) (ht : ∀ v ∈ l, (bytesOf v.txt).length = 12) (k : Nat) (h : k < l.length) : ((l.flatMap encI96).drop (12 * k)).take 12 = bytesOf (gv l k).txt := by
  rw [flatI96_drop l ht k (by omega)]
  have := flat_take0 encI96 l k h
  rwa [show (encI96 (gv l k)).length = 12 from ht _ (gv_mem h)] at this
theorem DB.cellsI96 {T : TypeId} {wd : Int} {W wr : World} {g nv : Nat} {bs : List Int} {A : Option Addr} {c : Nat} (h : DB T (mkI96 wd) W g wr nv bs A c) :
    wr.cell? ⟨g, 0, none⟩ = some (.int .i64 nv) ∧ wr.cell? ⟨g, 1, none⟩ = some (.slice A bs.length c) ∧ (∀ i, wr.frozen? ⟨g, i, none⟩ = false) :=
  ⟨blk_cell h.blk 0, blk_cell h.blk 1, blk_frozen h.blk⟩
set_option maxRecDepth 100000 in
theorem widthI96 (w : World) : Calls Try.prog 94 #[] w fun e w' => e = .returned (.int .i64 12) ∧ Below w.heap.size w w' := by
  have ta21 := fun (v : Value) (W : World) => ta_no (P := Try.prog) (t := 103) (a := 21) (xT := 20) v (.int .i32 0) (by kernel_rfl) (by kernel_rfl) (by decide) W
  have ta113 := fun (v : Value) (W : World) => ta_no (P := Try.prog) (t := 103) (a := 113) (xT := 20) v (.float .f32 0) (by kernel_rfl) (by kernel_rfl) (by decide) W
  have ta2 := fun (v : Value) (W : World) => ta_no (P := Try.prog) (t := 103) (a := 2) (xT := 20) v (.int .i64 0) (by kernel_rfl) (by kernel_rfl) (by decide) W
  have ta123 := fun (v : Value) (W : World) => ta_no (P := Try.prog) (t := 103) (a := 123) (xT := 20) v (.float .f64 0) (by kernel_rfl) (by kernel_rfl) (by decide) W
  go_enter Try.func94, Try.ntmps94
  go_wp2
  go_ret
  exact ⟨rfl, by go_grown⟩
set_option maxRecDepth 100000 in
theorem req_atI96 (n p : Nat) (hp : n * 12 = p) (w : World) (h : n ≤ 1000) : Calls Try.prog 82 #[.int .i64 n] w fun e w' => e = .returned (.int .i64 p) ∧ Below w.heap.size w w' := by
  have e : (p : Int) = (n : Int) * 12 := by omega
  rw [e]
  clear e hp
  go_enter Try.func82, Try.ntmps82
  go_wp2_with (go_at_call 94; (with_reducible refine (widthI96 _).mono ?_); rintro e w1 ⟨rfl, hb⟩)
  go_ret
  exact ⟨rfl, hb⟩
theorem req_oneI96 (w : World) : Calls Try.prog 82 #[.int .i64 1] w fun e w' => e = .returned (.int .i64 12) ∧ Below w.heap.size w w' := req_atI96 1 12 rfl w (by omega)
/-- What is left of a row of bytes behind its j first ones, at one world. -/
theorem cut_at {w : World} {A : Option Addr} {n : Nat} {xs : List Int} (h : ReadsOf (Value.int .u8) (0 : Int) w A n xs) (c j : Nat) (hj : j ≤ n) (hc : n ≤ c) :
    ∃ A', (∀ W : World, (Instr.slice 26 (.slice A n c) (some (.int .i64 (j : Int))) none none).run Try.prog W = .ok (.slice A' (n - j) (c - j)) W) ∧ ∀ w1, Below w.heap.size w w1 → ReadsOf (Value.int .u8) (0 : Int) w1 A' (n - j) (xs.drop j) := by
  obtain ⟨i, hi, hs⟩ := info5p
  obtain ⟨rfl, _⟩ : xs.length = n ∧ True := ⟨h.1, trivial⟩
  obtain ⟨A', h1, h2, h3⟩ := print_drop_of (P := Try.prog) (Value.int .u8) 0 26 5 .i64 Try.underlying26 hi hs A c xs (j : Int) (by omega) (by omega) hc
  simp only [Int.toNat_natCast, List.length_drop] at h1 h2 h3
  exact ⟨A', h1, fun w1 hb => h2 w1 (ReadsOf.below h hb)⟩
theorem infoA : (Try.prog.info? 103).map (·.size) = some 12 := by kernel_rfl
set_option maxRecDepth 100000 in
set_option maxHeartbeats 4000000 in
theorem getI96 (A : Option Addr) (n c i : Nat) (xs y : List Int) (w : World) (h : ReadsOf (Value.int .u8) (0 : Int) w A n xs) (hc : n ≤ c) (hi : 12 * i + 12 ≤ n) (hn : n ≤ 1000000) (hy : (xs.drop (12 * i)).take 12 = y) :
    Calls Try.prog 102 #[.slice A n c, .int .i64 i] w fun e w' => e = .returned (.agg (cellsA y).toArray) ∧ Below w.heap.size w w' := by
  obtain ⟨A', hcut, hrd⟩ := cut_at h c (12 * i) (by omega) hc
  have e : ((12 * i : Nat) : Int) = 12 * (i : Int) := by omega
  rw [e] at hcut
  have hxl : xs.length = n := h.1
  have hyl : y.length = 12 := by rw [← hy, List.length_take, List.length_drop]; omega
  obtain ⟨ad, hA, hrc⟩ : ∃ ad, A' = some ad ∧ ∀ W, Below w.heap.size w W → ∀ j v, (cellsA y)[j]? = some v → W.cell? (ad.add j) = some v := by
    obtain ⟨_, _, h3⟩ := hrd w (Below.refl _ _)
    obtain ⟨ad, hA, _⟩ := h3 (by omega)
    refine ⟨ad, hA, fun W hb j v hv => ?_⟩
    obtain ⟨_, _, h4⟩ := hrd W hb
    obtain ⟨ad', hA', h5⟩ := h4 (by omega)
    rw [hA] at hA'
    injection hA' with hA'
    subst hA'
    have hj : j < 12 := by
      have := (List.getElem?_eq_some_iff.1 hv).1
      rwa [cellsA_len, hyl] at this
    rw [h5 j (by omega), ← hv]
    have e2 : y[j]? = (xs.drop (12 * i))[j]? := by rw [← hy, List.getElem?_take, if_pos hj]
    have hj2 : j < (xs.drop (12 * i)).length := by rw [List.length_drop]; omega
    simp only [cellsA, List.getElem?_map, e2]
    simp [List.getD_eq_getElem?_getD, List.getElem?_eq_getElem hj2]
  subst hA
  have HRC := Aside0.mk hrc
  have HYL := Aside0.mk hyl
  have hin : (i : Int) ≤ 1000000 := by omega
  have hi0 : (0 : Int) ≤ 12 * (i : Int) := by omega
  have hin2 : 12 * (i : Int) ≤ (n : Int) := by omega
  have hwr : IntKind.i64.wrap (12 * (i : Int)) = 12 * (i : Int) := by rw [IntKind.wrap_i64]; omega
  have hnm : Nat.min (n - 12 * i) 12 = 12 := Nat.min_eq_right (by omega)
  have HNM := Aside0.mk hnm
  clear h hy hrd e hxl hyl hrc hnm
  have ta166 := fun (v : Value) (W : World) => ta_no (P := Try.prog) (t := 173) (a := 166) (xT := 20) v (.pointer none) (by kernel_rfl) (by kernel_rfl) (by decide) W
  have ta167 := fun (v : Value) (W : World) => ta_no (P := Try.prog) (t := 173) (a := 167) (xT := 20) v (.pointer none) (by kernel_rfl) (by kernel_rfl) (by decide) W
  have ta169 := fun (v : Value) (W : World) => ta_no (P := Try.prog) (t := 173) (a := 169) (xT := 20) v (.pointer none) (by kernel_rfl) (by kernel_rfl) (by decide) W
  have ta171 := fun (v : Value) (W : World) => ta_no (P := Try.prog) (t := 173) (a := 171) (xT := 20) v (.pointer none) (by kernel_rfl) (by kernel_rfl) (by decide) W
  have ta173 := fun (v : Value) (W : World) => ta_yes (P := Try.prog) (t := 173) (xT := 20) v (by kernel_rfl) W
  go_enter Try.func102, Try.ntmps102
  have HT1 := Aside0.mk True.intro
  go_wp2_with fail
  go_still_tail 7, (by kernel_rfl)
  go_wp2_with (first | (have hg := HT1.out; clear hg; (with_reducible show wpList _ _ _ _ _ _); refine wpList_copy_own rfl (.tmp 64) (.tmp 68) 26 26 rfl 5 Try.underlying26 (by kernel_rfl) w.heap.size 0 12 12 ad (n - 12 * i) (c - 12 * i) rfl rfl _ 103 (heap_alloc_new w _) (cellsA y) (by rw [cellsA_len, HYL.out]; exact HNM.out.symm) (HRC.out _ (((Below.refl _ _).alloc (Nat.le_refl _) _).drew)) (by rw [cellsA_len, HYL.out]; first | decide | simp) (cellsA_one y) ?_; generalize hw2 : World.setRow _ _ _ = w2; have HW2 := Aside0.mk (show w2.heap[w.heap.size]? = some (.cells (cellsA y).toArray 103 (0, 0)) by rw [← hw2, full_row _ _ (by rw [cellsA_len, HYL.out]; first | rfl | simp)]; exact row_set (heap_alloc_new w _)); have HB2 := Aside0.mk (show Below w.heap.size w w2 by rw [← hw2]; exact below_setRow (((Below.refl _ _).alloc (Nat.le_refl _) _).drew) (Nat.le_refl _) _); clear HT1 hw2) | (have hg := HW2.out; clear hg; (with_reducible show wpList _ _ _ _ _ _); refine wpList_load_row rfl 103 (.tmp 4) rfl w.heap.size rfl 103 (cellsA y).toArray (0, 0) _ HW2.out Try.underlying103 rfl (by rw [List.size_toArray, cellsA_len, HYL.out]; exact infoA) ?_; have HW3 := Aside0.mk HW2.out; clear HW2) | (have hg := HW3.out; clear hg; (with_reducible show wpList _ _ _ _ _ _); refine wpList_store_row rfl 103 (.tmp 4) (.tmp 70) rfl w.heap.size (cellsA y).toArray rfl rfl 103 _ HW3.out (by rw [List.size_toArray, cellsA_len, HYL.out]; exact infoA) rfl (all_oneCell_toArray (cellsA_one _)) ?_; generalize hw4 : World.setRow _ _ _ = w4; have HW4 := Aside0.mk (show w4.heap[w.heap.size]? = some (.cells (cellsA y).toArray 103 (0, 0)) by rw [← hw4]; exact row_set HW3.out); have HB4 := Aside0.mk (show Below w.heap.size w w4 by rw [← hw4]; exact below_setRow HB2.out (Nat.le_refl _) _); clear HW3 hw4))
  exact bodyPost_ret (v := .agg (cellsA y).toArray) (results_cell_row Try.results102 _ w4 w.heap.size 103 (cellsA y).toArray (0, 0) _ rfl HW4.out Try.underlying103 rfl (by rw [List.size_toArray, cellsA_len, HYL.out]; exact infoA)) rfl ⟨rfl, HB4.out⟩
def decVI96 (v : V) : List Int := bytesOf v.txt
/-- A new row of arrays. -/
def NewRowI96 (l : List V) (m : Nat) (w : World) (e : Ending) (w' : World) : Prop :=
  ∃ p, e = .returned (.slice (some ⟨p, 0, none⟩) m m) ∧ w.heap.size ≤ p ∧ w'.heap[p]? = some (.cells ((l.map decVI96).flatMap cellsA).toArray 103 (0, 0)) ∧ Below w.heap.size w w'
set_option maxRecDepth 100000 in
set_option maxHeartbeats 8000000 in
theorem fromI96 (A : Option Addr) (n m c : Nat) (l : List V) (w : World) (h : ReadsOf (Value.int .u8) (0 : Int) w A n (l.flatMap encI96)) (hc : n ≤ c) (hm : l.length = m) (hn : n = m * 12) (hms : m ≤ 500) (hr : ∀ v ∈ l, (bytesOf v.txt).length = 12) :
    Calls Try.prog 95 #[.slice A n c] w (NewRowI96 l m w) := by
  have hq : (n : Int) / 12 = (m : Int) := by omega
  have hnb : n ≤ 1000000 := by omega
  have hmk := makeA m (by omega)
  have hx0 : 0 ≤ (m : Int) := by omega
  have HH := Aside0.mk h
  have HR := Aside0.mk hr
  have HM := Aside0.mk hm
  have HN := Aside0.mk hn
  have HMA := Aside0.mk (madeA m)
  clear h hr hm hn
  go_enter Try.func95, Try.ntmps95
  go_wp2_with (go_at_call 82; (with_reducible refine (req_oneI96 _).mono ?_); rintro e w1 ⟨rfl, hb1⟩; have HB1 := Aside0.mk hb1; clear hb1)
  go_loopw [12] (fun i wr => ∃ k : Nat, k ≤ m ∧ i = .int .i64 k ∧ Aside0 (wr.heap[w1.heap.size]? = some (.cells ((fill ((l.take k).map decVI96) zA m).flatMap cellsA).toArray 103 (0, 0))) ∧ Aside0 (Below w1.heap.size w1 wr)) (fun i _ => m - (intOf i).toNat)
  case atStart => exact ⟨0, Nat.zero_le _, rfl, ⟨by rw [List.take_zero, List.map_nil, ← HMA.out]; exact heap_alloc_new _ _⟩, ⟨(Below.refl _ _).alloc (Nat.le_refl _) _⟩⟩
  case round =>
    clear hmk
    obtain ⟨k, hk, rfl, HQ, HB⟩ := hrel
    by_cases hlt : k < m
    · have hkl : k < l.length := by have := HM.out; omega
      have hyl : ((l.take k).map decVI96).length = k := by rw [List.length_map, List.length_take]; omega
      have hyt : TwA ((l.take k).map decVI96) := fun y hy => by
        obtain ⟨v, hv, rfl⟩ := List.mem_map.1 hy
        exact HR.out v (List.mem_of_mem_take hv)
      have h12 : (bytesOf (gv l k).txt).length = 12 := HR.out _ (gv_mem hkl)
      have hfa := flatI96_at l HR.out k hkl
      have HS := Aside0.mk (show (l.take (k + 1)).map decVI96 = (l.take k).map decVI96 ++ [bytesOf (gv l k).txt] by rw [take_snoc l k hkl, List.map_append]; rfl)
      have HG := Aside0.mk (fun W (hb : Below w.heap.size w W) => getI96 A n c k (l.flatMap encI96) _ W (ReadsOf.below HH.out hb) hc (by have := HN.out; omega) hnb hfa)
      have hql : w1.heap.size < wr.heap.size := block_lt HQ.out
      have HYL := Aside0.mk hyl
      have HYT := Aside0.mk hyt
      generalize bytesOf (gv l k).txt = x at HS HG h12
      have H12 := Aside0.mk h12
      have hcl12 : (cellsA x).length = 12 := by rw [cellsA_len, H12.out]
      clear hfa hyl hyt h12
      go_wp2_with (first | (go_at_call 102; (with_reducible refine (HG.out _ (HB1.out.trans (HB.out.mono HB1.out.size))).mono ?_); rintro e w3 ⟨rfl, hb3⟩; have hq4 : w3.heap[w1.heap.size]? = some (.cells ((fill ((l.take k).map decVI96) zA m).flatMap cellsA).toArray 103 (0, 0)) := (hb3.block _ hql).trans HQ.out; have HQ4 := Aside0.mk hq4; have hst := store_there (P := Try.prog) (vs := cellsA x) (there_row hq4 HYT.out (by rw [HYL.out]; exact hlt) HYL.out (by rw [cellsA_len, H12.out])) (cellsA_one x); have HB3 := Aside0.mk (HB.out.trans (hb3.mono HB.out.size)); clear hb3 hq4))
      go_roundw
      case rel =>
        refine ⟨k + 1, by omega, by go_num, ⟨?_⟩, ⟨sets_below (Nat.le_refl _) _ _ _ _ HB3.out⟩⟩
        have hl := fill_sets ((l.take k).map decVI96) x m HYT.out (by rw [HYL.out]; exact hlt) H12.out
        have h1 := sets_blk (cellsA x) (k * 12) _ _ HQ4.out (by rw [flatA_len _ (HYT.out.fills m), fill_len _ _ _ (by rw [HYL.out]; exact hk), cellsA_len, H12.out]; omega)
        rw [HYL.out] at hl
        rw [hl] at h1
        rw [HS.out]
        exact h1
      case measure => simp [intOf]; omega
    · obtain rfl : k = m := by omega
      go_wp2
      go_ret
      refine ⟨w1.heap.size, rfl, HB1.out.size, ?_, HB1.out.trans (HB.out.mono HB1.out.size)⟩
      have h1 := HQ.out
      have h2 := HM.out
      rw [List.take_of_length_le (by omega)] at h1
      have h3 : (l.map decVI96).length = k := by rw [List.length_map]; exact h2
      rw [← h3, fill_all] at h1
      exact h1
set_option maxRecDepth 100000 in
set_option maxHeartbeats 8000000 in
theorem copyFromI96 (A : Option Addr) (n m c q : Nat) (l : List V) (w : World) (h : ReadsOf (Value.int .u8) (0 : Int) w A n (l.flatMap encI96)) (hc : n ≤ c) (hm : l.length = m) (hn : n = m * 12) (hms : m ≤ 500) (hr : ∀ v ∈ l, (bytesOf v.txt).length = 12)
    (hq : w.heap[q]? = some (.cells ((fill ([] : List (List Int)) zA m).flatMap cellsA).toArray 103 (0, 0))) :
    Calls Try.prog 83 #[.slice (some ⟨q, 0, none⟩) m m, .slice A n c] w fun e w' => e = .returned (.tuple #[]) ∧ w'.heap[q]? = some (.cells ((l.map decVI96).flatMap cellsA).toArray 103 (0, 0)) ∧ Below q w w' := by
  have HF := Aside0.mk (fromI96 A n m c l w h hc hm hn hms hr)
  have HQ := Aside0.mk hq
  have htw : TwA (l.map decVI96) := fun y hy => by
    obtain ⟨v, hv, rfl⟩ := List.mem_map.1 hy
    exact hr v hv
  have hcl : ((l.map decVI96).flatMap cellsA).length = m * 12 := by rw [flatA_len _ htw, List.length_map, hm]
  have hfl : ((fill ([] : List (List Int)) zA m).flatMap cellsA).length = m * 12 := by rw [flatA_len _ (TwA.fills (fun y hy => by cases hy) m), fill_len _ _ _ (Nat.zero_le _)]
  have HCL := Aside0.mk hcl
  have HFL := Aside0.mk hfl
  have hql : q < w.heap.size := block_lt hq
  clear h hr hq hm hn hcl hfl htw
  go_enter Try.func83, Try.ntmps83
  go_wp2_with (first | (go_at_call 95; (with_reducible refine HF.out.mono ?_); rintro e w1 ⟨p, rfl, hp, hh, hb⟩; have HP := Aside0.mk hh; have HB := Aside0.mk hb; clear hh hb) | (have hg := HP.out; clear hg; (with_reducible show wpList _ _ _ _ _ _); refine wpList_copyN rfl (.tmp 4) (.tmp 6) 105 105 rfl 103 Try.underlying105 12 m infoA q m m ⟨p, 0, none⟩ m m rfl rfl ((fill ([] : List (List Int)) zA m).flatMap cellsA).toArray 103 ((HB.out.block q hql).trans HQ.out) ((l.map decVI96).flatMap cellsA) (Nat.min_self m) HCL.out (fun j v hj => by rw [add_plain, blk_cell HP.out j]; simpa using hj) (by rw [List.size_toArray, HCL.out, HFL.out]; exact Nat.le_refl _) (fun v hv => by obtain ⟨y, _, hy⟩ := List.mem_flatMap.1 hv; exact cellsA_one y v hy) ?_; generalize hw2 : World.setRow _ _ _ = w2; have HW2 := Aside0.mk hw2; clear hw2))
  go_end0
  refine ⟨rfl, ?_, ?_⟩
  · have h1 := row_set (c := (((l.map decVI96).flatMap cellsA) ++ (((fill ([] : List (List Int)) zA m).flatMap cellsA).toArray.toList.drop ((l.map decVI96).flatMap cellsA).length)).toArray) ((HB.out.block q hql).trans HQ.out)
    have e : ((l.map decVI96).flatMap cellsA) ++ (((fill ([] : List (List Int)) zA m).flatMap cellsA).toArray.toList.drop ((l.map decVI96).flatMap cellsA).length) = (l.map decVI96).flatMap cellsA := by
      rw [List.drop_of_length_le (by rw [HCL.out]; simp only [List.toList_toArray]; rw [HFL.out]; exact Nat.le_refl _), List.append_nil]
    rw [e] at h1
    rw [← HW2.out, e]
    exact h1
  · rw [← HW2.out]
    exact below_setRow (HB.out.mono (Nat.le_of_lt hql)) (Nat.le_refl _) _
/-! ### the decoder's calls -/
set_option maxRecDepth 100000 in
set_option maxHeartbeats 4000000 in
theorem dis0I96 (k p g c nv : Nat) (A : Option Addr) (bs : List Int) (W w : World) (hk : k ≤ nv) (hn : nv ≤ 500) (hp : k * 12 = p) (hpb : p ≤ bs.length) (hps : p ≤ 1000000) (h : DB 104 (mkI96 0) W g w nv bs A c) :
    Calls Try.prog 57 #[.pointer (some ⟨g, 0, none⟩), .int .i64 k] w (Went 104 (mkI96 0) W g nv k (bs.drop p) w) := by
  obtain ⟨f0, f1, fz⟩ := h.cellsI96
  obtain ⟨A', hcut, hrd, hle⟩ := h.rd.cut c p hpb h.le
  have hd1 : decide ((2147483647 : Int) < (p : Int)) = false := decide_eq_false (by omega)
  have HH := Aside0.mk h
  have HRD := Aside0.mk hrd
  have HLE := Aside0.mk hle
  have HP := Aside0.mk hp
  clear h hrd hle hp
  go_enter Try.func57, Try.ntmps57
  go_wp2_with (go_at_call 82; (with_reducible refine (req_atI96 k p HP.out _ (by omega)).mono ?_); rintro e w1 ⟨rfl, hb1⟩; have HB1 := Aside0.mk hb1; have HD1 := Aside0.mk (HH.out.below (hb1.mono HH.out.grown.size)); clear f0 f1 fz hb1; obtain ⟨f0, f1, fz⟩ := HD1.out.cellsI96)
  go_ret2
  refine ⟨rfl, gb_set (p := ⟨g, 0, none⟩) (gb_set (p := ⟨g, 1, none⟩) (gb_below (World.grownBy.refl _ _) HB1.out) (.inl rfl) _) (.inl rfl) _, A', c - p, gb_set (gb_set HD1.out.grown (.inl rfl) _) (.inl rfl) _, HH.out.lt, ?_, HRD.out, HLE.out, by have := HH.out.small; rw [List.length_drop]; omega⟩
  have h2 := blk_set (blk_set HD1.out.blk 1 (.slice A' (bs.drop p).length (c - p))) 0 (.int .i64 ((nv - k : Nat) : Int))
  have e : ((nv - k : Nat) : Int) = (nv : Int) - k := by omega
  simp only [e] at h2 ⊢
  first | exact h2 | simpa [mkI96, e] using h2
theorem disI96 (dd g c m : Nat) (A : Option Addr) (rem : List V) (W w : World) (hk : m ≤ rem.length) (ho : OkI96 0 rem) (h : DB 104 (mkI96 0) W g w rem.length (rem.flatMap encI96) A c) :
    Calls Try.prog 57 #[.pointer (some ⟨g, 0, none⟩), .int .i64 m] w (Went 104 (mkI96 0) W g rem.length m ((rem.drop m).flatMap encI96) w) := by
  have hr := ho.2.2.1
  have ed := flatI96_drop rem ho.2.2.2 m hk
  rw [← ed]
  exact dis0I96 m (12 * m) g c rem.length A (rem.flatMap encI96) W w hk hr (by omega) (by rw [flatI96_len rem ho.2.2.2]; omega) (by omega) h
/-- What stands of a reading: n arrays read into a new block. -/
def RedA (W : World) (g : Nat) (Wa : World) (rem : List V) (n : Nat) (e : Ending) (w' : World) : Prop :=
  e = .returned (.tuple #[.int .i64 n, .nilIface]) ∧ Wa.grownBy w' (some g) ∧ (∃ A c, DB 104 (mkI96 0) W g w' (rem.length - n) ((rem.drop n).flatMap encI96) A c) ∧
    w'.heap[Wa.heap.size]? = some (.cells (((rem.take n).map decVI96).flatMap cellsA).toArray 103 (0, 0))
set_option maxRecDepth 100000 in
set_option maxHeartbeats 8000000 in
theorem decI96 (dd n g c : Nat) (A : Option Addr) (rem : List V) (W Wa : World) (hn : n ≤ rem.length) (ho : OkI96 0 rem) (h : DB 104 (mkI96 0) W g Wa rem.length (rem.flatMap encI96) A c) :
    Calls Try.prog 56 #[.pointer (some ⟨g, 0, none⟩), .slice (some ⟨Wa.heap.size, 0, none⟩) n n] (Wa.alloc (.cells (madeCells (cellsA zA).toArray (n * 12)) 103)) (RedA W g Wa rem n) := by
  have hr := ho.2.2.1
  have hrng := ho.2.2.2
  have hl := flatI96_len rem hrng
  obtain ⟨p, hp⟩ : ∃ p, n * 12 = p := ⟨_, rfl⟩
  obtain ⟨bl, hbl⟩ : ∃ bl, (rem.flatMap encI96).length = bl := ⟨_, rfl⟩
  have hpb : p ≤ bl := by omega
  have hps : p ≤ 20000 := by omega
  obtain ⟨f0, f1, fz⟩ := h.cellsI96
  have hcb := h.le
  have hd1 : decide ((2147483647 : Int) < (p : Int)) = false := decide_eq_false (by omega)
  have hd2 : decide (bl < p) = false := decide_eq_false (by omega)
  have hqg : Wa.heap.size ≠ g := by have := h.lt; have := h.grown.size; omega
  have hgq : g ≠ Wa.heap.size := fun e => hqg e.symm
  have hglt : g < Wa.heap.size := by have := h.lt; have := h.grown.size; omega
  obtain ⟨A2, hcut, hrd2, hle2⟩ := h.rd.cut c p (by omega) hcb
  obtain ⟨hhead, hrd1⟩ := h.rd.head c p (by omega) hcb
  have ep : p = 12 * n := by omega
  have t1 : (rem.flatMap encI96).drop p = (rem.drop n).flatMap encI96 := by rw [ep]; exact flatI96_drop rem hrng n hn
  have t2 : ((rem.take n).flatMap encI96).length = p := by rw [flatI96_len _ (fun v hv => hrng v (List.mem_of_mem_take hv)), List.length_take, Nat.min_eq_left hn]; omega
  have t0 : (rem.flatMap encI96).take p = (rem.take n).flatMap encI96 := by
    have e1 : rem.flatMap encI96 = (rem.take n).flatMap encI96 ++ (rem.drop n).flatMap encI96 := by rw [← List.flatMap_append, List.take_append_drop]
    rw [e1, ← t2, List.take_left]
  rw [t0] at hhead hrd1
  rw [t1] at hcut hrd2 hle2
  obtain ⟨bm, hbm⟩ : ∃ bm, ((rem.drop n).flatMap encI96).length = bm := ⟨_, rfl⟩
  have HCF := Aside0.mk (fun W2 (hg : W.grownBy W2 (some g)) (hq : W2.heap[Wa.heap.size]? = _) => copyFromI96 A p n c Wa.heap.size (rem.take n) W2 (by have := hrd1 W2 hg; rwa [t2] at this) (by omega) (by rw [List.length_take]; omega) hp.symm (by omega) (fun v hv => hrng v (List.mem_of_mem_take hv)) hq)
  rw [hbl] at f1 hcut hhead hcb
  rw [hbm] at hcut
  rw [t2] at hhead
  have HH := Aside0.mk h
  have HR2 := Aside0.mk hrd2
  have HL2 := Aside0.mk hle2
  have HBM := Aside0.mk hbm
  have HBL := Aside0.mk hbl
  have HP := Aside0.mk hp
  have HT2 := Aside0.mk (flatI96_len (rem.drop n) (fun v hv => hrng v (List.mem_of_mem_drop hv)))
  have hpc : p ≤ c := by omega
  have HQF := Aside0.mk (madeA n)
  clear h hl hbl hp t0 t1 t2 hrd1 hrd2 hle2 hbm ho hrng ep
  go_enter Try.func56, Try.ntmps56
  go_wp2_with (go_at_call 82; (with_reducible refine (req_atI96 n p HP.out _ (by omega)).mono ?_); rintro e w1 ⟨rfl, hb1⟩; have hb1' : Below (Wa.heap.size + 1) (Wa.alloc (.cells (madeCells (cellsA zA).toArray (n * 12)) 103)) w1 := (by have := hb1; rwa [World.size_alloc] at this); have HB1 := Aside0.mk hb1'; have hg1 : w1.heap[g]? = some (.cells (mkI96 0 rem.length (.slice A bl c)) 104 (0, 0)) := (hb1'.block g (by omega)).trans ((Below.heap_alloc _ _ _ hglt).trans (by rw [← HBL.out]; exact HH.out.blk)); clear f0 f1 fz hb1 hb1'; have f0 : w1.cell? ⟨g, 0, none⟩ = some (.int .i64 rem.length) := blk_cell hg1 0; have f1 : w1.cell? ⟨g, 1, none⟩ = some (.slice A bl c) := blk_cell hg1 1; have HG1 := Aside0.mk hg1; clear hg1)
  have HGW := Aside0.mk (show W.grownBy w1.drew (some g) from gb_drew (gb_below (HH.out.grown.trans (World.grownBy_alloc _ _ _)) (by rw [World.size_alloc]; exact HB1.out)))
  have HGA := Aside0.mk (show Wa.grownBy w1.drew (some g) from gb_drew (gb_below (World.grownBy_alloc _ _ _) (by rw [World.size_alloc]; exact HB1.out)))
  have HQW := Aside0.mk (show w1.drew.heap[Wa.heap.size]? = some (.cells ((fill ([] : List (List Int)) zA n).flatMap cellsA).toArray 103 (0, 0)) from (HB1.out.block _ (by omega)).trans (by rw [← HQF.out]; exact heap_alloc_new _ _))
  go_region_held3 (fun w' => w'.cell? ⟨g, 1, none⟩ = some (.slice A bl c)) (first | exact f1 | exact e1 | (go_keep; done)) (first | (go_at_call 83; refine (HCF.out _ HGW.out HQW.out).mono ?_; rintro e w3 ⟨rfl, hq3, hb3⟩; have HQ3 := Aside0.mk hq3; have HB3 := Aside0.mk hb3; have hg3 : w3.heap[g]? = some (.cells (mkI96 0 rem.length (.slice A bl c)) 104 (0, 0)) := (hb3.block g hglt).trans HG1.out; have HG3 := Aside0.mk hg3; have e0 : w3.cell? ⟨g, 0, none⟩ = some (.int .i64 rem.length) := blk_cell hg3 0; have e1 : w3.cell? ⟨g, 1, none⟩ = some (.slice A bl c) := blk_cell hg3 1; have ez0 := blk_frozen hg3 0; have ez1 := blk_frozen hg3 1; clear hq3 hb3 hg3 f0 f1))
  go_wp2_with fail
  go_ret2
  have hgw : W.grownBy w3 (some g) := gb_base HGW.out (HB3.out.mono HH.out.grown.size)
  have hga : Wa.grownBy w3 (some g) := gb_base HGA.out HB3.out
  refine ⟨rfl, gb_set (p := ⟨g, 0, none⟩) (gb_set (p := ⟨g, 1, none⟩) hga (.inl rfl) _) (.inl rfl) _, ⟨A2, c - p, gb_set (p := ⟨g, 0, none⟩) (gb_set (p := ⟨g, 1, none⟩) hgw (.inl rfl) _) (.inl rfl) _, HH.out.lt, ?_, HR2.out, HL2.out, ?_⟩, ?_⟩
  · rw [HBM.out]
    have h2 := blk_set (blk_set HG3.out 1 (.slice A2 bm (c - p))) 0 (.int .i64 ((rem.length - n : Nat) : Int))
    have e : ((rem.length - n : Nat) : Int) = (rem.length : Int) - n := by omega
    simp only [e] at h2 ⊢
    first | exact h2 | simpa [mkI96, e] using h2
  · rw [HT2.out, List.length_drop]; omega
  · exact (Below.heap_setCell _ ⟨g, 0, none⟩ _ Wa.heap.size hqg).trans ((Below.heap_setCell _ ⟨g, 1, none⟩ _ Wa.heap.size hqg).trans HQ3.out)
set_option maxRecDepth 100000 in
set_option maxHeartbeats 4000000 in
theorem decI96_err (n g c nv : Nat) (A : Option Addr) (bs : List Int) (q : Addr) (W w : World) (hn : n ≤ nv) (hr : nv ≤ 500) (hs : bs.length < n * 12) (h : DB 104 (mkI96 0) W g w nv bs A c) :
    Calls Try.prog 56 #[.pointer (some ⟨g, 0, none⟩), .slice (some q) n n] w (RedErr w) := by
  obtain ⟨p, hp⟩ : ∃ p, n * 12 = p := ⟨_, rfl⟩
  have hps : p ≤ 20000 := by omega
  rw [hp] at hs
  have HP := Aside0.mk hp
  obtain ⟨f0, f1, fz⟩ := h.cellsI96
  have HH := Aside0.mk h
  clear h hp
  go_enter Try.func56, Try.ntmps56
  go_wp2_with (first | (go_at_call 82; (with_reducible refine (req_atI96 n p HP.out _ (by omega)).mono ?_); rintro e w1 ⟨rfl, hb1⟩; have HB1 := Aside0.mk hb1; have HD1 := Aside0.mk (HH.out.below (hb1.mono HH.out.grown.size)); clear f0 f1 fz hb1; obtain ⟨f0, f1, fz⟩ := HD1.out.cellsI96) | (go_at_call 74; (with_reducible refine (err_any _ _).mono ?_); rintro e w1 ⟨t, pv, rfl, hb⟩))
  go_ret2
  exact ⟨_, _, _, rfl, HB1.out.trans (hb.mono HB1.out.size)⟩

end Go.Proofs.Ytbghkoalmjfpiaa.Plain
