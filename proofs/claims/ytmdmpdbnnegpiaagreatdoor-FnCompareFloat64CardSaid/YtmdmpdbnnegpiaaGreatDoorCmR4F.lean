/- What is due of comparisons of one type. -/
import Derived.Test.YtmdmpdbnnegpiaaGreatDoorCmR3F
import Derived.Deep.LoopGhost
import Derived.Deep.CutRange
import Derived.Deep.DeepCutAuto
import Derived.Deep.CutBlock
namespace Go.Proofs.YtmdmpdbnnegpiaaGreatDoor.Cmp
open Go.RowKit Go.Proofs.YtmdmpdbnnegpiaaGreatDoorW.PrintWords Go.Proofs.YtmdmpdbnnegpiaaGreatDoorW.PrintLast Go.Proofs.YtmdmpdbnnegpiaaGreatDoorW.PrintMore
set_option linter.unusedVariables false
set_option linter.unusedSimpArgs false

def DueP (due : List Bool) (w : World) (e : Ending) (w' : World) : Prop := ∃ v, e = .returned v ∧ Kd.R Kd.bool 4 w' w.heap.size (fun _ => True) v due ∧ Below w.heap.size w w'
theorem info4 : (Tryz.prog.info? 4).map (fun i => (i.zero, i.size, i.bytes)) = some (some (.bool false), 1, 1) := by kernel_rfl
theorem far {w : World} {p : Addr} {v : Value} (h : w.cell? p = some v) : ∀ W : World, Below w.heap.size w W → W.cell? p = some v := fun W hb => (hb.cell (World.block_lt_of_cell? w _ h)).trans h
def px (how i : Nat) : Nat := if how = 2 then 0 else i
def py (how i : Nat) : Nat := if how = 1 then 0 else i
theorem gv_map (xs : List Int) (k : Nat) (h : k < xs.length) : gv (xs.map mkV) k = mkV (xs.getD k 0) := by
  unfold gv
  simp [List.getD_eq_getElem?_getD, h]
theorem due_snoc (f : Nat → Bool) (k : Nat) : (List.range (k + 1)).map f = (List.range k).map f ++ [f k] := by rw [List.range_succ, List.map_append]; rfl
set_option maxRecDepth 100000 in
set_option maxHeartbeats 8000000 in
theorem compDueF (op how na ca nb cb n : Nat) (A B : Option Addr) (xs ys : List Int) (w : World) (hA : Kd.C kV w A na (xs.map mkV)) (hB : Kd.C kV w B nb (ys.map mkV)) (hop : op ≤ 3) (hhow : how ≤ 2) (hx : ∀ i, i < n → px how i < na) (hy : ∀ i, i < n → py how i < nb) (hn : n ≤ 300) :
    Calls Tryz.prog 11 #[tv 3 64 false, .int .i64 op, .int .i64 how, .slice A na ca, .slice B nb cb, .int .i64 n] w (DueP ((List.range n).map (fun i => cmpF op (xs.getD (px how i) 0) (ys.getD (py how i) 0))) w) := by
  have HA := Aside0.mk hA
  have HB := Aside0.mk hB
  have HX := Aside0.mk (And.intro hx hy)
  have HO := Aside0.mk (And.intro hop hhow)
  clear hA hB hx hy hop hhow
  go_enter Tryz.func11, Tryz.ntmps11
  go_wp2
  have hk0 := heap_alloc_new w (.cells tvCF 37)
  have HK0 := Aside0.mk (show (w.alloc (.cells tvCF 37)).heap[w.heap.size]? = some (.cells tvCF 37 (0, 0)) from hk0)
  have HB0 := Aside0.mk (show Below w.heap.size w (w.alloc (.cells tvCF 37)) from (Below.refl _ _).alloc (Nat.le_refl _) _)
  change Code.wp _ _ _ _ (w.alloc (.cells tvCF 37))
  clear hk0
  generalize w.alloc (.cells tvCF 37) = w0 at HK0 HB0 ⊢
  go_loopg [13, 14] n (fun gk o i wr => ∃ k : Nat, k ≤ n ∧ gk = n - k ∧ i = .int .i64 k ∧ Aside0 (Kd.R Kd.bool 4 wr w0.heap.size (fun _ => True) o ((List.range k).map (fun i => cmpF op (xs.getD (px how i) 0) (ys.getD (py how i) 0)))) ∧ Aside0 (Below w0.heap.size w0 wr))
  case atStart => exact ⟨0, Nat.zero_le _, rfl, rfl, ⟨by simpa using Kd.R_nil _ _ _ _ _⟩, ⟨Below.refl _ _⟩⟩
  case round =>
    obtain ⟨k, hk, hgk, rfl, HR, HBR⟩ := hrel
    have HBW := Aside0.mk (HB0.out.trans (HBR.out.mono HB0.out.size))
    by_cases hlt : k < n
    · obtain ⟨hxk, hyk⟩ := And.intro (HX.out.1 k hlt) (HX.out.2 k hlt)
      have HS := Aside0.mk (due_snoc (fun i => cmpF op (xs.getD (px how i) 0) (ys.getD (py how i) 0)) k)
      have HP := Aside0.mk (fun W => place2_any how k W HO.out.2)
      have hxl : px how k < xs.length := by have := HA.out.1; rw [List.length_map] at this; omega
      have hyl : py how k < ys.length := by have := HB.out.1; rw [List.length_map] at this; omega
      obtain ⟨a, rfl, ax0, ax1, ax2, ax3⟩ := at_V (Kd.C_below HA.out HBW.out) (px how k) hxk
      obtain ⟨b, rfl, bx0, bx1, bx2, bx3⟩ := at_V (Kd.C_below HB.out HBW.out) (py how k) hyk
      rw [gv_map _ _ hxl] at ax0 ax1 ax2 ax3
      rw [gv_map _ _ hyl] at bx0 bx1 bx2 bx3
      have HLA := Aside0.mk (law_ansF op (xs.getD (px how k) 0) (ys.getD (py how k) 0))
      have HPE := Aside0.mk (show (if how = 2 then 0 else k) = px how k ∧ (if how = 1 then 0 else k) = py how k from ⟨rfl, rfl⟩)
      rw [HPE.out.1, HPE.out.2] at HP
      have HL := Aside0.mk (show ((List.range k).map (fun i => cmpF op (xs.getD (px how i) 0) (ys.getD (py how i) 0))).length = k by simp)
      generalize xs.getD (px how k) 0 = x at ax0 ax1 ax2 ax3 HS HLA
      generalize ys.getD (py how k) 0 = y at bx0 bx1 bx2 bx3 HS HLA
      generalize px how k = kx at ax0 ax1 ax2 ax3 hxk HP
      generalize py how k = ky at bx0 bx1 bx2 bx3 hyk HP
      dsimp only [mkV] at ax0 ax1 ax2 ax3 bx0 bx1 bx2 bx3
      clear hxl hyl HPE
      have hb0 := (HBR.out.block _ (block_lt HK0.out)).trans HK0.out
      have f0 := far (show wr.cell? ⟨w.heap.size, 0, none⟩ = some (.int .i64 3) from blk_cell hb0 0)
      have f1 := far (show wr.cell? ⟨w.heap.size, 1, none⟩ = some (.int .i64 64) from blk_cell hb0 1)
      have f2 := far (show wr.cell? ⟨w.heap.size, 2, none⟩ = some (.bool false) from blk_cell hb0 2)
      have f3 := far (show wr.cell? ⟨w.heap.size, 3, none⟩ = some (.int .i64 0) from blk_cell hb0 3)
      have f4 := far (show wr.cell? ⟨w.heap.size, 4, none⟩ = some (.int .i64 0) from blk_cell hb0 4)
      have f5 := far (show wr.cell? ⟨w.heap.size, 5, none⟩ = some (.int .i64 0) from blk_cell hb0 5)
      have f6 := far (show wr.cell? ⟨w.heap.size, 6, none⟩ = some (.string ⟨#[]⟩) from blk_cell hb0 6)
      have f7 := far (show wr.cell? ⟨w.heap.size, 7, none⟩ = some (.bool false) from blk_cell hb0 7)
      have f8 := far (show wr.cell? ⟨w.heap.size, 8, none⟩ = some (.slice none 0 0) from blk_cell hb0 8)
      have f9 := far (show wr.cell? ⟨w.heap.size, 9, none⟩ = some (.slice none 0 0) from blk_cell hb0 9)
      replace ax0 := far ax0
      replace ax1 := far ax1
      replace ax2 := far ax2
      replace ax3 := far ax3
      replace bx0 := far bx0
      replace bx1 := far bx1
      replace bx2 := far bx2
      replace bx3 := far bx3
      clear hb0
      go_upto_region 6 with (go_at_call 22; refine (HP.out _).mono ?_; rintro e w1 ⟨rfl, rfl⟩)
      have HNN := Aside0.mk (fun (z : Int) (W : World) => notNumF z W)
      go_cut [17] (fun s17 W => s17 = .bool (nnF x || nnF y) ∧ Aside0 (Below wr.heap.size wr W))
      case first =>
        cases hnx : nnF x
        · go_region_held3 (fun w' => Below wr.heap.size wr w') (first | exact Below.refl _ _ | exact (Below.refl _ _).drew | exact HN1.out | exact HN2.out | exact HN1.out.drew | exact HN3.out) (first | (have hg := HN1.out; clear hg; go_at_call 23; refine (HNN.out _ _).mono ?_; rintro e w2 ⟨rfl, hb⟩; have HN2 := Aside0.mk (HN1.out.trans (hb.mono HN1.out.size)); clear hb) | (go_at_call 23; refine (HNN.out _ _).mono ?_; rintro e w1 ⟨rfl, hb⟩; have HN1 := Aside0.mk (below_undrew hb : Below wr.heap.size wr w1); clear hb))
          all_goals
            go_wp2_with fail
            go_meet
            exact ⟨by simp [hnx], HN2⟩
        · have hbd : Below wr.heap.size wr wr.drew := (Below.refl _ _).drew
          have HNT := HNN.out x
          rw [hnx] at HNT
          have HNX := Aside0.mk HNT
          clear HNT
          (first | go_region_with ((go_at_call 23; refine (HNX.out _).mono ?_; rintro e w1 ⟨rfl, hb⟩; have HN1 := Aside0.mk (below_undrew hb : Below wr.heap.size wr w1); clear hb)) | fail) <;> (go_wp2_with fail; go_meet; exact ⟨by simp [hnx], HN1⟩)
      case rest =>
        obtain ⟨rfl, HN0⟩ := hcut
        rename World => wz
        cases hno : (nnF x || nnF y)
        · have HLA2 := Aside0.mk (show ans op (sgF x y) false = cmpF op x y by have h := HLA.out; rw [hno] at h; simpa using h)
          have HOR := Aside0.mk (fun (W : World) => orderF x y W)
          have HAN := Aside0.mk (fun (W : World) => answer_any op (sgF x y) false W HO.out.1)
          have HZ := HN0.out
          rw [HLA2.out] at HAN
          clear HLA HLA2 hno
          go_upto_region 9 with fail
          go_region_held3 (fun w' => Below wr.heap.size wr w') (first | exact HN0.out | exact HN0.out.drew | exact HN3.out) (first | (go_at_call 24; refine (HOR.out _).mono ?_; rintro e w3 ⟨rfl, hb⟩; have HN3 := Aside0.mk (show Below wr.heap.size wr w3 from HN0.out.trans ((below_undrew hb).mono HN0.out.size)); clear hb))
          all_goals
            go_wp2_with (first | (go_at_call 25; refine (HAN.out _).mono ?_; rintro e w4 ⟨rfl, rfl⟩) | ((with_reducible refine gate_builtin (b := .append) (xs := #[.tmp 56, .tmp 61]) rfl ?_); at_builtin; refine app1 Kd.bool (w0 := w0) w0.heap.size rfl (.tmp 56) (.tmp 61) 40 4 (.bool false) 1 rfl Tryz.underlying40 info4 rfl (by decide) (by omega) _ ((List.range k).map (fun i => cmpF op (xs.getD (px how i) 0) (ys.getD (py how i) 0))) (cmpF op x y) [.bool (cmpF op x y)] rfl rfl rfl (Kd.R_below HR.out HN3.out) (HBR.out.trans (HN3.out.mono HBR.out.size)) (Nat.le_trans HBR.out.size HN3.out.size) (by have := HL.out; omega) ?_; intro v5 w5 ho hb5; rw [← HS.out] at ho; have HO5 := Aside0.mk ho; have HB5 := Aside0.mk hb5; clear ho hb5))
            go_roundg (n - (k + 1))
            case measure => omega
            case rel => exact ⟨k + 1, by omega, rfl, by go_num, HO5, HB5⟩
        · have HAN := Aside0.mk (fun (W : World) => answer_any op 0 true W HO.out.1)
          have HLA2 := Aside0.mk (show ans op 0 true = cmpF op x y by have h := HLA.out; rw [hno] at h; simpa using h)
          rw [HLA2.out] at HAN
          have HN3 := HN0
          clear HLA HLA2 hno
          go_wp2_with (first | (go_at_call 25; refine (HAN.out _).mono ?_; rintro e w4 ⟨rfl, rfl⟩) | ((with_reducible refine gate_builtin (b := .append) (xs := #[.tmp 56, .tmp 61]) rfl ?_); at_builtin; refine app1 Kd.bool (w0 := w0) w0.heap.size rfl (.tmp 56) (.tmp 61) 40 4 (.bool false) 1 rfl Tryz.underlying40 info4 rfl (by decide) (by omega) _ ((List.range k).map (fun i => cmpF op (xs.getD (px how i) 0) (ys.getD (py how i) 0))) (cmpF op x y) [.bool (cmpF op x y)] rfl rfl rfl (Kd.R_below HR.out HN3.out) (HBR.out.trans (HN3.out.mono HBR.out.size)) (Nat.le_trans HBR.out.size HN3.out.size) (by have := HL.out; omega) ?_; intro v5 w5 ho hb5; rw [← HS.out] at ho; have HO5 := Aside0.mk ho; have HB5 := Aside0.mk hb5; clear ho hb5))
          go_roundg (n - (k + 1))
          case measure => omega
          case rel => exact ⟨k + 1, by omega, rfl, by go_num, HO5, HB5⟩
    · have hkn : k = n := by omega
      have HKN := Aside0.mk hkn
      clear hkn
      go_wp2_with fail
      go_ret
      have hr := HR.out
      rw [HKN.out] at hr
      exact ⟨_, rfl, Kd.R_lower hr HB0.out.size, HBW.out⟩

end Go.Proofs.YtmdmpdbnnegpiaaGreatDoor.Cmp
