/- The thin package's joining of run ends. -/
import Derived.Test.YtldkpgjpfhoekaaJrI0
namespace Go.Proofs.Ytldkpgjpfhoekaa.Join
open Go.RowKit Go.Proofs.YtldkpgjpfhoekaaW.PrintWords Go.Proofs.YtldkpgjpfhoekaaW.PrintLast Go.Proofs.YtldkpgjpfhoekaaW.PrintMore
set_option linter.unusedVariables false
set_option linter.unusedSimpArgs false

set_option maxRecDepth 100000 in
set_option maxHeartbeats 8000000 in
theorem joinRuns (A : Option Addr) (n c z M N : Nat) (ps : List Pt) (es : List (List Int)) (w : World) (h : Goes w A n ps z es) (hc : n ≤ c) (hM : (jn (ps.map offLen) es n).length = M) (hN : M * z = N) :
    Calls Try.prog 5 #[.slice A n c, .int .i64 z] w (RetJ z (jn (ps.map offLen) es n) w) := by
  obtain ⟨z3, hrow, hhas, hbts, hfit⟩ := h
  have hfew := hfit.few
  have hpl : ps.length = n := hrow.1
  have hMs : M ≤ 10000 := by have := hfit.small n (Nat.le_refl _); omega
  have hz8 : z ≤ 8 := by omega
  have hNs : N ≤ 80000 := by have := Nat.mul_le_mul hMs hz8; omega
  have HP := Aside0.mk hrow
  have HT := Aside0.mk hbts
  have HH := Aside0.mk hhas
  have HF := Aside0.mk hfit
  have HM := Aside0.mk (And.intro hM hN)
  have HZ := Aside0.mk z3
  clear hrow hhas hbts hfit hM hN z3
  go_enter_defers Try.func5, Try.ntmps5
  go_upto_region 4 with fail
  have HF0 := Aside0.mk (fra0 w (.slice none 0 0))
  have hsz : ((w.alloc (.cells #[.slice none 0 0] 24)).alloc (.cells #[.bool false] 4)).heap.size = w.heap.size + 2 := by simp
  generalize (w.alloc (.cells #[.slice none 0 0] 24)).alloc (.cells #[.bool false] 4) = ws at HF0 hsz ⊢
  go_wp2_with fail
  go_loopw [6, 7, 13] (fun o num i wr => ∃ k : Nat, k ≤ n ∧ i = .int .i64 k ∧ num = .int .i64 (((jn (ps.map offLen) es k).length * z : Nat) : Int) ∧ Aside0 (Kd.R kB 39 wr ws.heap.size (fun _ => True) o ((es.map (fun E => bytesL z (usz z E))).take k)) ∧ Aside0 (Below ws.heap.size ws wr)) (fun _ _ i _ => n - (intOf i).toNat)
  case atStart => exact ⟨0, Nat.zero_le _, rfl, by simp [jn], ⟨by simpa using Kd.R_nil _ _ _ _ _⟩, ⟨Below.refl _ _⟩⟩
  case round =>
    obtain ⟨k, hk, rfl, rfl, HO, HB⟩ := hrel
    have HFR := Aside0.mk (HF0.out.step HB.out)
    by_cases hlt : k < n
    · obtain ⟨ad, rfl, c0, c1, c2, c3⟩ := at_P (Kd.C_below HP.out HFR.out.bel) k hlt
      obtain ⟨r1, r2, r3⟩ := HT.out.2 k (by omega)
      rw [HH.out k hlt] at c0
      have hlen := HF.out.eslen
      have hkE : k < (es.map (fun E => bytesL z (usz z E))).length := by rw [List.length_map]; omega
      have HS := Aside0.mk (map_snoc (fun x => x) (es.map (fun E => bytesL z (usz z E))) k [] hkE)
      simp only [List.map_id'] at HS
      have hf1 := HF.out.at_ k hlt
      have hjl := jn_len (ps.map offLen) es k hf1.cnt0
      have hyl : ((es.map (fun E => bytesL z (usz z E))).getD k []).length = (es.getD k []).length * z := by
        rw [List.getD_eq_getElem?_getD, List.getElem?_map, List.getElem?_eq_getElem (by omega), List.getD_eq_getElem?_getD, List.getElem?_eq_getElem (by omega)]
        simp [bytesL_len, usz_len]
      have hn1 : (gp ps k).n = (es.getD k []).length * z := by have := r1.1; omega
      have hn2 : (gp ps k).n ≤ 4000 := by have := Nat.mul_le_mul hf1.cnt5 hz8; omega
      have hj1 := HF.out.small k hk
      have hj2 := Nat.mul_le_mul (show (jn (ps.map offLen) es k).length ≤ 10000 by omega) hz8
      have HJ := Aside0.mk (show (jn (ps.map offLen) es (k + 1)).length * z = (jn (ps.map offLen) es k).length * z + (gp ps k).n by rw [hjl, Nat.add_mul, hn1])
      generalize (jn (ps.map offLen) es k).length * z = num at hj2 HJ ⊢
      have HR := Aside0.mk (fun (W : World) (hb : Below wr.heap.size wr W) => copied_any (gp ps k).A (gp ps k).n (gp ps k).c ((es.map (fun E => bytesL z (usz z E))).getD k []) W (Kd.C_of_reads (d := 0) ((r1.below HFR.out.bel).below hb)) (by omega))
      have HL := Aside0.mk (show ((es.map (fun E => bytesL z (usz z E))).getD k []).length = (gp ps k).n from r1.1)
      have HT5 := Aside0.mk (show ((es.map (fun E => bytesL z (usz z E))).take k).length ≤ 1000 by rw [List.length_take]; omega)
      have hnc := r2
      clear r1 r2 r3 hf1 hjl hyl hn1 hlen hj1 hkE
      generalize (es.map (fun E => bytesL z (usz z E))).getD k [] = y at HR HS HL
      generalize gp ps k = p at c0 c1 c2 c3 HR HJ hnc hn2 HL
      rcases p with ⟨has, pA, pn, pc, off, len⟩
      dsimp only at c0 c1 c2 c3 HR HJ hnc hn2 HL
      go_wp2_with fail
      have enum : IntKind.i64.wrap ((num : Int) + (pn : Int)) = ((num + pn : Nat) : Int) := by rw [IntKind.wrap_i64]; omega
      have HP1 := Aside0.mk (((Below.refl wr.heap.size wr).alloc (Nat.le_refl _) (.cells #[.bool true, .slice pA pn pc, .int .i64 off, .int .i64 len] 28)))
      have k1 := heap_alloc_new wr (.cells #[.bool true, .slice pA pn pc, .int .i64 off, .int .i64 len] 28)
      have q1 : (wr.alloc (.cells #[.bool true, .slice pA pn pc, .int .i64 off, .int .i64 len] 28)).cell? ⟨wr.heap.size, 1, none⟩ = some (.slice pA pn pc) := blk_cell k1 1
      have hwl : wr.heap.size < (wr.alloc (.cells #[.bool true, .slice pA pn pc, .int .i64 off, .int .i64 len] 28)).heap.size := by simp
      have K1 := Aside0.mk k1
      clear k1
      generalize wr.alloc (.cells #[.bool true, .slice pA pn pc, .int .i64 off, .int .i64 len] 28) = wp at HP1 q1 hwl K1 ⊢
      go_region_held3 (fun w' => w'.cell? ⟨wr.heap.size, 1, none⟩ = some (.slice pA pn pc)) (first | exact q1 | exact q3 | exact q5 | (go_keep; done)) (first
        | (go_at_call 12
           refine (HR.out _ HP1.out.drew).mono ?_
           rintro e w1 ⟨v1, rfl, hr1, hb1⟩
           obtain ⟨A1, c1, rfl, hc1, _⟩ := Kd.R_reads hr1
           have HR1 := Aside0.mk (show Kd.R (Kd.int .u8) 5 w1 ws.heap.size (fun _ => True) (.slice A1 y.length c1) y from Kd.R_lower hr1 (Nat.le_trans HB.out.size (Nat.le_of_lt hwl)))
           have HB1 := Aside0.mk (show Below wr.heap.size wr w1 from HP1.out.drew.trans (hb1.mono (show wr.heap.size ≤ wp.heap.size by omega)))
           have q3 : w1.cell? ⟨wr.heap.size, 1, none⟩ = some (.slice pA pn pc) := (hb1.cell (p := ⟨wr.heap.size, 1, none⟩) hwl).trans q1
           have K3 := Aside0.mk ((hb1.block wr.heap.size hwl).trans K1.out)
           clear hr1 hb1)
        | (have hg := HB1.out; clear hg; go_at_call 11
           refine (newBuf A1 y.length c1 _).mono ?_
           rintro e w2 ⟨rfl, rfl⟩)
        | (have hg := HB1.out; clear hg
           refine appBs (w0 := ws) ws.heap.size rfl (.tmp 17) (.tmp 22) rfl _ ((es.map (fun E => bytesL z (usz z E))).take k) w1.heap.size A1 c1 y (w1.heap.size + 1) (by simp) rfl rfl (heap_alloc_new w1 _) (Nat.le_trans HB.out.size HB1.out.size) (Kd.R_below HR1.out ((Below.refl _ _).alloc (Nat.le_refl _) _)) (Kd.R_below (Kd.R_below HO.out HB1.out) ((Below.refl _ _).alloc (Nat.le_refl _) _)) ((HB.out.trans (HB1.out.mono HB.out.size)).alloc (Nat.le_trans HB.out.size HB1.out.size) _) (by simp; have := HB.out.size; have := HB1.out.size; omega) HT5.out ?_
           intro v4 w4 ho4 hb4 hg4
           have q5 : w4.cell? ⟨wr.heap.size, 1, none⟩ = some (.slice pA pn pc) := blk_cell ((hg4.block wr.heap.size (block_lt (one_up K3.out)) (Kd.R_ne (Kd.R_below HO.out HB1.out) K3.out (by decide))).trans (one_up K3.out)) 1
           have HO4 := Aside0.mk ho4
           have HB4 := Aside0.mk hb4
           clear ho4 hb4 hg4))
      clear enum
      go_wp2_with fail
      go_roundw
      case rel => exact ⟨k + 1, by omega, by go_num, by rw [HJ.out]; rfl, by rw [HS.out]; exact HO4, HB4⟩
      case measure => simp [intOf]; omega
    · obtain rfl : k = n := by omega
      have hE : (es.map (fun E => bytesL z (usz z E))).take k = es.map (fun E => bytesL z (usz z E)) := List.take_of_length_le (by rw [List.length_map]; have := HF.out.eslen; omega)
      have ho := HO.out
      rw [hE] at ho
      obtain ⟨B, cB, rfl, hcB, hCB⟩ := Kd.R_reads ho
      have hEl : (es.map (fun E => bytesL z (usz z E))).length = k := by rw [List.length_map]; exact HF.out.eslen
      rw [hEl] at hcB hCB ⊢
      rw [HM.out.1, HM.out.2]
      have HCB := Aside0.mk hCB
      have hmk1 := print_make_of (P := Try.prog) 24 5 (.int .u8 0) 1 Try.underlying24 info5 rfl (by omega) N (by omega)
      clear hE ho hEl hCB
      have HFL := Aside0.mk (show (ps.map offLen).length = k by rw [List.length_map]; exact hpl)
      have HWM := Aside0.mk (show Below wr.heap.size wr ((wr.alloc (.cells (madeCells #[.int .u8 0] N) 5)).alloc (.cells (bufCells (some ⟨wr.heap.size, 0, none⟩) N N) 57)) ∧ IsBuf ((wr.alloc (.cells (madeCells #[.int .u8 0] N) 5)).alloc (.cells (bufCells (some ⟨wr.heap.size, 0, none⟩) N N) 57)) (wr.heap.size + 1) (some ⟨wr.heap.size, 0, none⟩) N N ∧ W8 ((wr.alloc (.cells (madeCells #[.int .u8 0] N) 5)).alloc (.cells (bufCells (some ⟨wr.heap.size, 0, none⟩) N N) 57)) wr.heap.size 5 [] (fill [] 0 N) from
        ⟨((Below.refl _ _).alloc (Nat.le_refl _) _).alloc (by simp) _, (two_blocks wr _ _).2, w8_below (made8 wr N) ((Below.refl _ _).alloc (Nat.le_refl _) _)⟩)
      have hlen := bytesL_len z (usz z (jn (ps.map offLen) es k))
      rw [usz_len, HM.out.1, HM.out.2] at hlen
      have HLN := Aside0.mk hlen
      clear hlen
      go_wp2_with (first
        | (go_at_call 11
           refine (newBuf (some ⟨wr.heap.size, 0, none⟩) N N _).mono ?_
           rintro e w2 ⟨rfl, rfl⟩
           generalize (wr.alloc (.cells (madeCells #[.int .u8 0] N) 5)).alloc (.cells (bufCells (some ⟨wr.heap.size, 0, none⟩) N N) 57) = wb at HWM ⊢)
        | (go_at_call 14
           refine (partsOf A k c ps (es.map (fun E => bytesL z (usz z E))) wb (Kd.C_below HP.out (HFR.out.step HWM.out.1).bel) (HT.out.below (HFR.out.step HWM.out.1).bel) (by omega)).mono ?_
           rintro e w3 ⟨v3, rfl, hr3, hb3⟩
           obtain ⟨A3, c3, rfl, hc3, hC3⟩ := reads_n HFL.out hr3
           have HC3 := Aside0.mk hC3
           have HB3 := Aside0.mk hb3
           clear hr3 hb3 hC3)
        | (have hg := HB3.out; clear hg; go_at_call 13
           refine (updateRunEnds z HZ.out A3 B k c3 cB (wr.heap.size + 1) wr.heap.size M N (ps.map offLen) es w3 HC3.out (Kd.C_below HCB.out (HWM.out.1.trans (HB3.out.mono HWM.out.1.size))) (HWM.out.2.1.move (HB3.out.block _ HWM.out.2.1.lt)) (w8_below HWM.out.2.2 HB3.out) HM.out.1 HM.out.2.symm HF.out hc3 hcB).mono ?_
           rintro e w4 ⟨rfl, hg4, hw4⟩
           have HG4 := Aside0.mk hg4
           have HW4 := Aside0.mk hw4
           clear hg4 hw4)
        | (have hg := HG4.out; clear hg; go_at_call 15
           refine (bufBytes (wr.heap.size + 1) (some ⟨wr.heap.size, 0, none⟩) N N w4 (HWM.out.2.1.move ((HG4.out.block _ (Nat.lt_of_lt_of_le HWM.out.2.1.lt HB3.out.size) (fun e => by injection e; omega)).trans (HB3.out.block _ HWM.out.2.1.lt))) (Nat.le_refl _)).mono ?_
           rintro e w5 ⟨rfl, h5⟩
           have HB5 := Aside0.mk h5.below
           clear h5)
        | (have hg := HB5.out; clear hg; go_at_call 12
           refine (copied_any (some ⟨wr.heap.size, 0, none⟩) N N (bytesL z (usz z (jn (ps.map offLen) es k))) w5 (Kd.C_of_reads (d := 0) ((w8_reads HW4.out HLN.out (by omega)).below HB5.out)) (by omega)).mono ?_
           rintro e w6 ⟨v6, rfl, hr6, hb6⟩
           obtain ⟨A6, c6, rfl, hc6, hC6⟩ := reads_n HLN.out hr6
           have HC6 := Aside0.mk hC6
           have HF6 := Aside0.mk (((((HFR.out.step HWM.out.1).step HB3.out).grown HG4.out (by have := HB.out.size; omega)).step HB5.out).step hb6)
           have d0 : w6.cell? ⟨w.heap.size, 0, none⟩ = some (.slice none 0 0) := blk_cell HF6.out.c0 0
           have z0 := blk_frozen HF6.out.c0 0
           have d1 : w6.cell? ⟨w.heap.size + 1, 0, none⟩ = some (.bool false) := blk_cell HF6.out.c1 0
           have z1 := blk_frozen HF6.out.c1 0
           have HR6 := Aside0.mk (And.intro hr6 hb6)
           clear hr6 hb6 hC6))
      have hfs := HF6.out.bel.size
      have hws : w.heap.size + 2 ≤ w5.heap.size := by have h1 := HB5.out.size; have h2 := HG4.out.size; have h3 := HB3.out.size; have h4 := HWM.out.1.size; have h5 := HB.out.size; omega
      generalize hw7 : (w6.setCell ⟨w.heap.size, 0, none⟩ (.slice A6 N c6)).setCell ⟨w.heap.size + 1, 0, none⟩ (.bool true) = w7
      have q1 : w7.cell? ⟨w.heap.size + 1, 0, none⟩ = some (.bool true) := by rw [← hw7]; exact cell_twice d1
      have q0 : w7.cell? ⟨w.heap.size, 0, none⟩ = some (.slice A6 N c6) := by
        rw [← hw7, World.cell?_setCell_other _ _ _ _ (show (⟨w.heap.size + 1, 0, none⟩ : Addr) ≠ ⟨w.heap.size, 0, none⟩ by simp)]
        exact World.cell?_setCell_same _ _ _ d0
      have HW7 := Aside0.mk hw7
      clear hw7
      refine leaves_cons (f := 10) (args := #[.pointer (some ⟨w.heap.size, 0, none⟩), .pointer (some ⟨w.heap.size + 1, 0, none⟩)]) (by simp) (by simp [go_sem]) ?_
      refine (idle _ _ _).mono ?_
      rintro e u' w7 ⟨rfl, rfl, rfl⟩
      simp [Leaves, settle, results, Try.results5, go_sem, q0, q1]
      have hMN := HM.out
      refine ⟨A6, c6, by rw [hMN.1, hMN.2], by rw [hMN.1, hMN.2]; exact hc6, ?_, ?_⟩
      · rw [hMN.1, hMN.2]
        have hR7 := Kd.R_move (w1 := w7) (Kd.R_bound HR6.out.1) (fun d hd => by
          have hd2 := hd.2.1
          rw [← HW7.out]
          exact (Below.heap_setCell _ ⟨w.heap.size + 1, 0, none⟩ _ d (by show d ≠ w.heap.size + 1; omega)).trans (Below.heap_setCell _ ⟨w.heap.size, 0, none⟩ _ d (by show d ≠ w.heap.size; omega)))
        obtain ⟨A', c', e', _, hC'⟩ := reads_n HLN.out hR7
        injection e' with e1 _ _
        subst e1
        exact hC'
      · rw [← HW7.out]
        exact (HF6.out.bel.setCell (p := ⟨w.heap.size, 0, none⟩) (Nat.le_refl _) _).setCell (p := ⟨w.heap.size + 1, 0, none⟩) (Nat.le_succ _) _

end Go.Proofs.Ytldkpgjpfhoekaa.Join
