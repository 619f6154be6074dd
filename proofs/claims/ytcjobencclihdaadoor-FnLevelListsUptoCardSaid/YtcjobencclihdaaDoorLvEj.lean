/- The thin package's lists at int32. -/
import Derived.Test.YtcjobencclihdaaDoorLvE0
namespace Go.Proofs.YtcjobencclihdaaDoor.Lv
open Go.RowKit Go.Proofs.YtcjobencclihdaaDoorW.PrintWords Go.Proofs.YtcjobencclihdaaDoorW.PrintLast Go.Proofs.YtcjobencclihdaaDoorW.PrintMore
set_option linter.unusedVariables false
set_option linter.unusedSimpArgs false

theorem infoO_i32 : (Tryd.prog.info? 21).map (fun i => (i.zero, i.size, i.bytes)) = some (some (.int .i32 0), 1, 4) := by kernel_rfl
set_option maxRecDepth 100000 in
set_option maxHeartbeats 8000000 in
theorem lists_i32 (w : World) (A1 A2 B P : Option Addr) (M c1 c2 nb cB cP : Nat) (es : List (Nat × Nat)) (N a L first : Nat) (bs : List Int) (hM : Masks w)
    (hD : Kd.C kH w A1 M (eD es)) (hR : Kd.C kH w A2 M (eR es)) (hc1 : M ≤ c1) (hc2 : M ≤ c2) (hMs : M ≤ 1099511627776) (hQ : Kd.C (Kd.int .u8) w B nb bs) (hcB : nb ≤ cB) (hnb : nb ≤ 1048576) (hroom : a + N + 8 ≤ 8 * nb)
    (hbs : Bs (List.replicate a true) bs) (hb0 : bs.getD (a / 8) 0 = ((2 ^ (a % 8) - 1 : Nat) : Int)) (hP : Kd.C (Kd.int .i32) w P (N + 1) (offs N [(true, first)])) (hcp : N + 1 ≤ cP)
    (hfin : (sofar L first es es.length).length = N + 1) (htot : tot (sofar L first es es.length) ≤ 2000000) (hL : 1 ≤ L) (hL2 : L ≤ 10) :
    Calls Tryd.prog 9 #[.slice A1 M c1, .slice A2 M c2, ruleV 1 (2 * L) L (2 * (L - 1)), roomV N true B nb cB a, .slice P (N + 1) cP] w (RetLL .i32 w nb N a (sofar L first es es.length)) := by
  have hNs : N ≤ 8388608 := by omega
  have HM := Aside0.mk hM
  have HD := Aside0.mk hD
  have HR := Aside0.mk hR
  have HQ := Aside0.mk hQ
  have HP := Aside0.mk hP
  have HBs := Aside0.mk (And.intro hbs hb0)
  have HFin := Aside0.mk (And.intro hfin htot)
  have hofl : (offs N [(true, first)]).length = N + 1 := hP.1
  have hbl : bs.length = nb := hQ.1
  have HLn := Aside0.mk (And.intro hofl hbl)
  unfold ruleV roomV
  obtain ⟨d2, hd2⟩ : ∃ d2 : Int, ((2 * L : Nat) : Int) = d2 := ⟨_, rfl⟩
  obtain ⟨d1, hd1⟩ : ∃ d1 : Int, ((2 * (L - 1) : Nat) : Int) = d1 := ⟨_, rfl⟩
  rw [hd2, hd1]
  have HI := Aside0.mk (And.intro hd2 hd1)
  have HRm := Aside0.mk (fun (W : World) (hb : Below w.heap.size w W) => out_fn N B nb cB a bs W (Kd.C_below hQ hb) hcB hnb)
  have HIn := Aside0.mk (fun (W : World) => info_fn 1 (2 * L) L (2 * (L - 1)) (by omega) (by omega) (by omega) (by omega) W)
  unfold ruleV at HIn
  unfold roomV at HRm
  rw [hd2, hd1] at HIn
  clear hM hD hR hQ hP hbs hb0 hfin htot hofl hbl hd2 hd1
  go_enter_defers Tryd.func9, Tryd.ntmps9
  go_wp2_with fail
  obtain ⟨k0, k2, k3, ks, kb⟩ := four_blocks w (.cells #[.int .i64 1, .int .i64 d2, .int .i64 L, .int .i64 d1] 29) (.cells #[.int .i64 N, .bool true, .slice B nb cB, .int .i64 a] 37) (.cells #[.int .i64 0, .int .i64 0, .slice none 0 0] 32) (.cells #[.bool false] 4)
  generalize (((w.alloc (.cells #[.int .i64 1, .int .i64 d2, .int .i64 L, .int .i64 d1] 29)).alloc (.cells #[.int .i64 N, .bool true, .slice B nb cB, .int .i64 a] 37)).alloc (.cells #[.int .i64 0, .int .i64 0, .slice none 0 0] 32)).alloc (.cells #[.bool false] 4) = w4 at k0 k2 k3 ks kb ⊢
  have HK := Aside0.mk (And.intro k0 (And.intro k2 k3))
  have HB4 := Aside0.mk kb
  have HS4 := Aside0.mk ks
  clear k0 k2 k3 ks kb
  refine (HRm.out w4 HB4.out).mono ?_
  rintro e w5 ⟨o, v, rfl, ho, hout, hrow, hb5⟩
  obtain ⟨q, c, rest, rfl, hc, hq, hW8, hcr, hcm⟩ := wk_of hrow (by have := HLn.out; omega)
  rw [HLn.out.2] at hc hcr hout
  have HO5 := Aside0.mk hout
  have HQ5 := Aside0.mk (show W8 w5 q 5 rest bs from hW8)
  have HB5 := Aside0.mk hb5
  have HG := Aside0.mk (And.intro ho (And.intro hq (And.intro hc (And.intro hcr hcm))))
  clear hout hW8 hb5 hrow ho hq hc hcr hcm HRm
  go_wp2_with ((with_reducible refine gate_builtin (b := .append) (xs := #[.tmp 16, .tmp 17]) rfl ?_); at_builtin; refine stopHere ?_)
  unfold Stop
  have hP5 := Kd.C_below HP.out (HB4.out.trans (HB5.out.mono (by have := HS4.out; omega)))
  refine appN (Kd.int .i32) (w0 := w5) w5.heap.size (fun _ _ _ _ h => h) rfl (.tmp 16) (.tmp 17) 39 21 (.int .i32 0) 4 rfl Tryd.underlying39 infoO_i32 rfl (by decide) (by omega) _ [] (offs N [(true, first)]) P (N + 1) cP rfl rfl (Kd.R_of_own (h1 := fun _ => rfl) (enc := Value.int .i32) (own_lit w5 _ 21 .i32 [] (Nat.le_refl _) (by simp)) (fun _ _ => trivial)) (Kd.C_below hP5 ((Below.refl _ _).alloc (Nat.le_refl _) _)) ((Below.refl _ _).alloc (Nat.le_refl _) _) (by simp) (by simp; omega) ?_
  intro v6 w6 ho6 hb6
  rw [List.nil_append] at ho6
  obtain ⟨p, cp, restp, rfl, hcp6, hp6, hWK, hcr6, hcm6⟩ := wk_of ho6 (by rw [HLn.out.1]; omega)
  rw [HLn.out.1] at hcp6 hcr6
  rw [HLn.out.1]
  have HP6 := Aside0.mk hWK
  have HB6 := Aside0.mk hb6
  have HG6 := Aside0.mk (And.intro hcp6 (And.intro hp6 (And.intro hcr6 hcm6)))
  have HLE : Aside0 (w4.heap.size ≤ w5.heap.size ∧ w5.heap.size ≤ w6.heap.size) := ⟨⟨HB5.out.size, hb6.size⟩⟩
  clear hP5 ho6 hb6 hWK hcp6 hp6 hcr6 hcm6
  have HB46 := Aside0.mk (HB5.out.trans (HB6.out.mono HB5.out.size))
  have r0 := (HB46.out.block w.heap.size (by have := HS4.out; omega)).trans HK.out.1
  have e0 : w6.cell? ⟨w.heap.size, 0, none⟩ = some (.int .i64 1) := blk_cell r0 0
  have e1 : w6.cell? ⟨w.heap.size, 1, none⟩ = some (.int .i64 d2) := blk_cell r0 1
  have e2 : w6.cell? ⟨w.heap.size, 2, none⟩ = some (.int .i64 L) := blk_cell r0 2
  have e3 : w6.cell? ⟨w.heap.size, 3, none⟩ = some (.int .i64 d1) := blk_cell r0 3
  clear r0
  go_wp2_with fail
  refine (HIn.out w6).mono ?_
  rintro e w7 ⟨rfl, hb7⟩
  have HB7 := Aside0.mk hb7
  have hinf : infoV 1 (2 * L) L (2 * (L - 1)) = .agg #[.int .i32 1, .int .i16 d2, .int .i16 L, .int .i16 d1] := by unfold infoV; rw [HI.out.1, HI.out.2]; rfl
  rw [hinf]
  have hinf2 : infV L = .agg #[.int .i32 1, .int .i16 d2, .int .i16 L, .int .i16 d1] := by unfold infV; rw [HI.out.1, HI.out.2]
  have HList := Aside0.mk (fun (Wc : World) (hc : Below w6.heap.size w6 Wc) => list_i32 w4 Wc A1 A2 M c1 c2 es q o p nb c cp N a L first rest restp bs (HM.out.below HB4.out HM.out.lt) (HB46.out.trans (hc.mono (by have := HLE.out; omega)))
    (Kd.C_below HD.out HB4.out) (Kd.C_below HR.out HB4.out) hc1 hc2 hMs
    ⟨(hc.block o (by have := block_lt HO5.out.blk; have := HLE.out; omega)).trans ((HB6.out.block o (block_lt HO5.out.blk)).trans HO5.out.blk)⟩
    ((hc.block q (by have := block_lt HQ5.out; have := HLE.out; omega)).trans ((HB6.out.block q (block_lt HQ5.out)).trans HQ5.out)) HLn.out.2 hnb hroom HBs.out.1 HBs.out.2
    ((hc.block p (block_lt HP6.out)).trans HP6.out) (by have := HG6.out; omega) ⟨by have := HG.out; omega, by have := HG.out; omega, by have := HG6.out; have := HLE.out; omega⟩ HFin.out.1 HFin.out.2 hL hL2)
  rw [hinf2] at HList
  clear hb7 hinf hinf2 HIn e0 e1 e2 e3
  go_wp2_with fail
  refine (HList.out w7 HB7.out).mono ?_
  rintro e w8 ⟨rfl, ⟨bs', h1, h2, h3⟩, h4, h5, h6⟩
  have H8 := Aside0.mk (And.intro h1 (And.intro h2 h3))
  have HO8 := Aside0.mk h4
  have HP8 := Aside0.mk h5
  have HB8 := Aside0.mk h6
  clear h1 h2 h3 h4 h5 h6 HList
  have hnn := run_neq_nil_nil (P := Tryd.prog) (t := 58) (h := Tryd.underlying58)
  obtain ⟨nn, hnn2⟩ : ∃ nn, nuls (sofar L first es es.length) = nn := ⟨_, rfl⟩
  rw [hnn2] at HO8
  have HTold := Aside0.mk (told_fn o N N nn a (some ⟨q, 0, none⟩) nb c w8 HO8.out)
  have HNN := Aside0.mk hnn2
  have hw8s : Aside0 (w4.heap.size ≤ w8.heap.size) := ⟨HB8.out.size⟩
  clear hnn2
  go_wp2_with fail
  refine HTold.out.mono ?_
  rintro e w9 ⟨rfl, hb9⟩
  have k2 := (hb9.block (w.heap.size + 1 + 1) (by have := HS4.out; have := hw8s.out; omega)).trans ((HB8.out.block (w.heap.size + 1 + 1) (by have := HS4.out; omega)).trans HK.out.2.1)
  have k3 := (hb9.block (w.heap.size + 1 + 1 + 1) (by have := HS4.out; have := hw8s.out; omega)).trans ((HB8.out.block (w.heap.size + 1 + 1 + 1) (by have := HS4.out; omega)).trans HK.out.2.2)
  have c20 : w9.cell? ⟨w.heap.size + 1 + 1, 0, none⟩ = some (.int .i64 0) := blk_cell k2 0
  have c21 : w9.cell? ⟨w.heap.size + 1 + 1, 1, none⟩ = some (.int .i64 0) := blk_cell k2 1
  have c22 : w9.cell? ⟨w.heap.size + 1 + 1, 2, none⟩ = some (.slice none 0 0) := blk_cell k2 2
  have c30 : w9.cell? ⟨w.heap.size + 1 + 1 + 1, 0, none⟩ = some (.bool false) := blk_cell k3 0
  have f20 : w9.frozen? ⟨w.heap.size + 1 + 1, 0, none⟩ = false := blk_frozen k2 0
  have f21 : w9.frozen? ⟨w.heap.size + 1 + 1, 1, none⟩ = false := blk_frozen k2 1
  have f22 : w9.frozen? ⟨w.heap.size + 1 + 1, 2, none⟩ = false := blk_frozen k2 2
  have f30 : w9.frozen? ⟨w.heap.size + 1 + 1 + 1, 0, none⟩ = false := blk_frozen k3 0
  have HB9 := Aside0.mk hb9
  have HKK := Aside0.mk (And.intro k2 k3)
  clear hb9 k2 k3 HTold
  go_wp2_with fail
  have hne : w.heap.size + 1 + 1 ≠ w.heap.size + 1 + 1 + 1 := by omega
  have t1 := blk_set (blk_set (blk_set HKK.out.1 0 (.int .i64 N)) 1 (.int .i64 nn)) 2 (.slice (some ⟨q, 0, none⟩) nb c)
  have t2 := (Below.heap_setCell (((w9.setCell ⟨w.heap.size + 1 + 1, 0, none⟩ (.int .i64 N)).setCell ⟨w.heap.size + 1 + 1, 1, none⟩ (.int .i64 nn)).setCell ⟨w.heap.size + 1 + 1, 2, none⟩ (.slice (some ⟨q, 0, none⟩) nb c)) ⟨w.heap.size + 1 + 1 + 1, 0, none⟩ (.bool true) (w.heap.size + 1 + 1) hne).trans t1
  have o1 : (((w9.setCell ⟨w.heap.size + 1 + 1, 0, none⟩ (.int .i64 N)).setCell ⟨w.heap.size + 1 + 1, 1, none⟩ (.int .i64 nn)).setCell ⟨w.heap.size + 1 + 1, 2, none⟩ (.slice (some ⟨q, 0, none⟩) nb c)).heap[w.heap.size + 1 + 1 + 1]? = _ :=
    (Below.heap_setCell _ ⟨w.heap.size + 1 + 1, 2, none⟩ _ _ (Ne.symm hne)).trans ((Below.heap_setCell _ ⟨w.heap.size + 1 + 1, 1, none⟩ _ _ (Ne.symm hne)).trans ((Below.heap_setCell _ ⟨w.heap.size + 1 + 1, 0, none⟩ _ _ (Ne.symm hne)).trans HKK.out.2))
  have o2 := blk_set o1 0 (.bool true)
  have hfar : ∀ g, w4.heap.size ≤ g → ((((w9.setCell ⟨w.heap.size + 1 + 1, 0, none⟩ (.int .i64 N)).setCell ⟨w.heap.size + 1 + 1, 1, none⟩ (.int .i64 nn)).setCell ⟨w.heap.size + 1 + 1, 2, none⟩ (.slice (some ⟨q, 0, none⟩) nb c)).setCell ⟨w.heap.size + 1 + 1 + 1, 0, none⟩ (.bool true)).heap[g]? = w9.heap[g]? := fun g hg => by
    have h4 := HS4.out
    exact (Below.heap_setCell _ ⟨w.heap.size + 1 + 1 + 1, 0, none⟩ _ g (by show g ≠ w.heap.size + 1 + 1 + 1; omega)).trans ((Below.heap_setCell _ ⟨w.heap.size + 1 + 1, 2, none⟩ _ g (by show g ≠ w.heap.size + 1 + 1; omega)).trans ((Below.heap_setCell _ ⟨w.heap.size + 1 + 1, 1, none⟩ _ g (by show g ≠ w.heap.size + 1 + 1; omega)).trans (Below.heap_setCell _ ⟨w.heap.size + 1 + 1, 0, none⟩ _ g (by show g ≠ w.heap.size + 1 + 1; omega))))
  have hbel := below_set (below_set (below_set (below_set (HB4.out.trans ((HB8.out.trans (HB9.out.mono hw8s.out)).mono HB4.out.size)) (p := ⟨w.heap.size + 1 + 1, 0, none⟩) (by show w.heap.size ≤ w.heap.size + 1 + 1; omega) (.int .i64 N)) (p := ⟨w.heap.size + 1 + 1, 1, none⟩) (by show w.heap.size ≤ w.heap.size + 1 + 1; omega) (.int .i64 nn)) (p := ⟨w.heap.size + 1 + 1, 2, none⟩) (by show w.heap.size ≤ w.heap.size + 1 + 1; omega) (.slice (some ⟨q, 0, none⟩) nb c)) (p := ⟨w.heap.size + 1 + 1 + 1, 0, none⟩) (by show w.heap.size ≤ w.heap.size + 1 + 1 + 1; omega) (.bool true)
  generalize (((w9.setCell ⟨w.heap.size + 1 + 1, 0, none⟩ (.int .i64 N)).setCell ⟨w.heap.size + 1 + 1, 1, none⟩ (.int .i64 nn)).setCell ⟨w.heap.size + 1 + 1, 2, none⟩ (.slice (some ⟨q, 0, none⟩) nb c)).setCell ⟨w.heap.size + 1 + 1 + 1, 0, none⟩ (.bool true) = wf at t2 o2 hfar hbel ⊢
  have q0 : wf.cell? ⟨w.heap.size + 1 + 1, 0, none⟩ = some (.int .i64 N) := by rw [blk_cell t2]; rfl
  have q1 : wf.cell? ⟨w.heap.size + 1 + 1, 1, none⟩ = some (.int .i64 nn) := by rw [blk_cell t2]; rfl
  have q2 : wf.cell? ⟨w.heap.size + 1 + 1, 2, none⟩ = some (.slice (some ⟨q, 0, none⟩) nb c) := by rw [blk_cell t2]; rfl
  have q3 : wf.cell? ⟨w.heap.size + 1 + 1 + 1, 0, none⟩ = some (.bool true) := by rw [blk_cell o2]; rfl
  have HWf := Aside0.mk (show W8 wf q 5 rest bs' from (hfar q (by have := HG.out; omega)).trans ((HB9.out.block q (block_lt H8.out.1)).trans H8.out.1))
  have HPf := Aside0.mk (show WK .i32 wf p 21 restp _ from (hfar p (by have := HG6.out; have := HLE.out; omega)).trans ((HB9.out.block p (block_lt HP8.out)).trans HP8.out))
  have HBf := Aside0.mk hbel
  clear t1 t2 o1 o2 hfar hbel c20 c21 c22 c30 f20 f21 f22 f30
  refine leaves_cons (f := 13) (args := #[.pointer (some ⟨w.heap.size + 1 + 1, 0, none⟩), .pointer (some ⟨w.heap.size + 1 + 1 + 1, 0, none⟩)]) (by simp) (by simp [go_sem]) ?_
  refine (idle _ _ _).mono ?_
  rintro e u' w'' ⟨rfl, rfl, rfl⟩
  simp [Leaves, settle, results, Tryd.results9, go_sem, q0, q1, q2, q3]
  refine ⟨q, c, p, cp, bs', ?_, HG.out.2.2.1, HG6.out.1, wk_C (e := 5) (show WK .u8 w'' q 5 rest bs' from HWf.out) H8.out.2.1 HG.out.2.2.2.1 HG.out.2.2.2.2, H8.out.2.2, wk_C HPf.out (offs_len N _ (by have := HFin.out.1; omega)) HG6.out.2.2.1 HG6.out.2.2.2, HBf.out, by have := HG.out; have := HS4.out; omega, by have := HG6.out; have := HLE.out; have := HS4.out; omega⟩
  rw [HNN.out]
  rfl

end Go.Proofs.YtcjobencclihdaaDoor.Lv
