/- The law of levels of lists, walked. -/
import Derived.Test.YtcjobencclihdaaDoorLvJ0
namespace Go.Proofs.YtcjobencclihdaaDoor.Lv
open Go.RowKit Go.Proofs.YtcjobencclihdaaDoorW.PrintWords Go.Proofs.YtcjobencclihdaaDoorW.PrintLast Go.Proofs.YtcjobencclihdaaDoorW.PrintMore
set_option linter.unusedVariables false
set_option linter.unusedSimpArgs false

set_option maxRecDepth 100000 in
set_option maxHeartbeats 16000000 in
theorem law_wide (w : World) (A : Option Addr) (n c : Nat) (vs : List V) (ts : List T) (lv level ahead first : Int) (hrow : Row w 5 A n vs ts) (hc : n ≤ c) (hs : ∀ j, j ≤ 5 → (atT j ts).length ≤ 1048576) (hM : Masks w) :
    Calls Tryd.prog 3 #[.slice A n c, .int .i64 lv, .int .i64 level, .int .i64 ahead, .int .i64 first, .bool true] w (BoolB true w) := by
  have HRow := Aside0.mk hrow
  have HS := Aside0.mk hs
  have HM := Aside0.mk hM
  obtain ⟨hvl, htl⟩ := hrow.len
  have hn : n ≤ 1048576 := by have := hs 0 (by omega); rw [show atT 0 ts = ts from rfl] at this; omega
  have HL := Aside0.mk (And.intro hvl htl)
  clear hrow hs hM hvl htl
  go_enter Tryd.func3, Tryd.ntmps3
  go_wp2_with (go_at_call 4; refine (rowsFit_fn lv A n c vs ts _ HRow.out hc HS.out).mono ?_; rintro e w1 ⟨b, rfl, hb1, hfit⟩; have HB1 := Aside0.mk hb1; have HF := Aside0.mk hfit; clear hb1 hfit; refine stopHere ?_)
  unfold Stop
  cases b
  · go_wp2_with fail
    go_ret
    exact ⟨rfl, HB1.out⟩
  · obtain ⟨l0, l4, t5, tat, tne⟩ := HF.out rfl
    obtain ⟨m, rfl⟩ : ∃ m : Nat, lv = m := ⟨lv.toNat, by omega⟩
    have HT := Aside0.mk (And.intro t5 (And.intro tat tne))
    have hm4 : m ≤ 4 := by omega
    clear HF l0 l4 t5 tat tne
    by_cases g1 : level < 1
    · have b1 : decide (level < 1) = true := by simpa using g1
      go_wp2_with fail
      go_ret
      exact ⟨rfl, HB1.out⟩
    have b1 : decide (level < 1) = false := by simpa using g1
    by_cases g2 : (m : Int) < level
    · have b2 : decide ((m : Int) < level) = true := by simpa using g2
      go_wp2_with fail
      go_ret
      exact ⟨rfl, HB1.out⟩
    have b2 : decide ((m : Int) < level) = false := by simpa using g2
    by_cases g3 : ahead < 0
    · have b3 : decide (ahead < 0) = true := by simpa using g3
      go_wp2_with fail
      go_ret
      exact ⟨rfl, HB1.out⟩
    have b3 : decide (ahead < 0) = false := by simpa using g3
    by_cases g4 : 100 < ahead
    · have b4 : decide (100 < ahead) = true := by simpa using g4
      go_wp2_with fail
      go_ret
      exact ⟨rfl, HB1.out⟩
    have b4 : decide (100 < ahead) = false := by simpa using g4
    by_cases g5 : first < 0
    · have b5 : decide (first < 0) = true := by simpa using g5
      go_wp2_with fail
      go_ret
      exact ⟨rfl, HB1.out⟩
    have b5 : decide (first < 0) = false := by simpa using g5
    by_cases g6 : 1048576 < first
    · have b6 : decide (1048576 < first) = true := by simpa using g6
      go_wp2_with fail
      go_ret
      exact ⟨rfl, HB1.out⟩
    have b6 : decide (1048576 < first) = false := by simpa using g6
    obtain ⟨l, rfl⟩ : ∃ l : Nat, level = ((l + 1 : Nat) : Int) := ⟨level.toNat - 1, by omega⟩
    obtain ⟨a, rfl⟩ : ∃ a : Nat, ahead = a := ⟨ahead.toNat, by omega⟩
    obtain ⟨f, rfl⟩ : ∃ f : Nat, first = f := ⟨first.toNat, by omega⟩
    have hlm : l + 1 ≤ m := by omega
    have ha : a ≤ 100 := by omega
    have hf : f ≤ 1048576 := by omega
    have hl4 : (l : Int) ≤ 4 := by omega
    have haI : (a : Int) ≤ 100 := by omega
    have hfI : (f : Int) ≤ 1048576 := by omega
    have hbound := shred_bound m hm4 ts (fun j hj => HT.out.2.1 j (by omega))
    have HBd := Aside0.mk hbound
    have HSh := Aside0.mk (shred_fn m hm4 A n c vs ts w1 ((HRow.out.below HB1.out).le (by omega)) hc hn (by omega))
    clear hbound
    go_wp2_with fail
    refine HSh.out.mono ?_
    rintro e w2 ⟨AD, cD, AR, cR, rfl, hcD, hcR, hD, hR, hb2⟩
    have HB2 := Aside0.mk (HB1.out.trans (hb2.mono HB1.out.size))
    have HD := Aside0.mk (And.intro hD hR)
    obtain ⟨M, hMl⟩ : ∃ M, (shred m ts).length = M := ⟨_, rfl⟩
    rw [hMl] at hcD hcR HD ⊢
    have HMl := Aside0.mk hMl
    have hM1 : M ≤ 10000 := by have := HBd.out; omega
    have HAt := Aside0.mk (fun W (hb : Below w.heap.size w W) => at5 l (by omega) A n c vs ts W (HRow.out.below hb) hc HS.out)
    clear hD hR hb2 hMl HSh b1 b2 b3 b4 b5 b6 g1 g2 g3 g4 g5 g6
    go_wp2_with fail
    refine (HAt.out w2 HB2.out).mono ?_
    rintro e w3 ⟨AL, cL, vl, rfl, hcL, hRL, hb3⟩
    have HB3 := Aside0.mk (HB2.out.trans (hb3.mono HB2.out.size))
    have HD3 := Aside0.mk (And.intro (Kd.C_below HD.out.1 hb3) (Kd.C_below HD.out.2 hb3))
    have HRL := Aside0.mk hRL
    obtain ⟨N, hNl⟩ : ∃ N, (atT l ts).length = N := ⟨_, rfl⟩
    rw [hNl] at hcL HRL ⊢
    have HNl := Aside0.mk hNl
    have hN1 : N ≤ 2000 := by have := HT.out.2.1 l (by omega); omega
    clear hRL hb3 hNl HAt HD HB2
    have hmk := print_make_of (P := Tryd.prog) 33 2 (.int .i64 0) 8 Tryd.underlying33 infoO_i64 rfl (by omega) (N + 1) (by omega)
    rw [show ((N + 1 : Nat) : Int) = (N : Int) + 1 by omega] at hmk
    have hm0 : (madeCells #[Value.int .i64 0] (N + 1))[0]? = some (.int .i64 0) := by simp [madeCells]
    go_wp2_with fail
    clear hmk hm0
    obtain ⟨k1, k2, k3, ks, kb⟩ := three_blocks w3 (.cells #[.int .i64 1, .int .i64 (2 * ((l : Int) + 1)), .int .i64 ((l : Int) + 1), .int .i64 (2 * (l : Int))] 29) (.cells #[.int .i64 0, .int .i64 0, .slice none 0 0] 32) (.cells ((madeCells #[.int .i64 0] (N + 1)).setIfInBounds 0 (.int .i64 f)) 2)
    generalize ((w3.alloc (.cells #[.int .i64 1, .int .i64 (2 * ((l : Int) + 1)), .int .i64 ((l : Int) + 1), .int .i64 (2 * (l : Int))] 29)).alloc (.cells #[.int .i64 0, .int .i64 0, .slice none 0 0] 32)).alloc (.cells ((madeCells #[.int .i64 0] (N + 1)).setIfInBounds 0 (.int .i64 f)) 2) = w4 at k1 k2 k3 ks kb ⊢
    rw [set_K, offs_start] at k3
    have hP4 : Kd.C (Kd.int .i64) w4 (some ⟨w3.heap.size + 1 + 1, 0, none⟩) (N + 1) (offs N [(true, f)]) := wk_C (e := 2) (rest := []) (c := N + 1) k3 (offs_len N _ (by simp)) (by simp) (by unfold maxLen; omega)
    have HP4 := Aside0.mk hP4
    have HB4 := Aside0.mk (HB3.out.trans (kb.mono HB3.out.size))
    have HD4 := Aside0.mk (And.intro (Kd.C_below HD3.out.1 kb) (Kd.C_below HD3.out.2 kb))
    have HW34 := Aside0.mk kb
    have HK2 := Aside0.mk (And.intro k1 k2)
    have hks : w3.heap.size + 1 + 1 < w4.heap.size := by omega
    have HKS := Aside0.mk hks
    obtain ⟨es, hes⟩ : ∃ es, shred m ts = es := ⟨_, rfl⟩
    have hall := sofar_all m (l + 1) f ts (by omega) hlm HT.out.2.2
    obtain ⟨st, hst⟩ : ∃ st, (true, f) :: ans ts (l + 1) = st := ⟨_, rfl⟩
    rw [hes, hst] at hall
    rw [hes] at HMl HD4
    have hstl : st.length = N + 1 := by rw [← hst, ← HNl.out]; simp [ans]
    have hstt : tot st ≤ 2000000 := by rw [← hst, tot_all ts (l + 1) f (by omega)]; have := HT.out.2.1 (l + 1) (by omega); omega
    have HRoom := Aside0.mk (fun (W : World) => room_fn N a (by omega) (by omega) W)
    have HLL := Aside0.mk (fun (B : Option Addr) (cB : Nat) (W : World) (hb : Below w4.heap.size w4 W) (hQ : Kd.C (Kd.int .u8) W B ((a + N + 7) / 8 + 1) (rb ((a + N + 7) / 8 + 1) a)) (hcB : (a + N + 7) / 8 + 1 ≤ cB) => show Calls Tryd.prog 7 #[.slice AD M cD, .slice AR M cR, .agg #[.int .i64 1, .int .i64 (2 * ((l : Int) + 1)), .int .i64 ((l : Int) + 1), .int .i64 (2 * (l : Int))], roomV N true B ((a + N + 7) / 8 + 1) cB a, .slice (some ⟨w3.heap.size + 1 + 1, 0, none⟩) (N + 1) (N + 1)] W (RetLL .i64 W ((a + N + 7) / 8 + 1) N a st) from by
      have h9 := lists_i64 W AD AR B (some ⟨w3.heap.size + 1 + 1, 0, none⟩) M cD cR ((a + N + 7) / 8 + 1) cB (N + 1) es N a (l + 1) f (rb ((a + N + 7) / 8 + 1) a) (HM.out.below (HB4.out.trans (hb.mono HB4.out.size)) HM.out.lt)
        (Kd.C_below HD4.out.1 hb) (Kd.C_below HD4.out.2 hb) hcD hcR (by omega) hQ hcB (by omega) (by omega) (room_bs N a _ (by omega)) (room_b0 a _ (by omega)) (Kd.C_below HP4.out hb) (by omega) (by rw [hall]; exact hstl) (by rw [hall]; exact hstt) (by omega) (by omega)
      rw [hall] at h9
      unfold ruleV at h9
      rw [show ((2 * (l + 1) : Nat) : Int) = 2 * ((l : Int) + 1) by omega, show ((l + 1 : Nat) : Int) = (l : Int) + 1 by omega, show ((2 * (l + 1 - 1) : Nat) : Int) = 2 * (l : Int) by omega] at h9
      exact h9)
    have HST := Aside0.mk (And.intro hes (And.intro hst (And.intro hstl hall)))
    have e0 : w4.cell? ⟨w3.heap.size, 0, none⟩ = some (.int .i64 1) := blk_cell k1 0
    have e1 : w4.cell? ⟨w3.heap.size, 1, none⟩ = some (.int .i64 (2 * ((l : Int) + 1))) := blk_cell k1 1
    have e2 : w4.cell? ⟨w3.heap.size, 2, none⟩ = some (.int .i64 ((l : Int) + 1)) := blk_cell k1 2
    have e3 : w4.cell? ⟨w3.heap.size, 3, none⟩ = some (.int .i64 (2 * (l : Int))) := blk_cell k1 3
    clear k1 k2 k3 ks kb hes hst hstl hstt hall HD3 hP4
    go_region_held3 (fun w' => w'.cell? ⟨w3.heap.size, 0, none⟩ = some (.int .i64 1) ∧ w'.cell? ⟨w3.heap.size, 1, none⟩ = some (.int .i64 (2 * ((l : Int) + 1))) ∧ w'.cell? ⟨w3.heap.size, 2, none⟩ = some (.int .i64 ((l : Int) + 1)) ∧ w'.cell? ⟨w3.heap.size, 3, none⟩ = some (.int .i64 (2 * (l : Int)))) (first | exact ⟨e0, e1, e2, e3⟩ | exact ⟨r0, r1, r2, r3⟩ | exact ⟨x0, x1, x2, x3⟩ | (go_keep; done))
      (first
        | (have hg := HW5.out; clear hg; go_at_call 7; refine (HLL.out B cB w5 HW5.out HQ5.out hcB).mono ?_; rintro e w6 ⟨q, cq, p, cp, bs, rfl, hcq, hcp, hQ6, hbits, hP6, hb6, hq6, hp6⟩; have HW6 := Aside0.mk (HW5.out.trans (hb6.mono HW5.out.size)); have H6 := Aside0.mk (And.intro hcq (And.intro hcp (And.intro hQ6 (And.intro hbits hP6)))); have HG6 := Aside0.mk (And.intro hq6 hp6); have x0 := (HW6.out.cell (p := ⟨w3.heap.size, 0, none⟩) (show w3.heap.size < w4.heap.size by omega)).trans e0; have x1 := (HW6.out.cell (p := ⟨w3.heap.size, 1, none⟩) (show w3.heap.size < w4.heap.size by omega)).trans e1; have x2 := (HW6.out.cell (p := ⟨w3.heap.size, 2, none⟩) (show w3.heap.size < w4.heap.size by omega)).trans e2; have x3 := (HW6.out.cell (p := ⟨w3.heap.size, 3, none⟩) (show w3.heap.size < w4.heap.size by omega)).trans e3; have kk := (HW6.out.block (w3.heap.size + 1) (show w3.heap.size + 1 < w4.heap.size by omega)).trans HK2.out.2; have y0 : w6.cell? ⟨w3.heap.size + 1, 0, none⟩ = some (.int .i64 0) := blk_cell kk 0; have y1 : w6.cell? ⟨w3.heap.size + 1, 1, none⟩ = some (.int .i64 0) := blk_cell kk 1; have y2 : w6.cell? ⟨w3.heap.size + 1, 2, none⟩ = some (.slice none 0 0) := blk_cell kk 2; have fy0 : w6.frozen? ⟨w3.heap.size + 1, 0, none⟩ = false := blk_frozen kk 0; have fy1 : w6.frozen? ⟨w3.heap.size + 1, 1, none⟩ = false := blk_frozen kk 1; have fy2 : w6.frozen? ⟨w3.heap.size + 1, 2, none⟩ = false := blk_frozen kk 2; have KK := Aside0.mk kk; unfold toldV; clear hcq hcp hQ6 hbits hP6 hb6 kk hq6 hp6)
        | (go_at_call 8; refine (HRoom.out (World.drew w4)).mono ?_; rintro e w5 ⟨B, cB, rfl, hcB, hQ5, hb5⟩; have HW5 := Aside0.mk (below_undrew hb5 : Below w4.heap.size w4 w5); have HQ5 := Aside0.mk hQ5; have r0 := (HW5.out.cell (p := ⟨w3.heap.size, 0, none⟩) (show w3.heap.size < w4.heap.size by omega)).trans e0; have r1 := (HW5.out.cell (p := ⟨w3.heap.size, 1, none⟩) (show w3.heap.size < w4.heap.size by omega)).trans e1; have r2 := (HW5.out.cell (p := ⟨w3.heap.size, 2, none⟩) (show w3.heap.size < w4.heap.size by omega)).trans e2; have r3 := (HW5.out.cell (p := ⟨w3.heap.size, 3, none⟩) (show w3.heap.size < w4.heap.size by omega)).trans e3; clear hQ5 hb5))
    have hs45 : w4.heap.size ≤ w5.heap.size := HW5.out.size
    clear e0 e1 e2 e3 r0 r1 r2 r3 x0 x1 x2 x3 y0 y1 y2 fy0 fy1 fy2 HD4 HP4 HLL HRoom HQ5 HW5
    have hbw : Below w3.heap.size w3 w6 := HW34.out.trans (HW6.out.mono HW34.out.size)
    have t1 := blk_set (blk_set (blk_set KK.out 0 (.int .i64 N)) 1 (.int .i64 (nuls st))) 2 (.slice (some ⟨q, 0, none⟩) ((a + N + 7) / 8 + 1) cq)
    have t2 := below_set (below_set (below_set hbw (p := ⟨w3.heap.size + 1, 0, none⟩) (Nat.le_succ _) (.int .i64 N)) (p := ⟨w3.heap.size + 1, 1, none⟩) (Nat.le_succ _) (.int .i64 (nuls st))) (p := ⟨w3.heap.size + 1, 2, none⟩) (Nat.le_succ _) (.slice (some ⟨q, 0, none⟩) ((a + N + 7) / 8 + 1) cq)
    have t3 := (((KeepBut.refl w6 (w3.heap.size + 1) none).set_ 0 (.int .i64 N)).set_ 1 (.int .i64 (nuls st))).set_ 2 (.slice (some ⟨q, 0, none⟩) ((a + N + 7) / 8 + 1) cq)
    generalize ((w6.setCell ⟨w3.heap.size + 1, 0, none⟩ (.int .i64 N)).setCell ⟨w3.heap.size + 1, 1, none⟩ (.int .i64 (nuls st))).setCell ⟨w3.heap.size + 1, 2, none⟩ (.slice (some ⟨q, 0, none⟩) ((a + N + 7) / 8 + 1) cq) = w7 at t1 t2 t3 ⊢
    have hq7 : Kd.C (Kd.int .u8) w7 (some ⟨q, 0, none⟩) ((a + N + 7) / 8 + 1) bs := Kd.C_keep (0 : Int) H6.out.2.2.1 t3 (by
      intro ad hd _
      obtain rfl := Option.some.inj hd
      have := HG6.out.1
      show q ≠ w3.heap.size + 1
      omega)
    have hp7 : Kd.C (Kd.int .i64) w7 (some ⟨p, 0, none⟩) (N + 1) (offs N st) := Kd.C_keep (0 : Int) H6.out.2.2.2.2 t3 (by
      intro ad hd _
      obtain rfl := Option.some.inj hd
      have := HG6.out.2
      show p ≠ w3.heap.size + 1
      omega)
    have HT7 := Aside0.mk t1
    have HB7 := Aside0.mk t2
    have HQ7 := Aside0.mk hq7
    have HP7 := Aside0.mk hp7
    have hcp : N + 1 ≤ cp := H6.out.2.1
    have hbits := Aside0.mk H6.out.2.2.2.1
    clear t1 t2 t3 hbw hq7 hp7 KK HW6 H6 HG6 HK2 HW34
    have HR7 := Aside0.mk (HRL.out.below HB7.out)
    have HTR := Aside0.mk (told_right N a (nuls st) ((a + N + 7) / 8 + 1) q cq cL AL vl bs w7 HR7.out.row hcL (by omega) HQ7.out (by omega) (by omega) (fun i hi => by rw [hbits.out i (by omega)]; exact bits_ahead a i st hi)
      (fun i hi => by
        have hlen := HR7.out.len
        rw [hbits.out (a + i) (by omega), ← HST.out.2.1]
        have h8 := bits_at a i f (atT l ts) (by rw [HNl.out]; exact hi)
        have h9 := (Rd.head (All2.at_ z0 (T.mk false []) HR7.out.all i (by omega))).1
        rw [show gv vl i = vl.getD i z0 from rfl, h9]
        exact h8)
      (by rw [all2_count HR7.out.all, ← HST.out.2.1]; rfl))
    unfold toldV at HTR
    have u0 : w7.cell? ⟨w3.heap.size + 1, 0, none⟩ = some (.int .i64 N) := by rw [blk_cell HT7.out]; rfl
    have u1 : w7.cell? ⟨w3.heap.size + 1, 1, none⟩ = some (.int .i64 (nuls st)) := by rw [blk_cell HT7.out]; rfl
    have u2 : w7.cell? ⟨w3.heap.size + 1, 2, none⟩ = some (.slice (some ⟨q, 0, none⟩) ((a + N + 7) / 8 + 1) cq) := by rw [blk_cell HT7.out]; rfl
    go_wp2_with fail
    refine HTR.out.mono ?_
    rintro e w8 ⟨rfl, hb8⟩
    have HP8 := Aside0.mk (Kd.C_below HP7.out hb8)
    have HB8 := Aside0.mk (HB7.out.trans (hb8.mono HB7.out.size))
    have HR8 := Aside0.mk (HRL.out.below HB8.out)
    have v0 := at_K0 HP8.out 0 (by omega)
    rw [← HST.out.2.1, offs_zero] at v0
    clear hb8 HTR u0 u1 u2 HR7 HQ7 HT7 hbits
    go_wp2_with fail
    clear v0
    go_loopw [156] (fun i wr => ∃ x : Nat, x ≤ N ∧ i = .int .i64 x ∧ Aside0 (Below w8.heap.size w8 wr)) (fun i _ => N - (intOf i).toNat)
    case atStart => exact ⟨0, Nat.zero_le _, rfl, ⟨Below.refl _ _⟩⟩
    case round =>
      obtain ⟨x, hx, rfl, HW⟩ := hrel
      by_cases hlt : x < N
      · have hR := HR8.out.below HW.out
        obtain ⟨ad, rfl, c0, c1, c2, c3⟩ := at_V hR.row x hlt
        have hlen := hR.len
        have hrd := Rd.head (All2.at_ z0 (T.mk false []) hR.all x (by omega))
        have d0 := at_K0 (Kd.C_below HP8.out HW.out) x (by omega)
        have d1 := at_K0 (Kd.C_below HP8.out HW.out) (x + 1) (by omega)
        have hdf := offs_diff N f x (atT l ts) HNl.out hlt
        rw [show (true, f) :: (atT l ts).map (fun t => (!t.nul, t.kids.length)) = st from HST.out.2.1] at hdf
        obtain ⟨hdf1, hdf2, hdf3⟩ := hdf
        have hstt : tot st ≤ 2000000 := by rw [← HST.out.2.1, tot_all ts (l + 1) f (by omega)]; have := HT.out.2.1 (l + 1) (by omega); omega
        rw [hdf1] at d1 hdf3
        obtain ⟨y, hy⟩ : ∃ y : Int, (offs N st).getD x 0 = y := ⟨_, rfl⟩
        rw [hy] at d0 d1 hdf2 hdf3
        obtain ⟨hk1, hk2, hk3⟩ := hrd
        rw [← hk2] at d1 hdf3
        change (gv vl x).kn ≤ (gv vl x).kc ∧ (gv vl x).kn ≤ 1048576 at hk3
        change wr.cell? ⟨p, x + 1, none⟩ = some (.int .i64 (y + ((gv vl x).kn : Int))) at d1
        change y + ((gv vl x).kn : Int) ≤ _ at hdf3
        generalize gv vl x = pv at c0 c1 c2 c3 d1 hdf3 hk3
        rcases pv with ⟨nul, num, txt, kA, kn, kc⟩
        dsimp only at c0 c1 c2 c3 d1 hdf3 hk3
        have hy1 : y ≤ 2000000 := by omega
        have hk4 : (kn : Int) ≤ 1048576 := by omega
        have hy2 : y + kn ≤ 3048576 := by omega
        have hp1 : p < wr.heap.size := cell_lt d0
        have hxI : (x : Int) < N + 1 := by omega
        have hxI2 : (x : Int) + 1 < N + 1 := by omega
        have hwl := HW.out.size
        have HW9 := Aside0.mk (HW.out.alloc HW.out.size (.cells #[.bool nul, .int .u64 num, .string txt, .slice kA kn kc] 45))
        have q0 : (wr.alloc (.cells #[.bool nul, .int .u64 num, .string txt, .slice kA kn kc] 45)).cell? ⟨wr.heap.size, 3, none⟩ = some (.slice kA kn kc) := by rw [blk_cell (heap_alloc_new _ _)]; rfl
        have q1 := (((Below.refl wr.heap.size wr).alloc (Nat.le_refl _) (.cells #[.bool nul, .int .u64 num, .string txt, .slice kA kn kc] 45)).cell (p := ⟨p, x, none⟩) hp1).trans d0
        have q2 := (((Below.refl wr.heap.size wr).alloc (Nat.le_refl _) (.cells #[.bool nul, .int .u64 num, .string txt, .slice kA kn kc] 45)).cell (p := ⟨p, x + 1, none⟩) hp1).trans d1
        clear hlen hR hk1 hk2 hy hdf1 hdf2 hdf3 hstt d0 d1
        go_wp2_with fail
        generalize wr.alloc (.cells #[.bool nul, .int .u64 num, .string txt, .slice kA kn kc] 45) = w9 at q0 q1 q2 HW9 ⊢
        go_quiet (fail)
        go_wp2_with fail
        exact ⟨⟨x + 1, by omega, by go_num, ⟨pw_below_drewN HW9.out _⟩⟩, by simp [intOf]; omega⟩
      · obtain rfl : x = N := by omega
        go_wp2_with fail
        go_ret
        exact ⟨rfl, HB3.out.trans ((HB8.out.trans (HW.out.mono HB8.out.size)).mono HB3.out.size)⟩

end Go.Proofs.YtcjobencclihdaaDoor.Lv
