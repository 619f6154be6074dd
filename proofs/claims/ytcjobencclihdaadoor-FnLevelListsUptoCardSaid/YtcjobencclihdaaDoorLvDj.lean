/- Levels become a list's bits and offsets of int32. -/
import Derived.Test.YtcjobencclihdaaDoorLvZ
import Derived.Laws.Cover3
namespace Go.Proofs.YtcjobencclihdaaDoor.Lv
open Go.RowKit Go.Proofs.YtcjobencclihdaaDoorW.PrintWords Go.Proofs.YtcjobencclihdaaDoorW.PrintLast Go.Proofs.YtcjobencclihdaaDoorW.PrintMore
set_option linter.unusedVariables false
set_option linter.unusedSimpArgs false

set_option maxRecDepth 100000 in
set_option maxHeartbeats 8000000 in
theorem list_i32 (w0 w : World) (A1 A2 : Option Addr) (M c1 c2 : Nat) (es : List (Nat × Nat)) (q o p nb c cp N a L first : Nat) (rest restp : List Value) (bs : List Int) (hM : Masks w0) (hB : Below w0.heap.size w0 w)
    (hD : Kd.C kH w0 A1 M (eD es)) (hR : Kd.C kH w0 A2 M (eR es)) (hc1 : M ≤ c1) (hc2 : M ≤ c2) (hMs : M ≤ 1099511627776) (hO : Out w o N 0 0 (.slice (some ⟨q, 0, none⟩) nb c) a) (hQ : W8 w q 5 rest bs) (hbl : bs.length = nb) (hnb : nb ≤ 1048576) (hroom : a + N + 8 ≤ 8 * nb)
    (hbs : Bs (List.replicate a true) bs) (hb0 : bs.getD (a / 8) 0 = ((2 ^ (a % 8) - 1 : Nat) : Int)) (hP : WK .i32 w p 21 restp (offs N [(true, first)])) (hcp : N + 1 ≤ cp) (hqo : w0.heap.size ≤ q ∧ w0.heap.size ≤ o ∧ w0.heap.size ≤ p)
    (hfin : (sofar L first es es.length).length = N + 1) (htot : tot (sofar L first es es.length) ≤ 2000000) (hL : 1 ≤ L) (hL2 : L ≤ 10) :
    Calls Tryd.prog 18 #[.slice A1 M c1, .slice A2 M c2, infV L, .pointer (some ⟨o, 0, none⟩), .slice (some ⟨p, 0, none⟩) (N + 1) cp] w (RetList .i32 21 w0 w q o p nb c N a (sofar L first es es.length) rest restp) := by
  have hNs : N ≤ 8388608 := by omega
  unfold infV
  obtain ⟨d2, hd2⟩ : ∃ d2 : Int, ((2 * L : Nat) : Int) = d2 := ⟨_, rfl⟩
  obtain ⟨d1, hd1⟩ : ∃ d1 : Int, ((2 * (L - 1) : Nat) : Int) = d1 := ⟨_, rfl⟩
  rw [hd2, hd1]
  have HWi := Aside0.mk (show (w.alloc (.cells #[.int .i32 1, .int .i16 d2, .int .i16 (L : Int), .int .i16 d1] 62)).heap[w.heap.size]? = _ from heap_alloc_new _ _)
  have HOw := Aside0.mk hO
  have HQw := Aside0.mk hQ
  have HPw := Aside0.mk hP
  have HBw := Aside0.mk hB
  have HD := Aside0.mk hD
  have HR := Aside0.mk hR
  have HMa := Aside0.mk hM
  have HBs := Aside0.mk (And.intro hbs hb0)
  have HLen := Aside0.mk (And.intro hfin htot)
  have HBL := Aside0.mk hbl
  have p0 : ∀ i, w.cell? ⟨o, i, none⟩ = #[.int .i64 N, .int .i64 0, .int .i64 0, .slice (some ⟨q, 0, none⟩) nb c, .int .i64 a][i]? := fun i => blk_cell hO.blk i
  have o0 : w.cell? ⟨o, 0, none⟩ = some (.int .i64 N) := p0 0
  have o3 : w.cell? ⟨o, 3, none⟩ = some (.slice (some ⟨q, 0, none⟩) nb c) := p0 3
  have o4 : w.cell? ⟨o, 4, none⟩ = some (.int .i64 a) := p0 4
  have hol := block_lt hO.blk
  have HI := Aside0.mk (And.intro hd2 hd1)
  clear p0 hO hQ hP hB hD hR hM hbs hb0 hfin htot hbl hd2 hd1
  have hu30 := Tryd.underlying30
  have hnn := fun (v : Value) (W : World) => run_neq_iface_nil (P := Tryd.prog) W 76 80 v Tryd.underlying76
  go_enter_defers Tryd.func18, Tryd.ntmps18
  go_wp2_with (go_at_call 26; (with_reducible refine (size_i32 _).mono ?_); rintro e w1 ⟨rfl, hb1⟩; have HB1 := Aside0.mk hb1; have q0 := (hb1.cell (p := ⟨o, 0, none⟩) (by simp; omega)).trans (((Below.refl w.heap.size w).alloc (Nat.le_refl _) (.cells #[.int .i32 1, .int .i16 d2, .int .i16 (L : Int), .int .i16 d1] 62)).cell (p := ⟨o, 0, none⟩) hol |>.trans o0); have q3 := (hb1.cell (p := ⟨o, 3, none⟩) (by simp; omega)).trans (((Below.refl w.heap.size w).alloc (Nat.le_refl _) (.cells #[.int .i32 1, .int .i16 d2, .int .i16 (L : Int), .int .i16 d1] 62)).cell (p := ⟨o, 3, none⟩) hol |>.trans o3); have q4 := (hb1.cell (p := ⟨o, 4, none⟩) (by simp; omega)).trans (((Below.refl w.heap.size w).alloc (Nat.le_refl _) (.cells #[.int .i32 1, .int .i16 d2, .int .i16 (L : Int), .int .i16 d1] 62)).cell (p := ⟨o, 4, none⟩) hol |>.trans o4); clear hb1 o0 o3 o4)
  have HBw1 := Aside0.mk (((Below.refl w.heap.size w).alloc (Nat.le_refl _) (.cells #[.int .i32 1, .int .i16 d2, .int .i16 (L : Int), .int .i16 d1] 62)).trans (HB1.out.mono (by simp)))
  have HI1 := Aside0.mk ((HB1.out.block w.heap.size (by simp)).trans HWi.out)
  have HQ1 := Aside0.mk (show W8 w1 q 5 rest bs from (HBw1.out.block q (block_lt HQw.out)).trans HQw.out)
  have HN := Aside0.mk (fun W (hb : Below w1.heap.size w1 W) => new_wr W q nb c a N rest bs (HMa.out.below (HBw.out.trans ((HBw1.out.mono HBw.out.size).trans (hb.mono (Nat.le_trans HBw.out.size HBw1.out.size)))) HMa.out.lt) ((hb.block q (block_lt HQ1.out)).trans HQ1.out) HBL.out (by omega) hnb hNs HBs.out.1 HBs.out.2)
  have HS1 : w.heap.size < w1.heap.size := by have := HB1.out.size; simp at this; omega
  go_region_held3 (fun w' => w'.cell? ⟨o, 0, none⟩ = some (.int .i64 N) ∧ w'.cell? ⟨o, 3, none⟩ = some (.slice (some ⟨q, 0, none⟩) nb c) ∧ w'.cell? ⟨o, 4, none⟩ = some (.int .i64 a)) (first | exact ⟨q0, q3, q4⟩ | exact ⟨r0, r3, r4⟩ | (go_keep; done)) ((go_at_call 24; refine (HN.out _ (by go_grown)).mono ?_; rintro e w2 ⟨rfl, hw2, hb2⟩; have HW2 := Aside0.mk hw2; have HB2 := Aside0.mk hb2; have r0 := (hb2.cell (p := ⟨o, 0, none⟩) (show o < w1.heap.size by omega)).trans q0; have r3 := (hb2.cell (p := ⟨o, 3, none⟩) (show o < w1.heap.size by omega)).trans q3; have r4 := (hb2.cell (p := ⟨o, 4, none⟩) (show o < w1.heap.size by omega)).trans q4; clear hw2 hb2))
  have hq1 := block_lt HQw.out
  have hp1 := block_lt HPw.out
  have HLS : Aside0 (LS .i32 21 w0 w w2 w1.heap.size q o p w.heap.size nb c N a L rest restp [(true, first)] 0 (bitsOf a [(true, first)]) (if N = 0 then 0 else curB (bitsOf a [(true, first)])) (nuls [(true, first)]) 0) := ⟨LS.mk_dis (by decide)
    ⟨bs, by have := HW2.out; rw [show bitsOf a [(true, first)] = List.replicate a true by simp [bitsOf]]; exact this, fun _ => HBs.out.2⟩
    ⟨(HB2.out.block o (show o < w1.heap.size by omega)).trans ((HBw1.out.block o hol).trans HOw.out.blk)⟩
    ((HB2.out.block p (show p < w1.heap.size by omega)).trans ((HBw1.out.block p hp1).trans HPw.out))
    (by rw [HI.out.1, HI.out.2]; exact (HB2.out.block w.heap.size (show w.heap.size < w1.heap.size by omega)).trans HI1.out)
    (Tri.of_below (HBw1.out.trans ((below_undrew HB2.out).mono (show w.heap.size ≤ w1.heap.size by omega))) _ _ _ _)
    (HBw.out.trans ((HBw1.out.trans ((below_undrew HB2.out).mono (show w.heap.size ≤ w1.heap.size by omega))).mono HBw.out.size))
    ⟨by have := HBw.out.size; omega, hqo.1, hqo.2.1, hqo.2.2⟩⟩
  have hb0 : w.heap.size ≤ w1.heap.size := by omega
  have hbw : w0.heap.size ≤ w.heap.size := HBw.out.size
  clear q0 q3 q4 r0 r3 r4 HW2 HB2 HBw1 HQ1 HS1 HN HI1 HB1
  generalize w1.heap.size = b at HLS hb0 ⊢
  generalize w.heap.size = ib at HLS hb0 hbw ⊢
  go_wp2_with fail
  clear HOw HQw HPw HBw
  go_loopw [14, 45] (fun op idx wr => ∃ (i : Nat) (l : List (Bool × Nat)) (x : Bool × Nat), i ≤ M ∧ idx = .int .i64 i ∧ op = .int .i64 l.length ∧ Aside0 (sofar L first es i = l ++ [x]) ∧ Aside0 (LS .i32 21 w0 w wr b q o p ib nb c N a L rest restp (l ++ [x]) l.length (bitsOf a (l ++ [x])) (if N = 0 then 0 else curB (bitsOf a (l ++ [x]))) (nuls (l ++ [x])) 0)) (fun _ idx _ => M - (intOf idx).toNat)
  case atStart => exact ⟨0, [], (true, first), Nat.zero_le _, rfl, rfl, ⟨rfl⟩, HLS⟩
  case round =>
    obtain ⟨i, l, x, hiM, rfl, rfl, HSO, HL⟩ := hrel
    have heM : (es.length : Nat) = M := by have := HD.out.1; rw [eD_len] at this; exact this
    have HEM := Aside0.mk heM
    clear heM
    by_cases hlt : i < M
    · have hile : i < es.length := by have := HEM.out; omega
      obtain ⟨ad1, rfl, g1⟩ := at_H (Kd.C_below HD.out HL.out.bel) i hlt
      obtain ⟨ad2, rfl, g2⟩ := at_H (Kd.C_below HR.out HL.out.bel) i hlt
      rw [eD_at es i hile] at g1
      rw [eR_at es i hile] at g2
      have HSS := sofar_succ L first es i hile
      rw [HSO.out] at HSS
      have HLE := (sofar_le L first es (i + 1))
      rw [HSS, HLen.out.1] at HLE
      have HT2 := HLen.out.2
      obtain ⟨ed, hed⟩ : ∃ ed, es.getD i (0, 0) = ed := ⟨_, rfl⟩
      rw [hed] at g1 g2 HSS
      have HED := Aside0.mk hed
      rw [hed] at HLE
      clear hed
      obtain ⟨d, r⟩ := ed
      dsimp only at g1 g2
      have HST := Aside0.mk HSS
      have HLE2 := Aside0.mk (And.intro HLE.1 (Nat.le_trans HLE.2.1 HT2))
      clear HSS HLE HT2
      have ic : ∀ j, wr.cell? ⟨ib, j, none⟩ = _ := fun j => blk_cell HL.out.inf j
      rw [HI.out.1, HI.out.2] at ic
      obtain ⟨LI, hLI⟩ : ∃ LI : Int, (L : Int) = LI := ⟨_, rfl⟩
      obtain ⟨dI, hdI⟩ : ∃ dI : Int, (d : Int) = dI := ⟨_, rfl⟩
      obtain ⟨rI, hrI⟩ : ∃ rI : Int, (r : Int) = rI := ⟨_, rfl⟩
      rw [hLI] at ic
      have i1 : wr.cell? ⟨ib, 1, none⟩ = some (.int .i16 d2) := ic 1
      have i2 : wr.cell? ⟨ib, 2, none⟩ = some (.int .i16 LI) := ic 2
      have i3 : wr.cell? ⟨ib, 3, none⟩ = some (.int .i16 d1) := ic 3
      clear ic
      rw [hdI] at g1
      rw [hrI] at g2
      have HX := Aside0.mk (And.intro hLI (And.intro hdI hrI))
      clear hLI hdI hrI hile
      have hiI : (i : Int) < M := by omega
      have hMI : (M : Int) ≤ 1099511627776 := by omega
      by_cases hA : dI < d1
      · have hAb : decide (dI < d1) = true := by simpa using hA
        have HA := Aside0.mk hA
        clear hA
        go_wp2_with fail
        go_quiet (fail)
        go_wp2_with fail
        exact ⟨⟨i + 1, l, x, by omega, by go_num, rfl, ⟨by rw [HST.out]; exact if_pos (.inl (by have := HI.out; have := HX.out; have := HA.out; show d < 2 * (L - 1); omega))⟩, ⟨HL.out.drewN _⟩⟩, by simp [intOf]; omega⟩
      · have hAb : decide (dI < d1) = false := by simpa using hA
        have HA := Aside0.mk hA
        clear hA
        by_cases hB : LI < rI
        · have hBb : decide (LI < rI) = true := by simpa using hB
          have HB := Aside0.mk hB
          clear hB
          go_wp2_with fail
          go_quiet (fail)
          go_wp2_with fail
          exact ⟨⟨i + 1, l, x, by omega, by go_num, rfl, ⟨by rw [HST.out]; exact if_pos (.inr (by have := HX.out; have := HB.out; show L < r; omega))⟩, ⟨HL.out.drewN _⟩⟩, by simp [intOf]; omega⟩
        · have hBb : decide (LI < rI) = false := by simpa using hB
          have hst0 : ¬ (d < 2 * (L - 1) ∨ L < r) := by have := HI.out; have := HX.out; have := HA.out; omega
          by_cases hC : rI = LI
          · obtain rfl := hC
            have hst : step L (l ++ [x]) (d, r) = l ++ [(x.1, x.2 + 1)] := by
              unfold step
              rw [if_neg hst0, if_pos (by have := HX.out; show r = L; omega), bump_last]
            rw [hst] at HST HLE2
            have hkN : l.length ≤ N := by have := HLE2.out.1; simp at this; omega
            have htv : tot (l ++ [x]) ≤ 1999999 := by have := HLE2.out.2; rw [tot_app] at this ⊢; simp [tot] at this ⊢; omega
            have hol2 : (offs N (l ++ [x])).length = N + 1 := offs_len N _ (by simp; omega)
            have c0 := HL.out.off.cell l.length (by omega)
            have f0 := HL.out.off.frozen l.length
            rw [offs_last] at c0
            have HOB := Aside0.mk (offs_bump N l x _ rfl)
            obtain ⟨k, hk⟩ : ∃ k, l.length = k := ⟨_, rfl⟩
            obtain ⟨tv, ht⟩ : ∃ tv : Int, ((tot (l ++ [x]) : Nat) : Int) = tv := ⟨_, rfl⟩
            rw [ht] at c0
            rw [hk] at c0 f0 hkN ⊢
            have HK := Aside0.mk (And.intro hk ht)
            have ht0 : 0 ≤ tv := by omega
            have ht1 : tv ≤ 1999999 := by omega
            have hmx : (tv == 2147483647) = false := by simp; omega
            have hkI : (k : Int) < N + 1 := by omega
            have HO2 := Aside0.mk hol2
            clear hst hst0 htv hk ht hol2 hB
            go_wp2_with fail
            go_quiet (fail)
            go_wp2_with fail
            go_quiet (fail)
            go_wp2_with fail
            refine ⟨⟨i + 1, l, (x.1, x.2 + 1), by omega, by go_num, by rw [HK.out.1], HST, ⟨?_⟩⟩, by simp [intOf]; omega⟩
            rw [← bitsOf_bump a l x (x.1, x.2 + 1) rfl, ← show nuls (l ++ [x]) = nuls (l ++ [(x.1, x.2 + 1)]) by simp [nuls, List.filter_cons]; split <;> rfl]
            exact (HL.out.drewN _).setO k (tv + 1) (l ++ [(x.1, x.2 + 1)]) (by rw [HO2.out]; omega) (by rw [← HK.out.1, ← HK.out.2]; exact HOB.out)
          · have hst := step_push L (l ++ [x]) d r hst0 (by have := HX.out; omega)
            rw [hst] at HST HLE2
            have hCb : (rI == LI) = false := by simpa using hC
            have hkN : l.length < N := by have := HLE2.out.1; simp at this; omega
            have htv : tot (l ++ [x]) ≤ 2000000 := by have := HLE2.out.2; rw [tot_app] at this; omega
            have htv2 : 2 * L ≤ d → tot (l ++ [x]) ≤ 1999999 := fun h => by have := HLE2.out.2; rw [tot_app, if_pos h] at this; simp [tot] at this; omega
            have hol2 : (offs N (l ++ [x])).length = N + 1 := offs_len N _ (by simp; omega)
            have hN0 : N ≠ 0 := by omega
            rw [if_neg hN0] at HL
            obtain ⟨bw, hwr, _⟩ := HL.out.wri
            have HWP := Aside0.mk (fun (W : World) (hh : W.heap[b]? = wr.heap[b]?) => pos_fn W b _ _ _ _ _ _ ⟨hh.trans hwr.blk.blk⟩)
            have c0 := HL.out.off.cell l.length (by omega)
            have c1 := HL.out.off.cell (l.length + 1) (by omega)
            have f1 := HL.out.off.frozen (l.length + 1)
            rw [offs_last] at c0
            have o0 : wr.cell? ⟨o, 0, none⟩ = some (.int .i64 N) := blk_cell HL.out.out.blk 0
            obtain ⟨k, hk⟩ : ∃ k, l.length = k := ⟨_, rfl⟩
            obtain ⟨tv, ht⟩ : ∃ tv : Int, ((tot (l ++ [x]) : Nat) : Int) = tv := ⟨_, rfl⟩
            rw [ht] at c0
            rw [hk] at c0 c1 f1 hkN ⊢
            rw [hk] at HWP
            have HK := Aside0.mk (And.intro hk ht)
            have ht0 : 0 ≤ tv := by omega
            have ht1 : tv ≤ 2000000 := by omega
            have hmx : (tv == 2147483647) = false := by simp; omega
            have hkN2 : ¬ N ≤ k := by omega
            have hkI : (k : Int) < N := by omega
            have hkI2 : (k : Int) + 1 < N + 1 := by omega
            have HO2 := Aside0.mk hol2
            have HT2 := Aside0.mk htv2
            have HG := Aside0.mk (fun (W : World) (hb : Below w0.heap.size w0 W) => And.intro (show W.cell? (ad1.add i) = some (.int .i16 dI) by
                obtain ⟨ad, e, hc⟩ := at_H (Kd.C_below HD.out hb) i hlt
                obtain rfl := Option.some.inj e
                rw [hc, eD_at es i (by have := HEM.out; omega), HED.out, ← HX.out.2.1]) (show True from trivial))
            have na := nil_pos
            have mr := method_pos
            clear hst hst0 htv htv2 hk ht hol2 hB hwr
            go_wp2_with fail
            go_quiet (fail)
            go_wp2_with fail
            go_quiet (fail)
            go_wp2_with fail
            go_quiet ((refine (HWP.out (World.drewN wr _) rfl).mono ?_; rintro e w' ⟨rfl, rfl⟩; exact ⟨rfl, _, rfl⟩))
            clear na mr HWP
            go_wp2_with fail
            have HK1 := Aside0.mk (show l.length + 1 = k + 1 by have := HK.out.1; omega)
            obtain ⟨fl, hfl⟩ : ∃ fl, decide (2 * L - 1 ≤ d) = fl := ⟨_, rfl⟩
            obtain ⟨nn, hnn2⟩ : ∃ nn, nuls (l ++ [x]) = nn := ⟨_, rfl⟩
            have hnb2 : nn ≤ 8388608 := by have h1 := nuls_le (l ++ [x]); have h2 := HK.out.1; rw [List.length_append, List.length_singleton, hnn2] at h1; omega
            obtain ⟨S, hS⟩ : ∃ S, bitsOf a (l ++ [x]) = S := ⟨_, rfl⟩
            have hSl : S.length = a + k := by rw [← hS, bitsOf_len]; have := HK.out.1; simp; omega
            rw [hS, hnn2, HK.out.1] at HL
            rw [hfl] at HST
            have HSN := Aside0.mk (And.intro hS hnn2)
            have HSl := Aside0.mk hSl
            have HFL := Aside0.mk hfl
            clear hS hnn2 hSl hfl
            have HL5' : ∀ n, Aside0 (LS .i32 21 w0 w ((World.drewN wr n).setCell ⟨p, k + 1, none⟩ (.int .i32 tv)) b q o p ib nb c N a L rest restp (l ++ [x] ++ [(fl, 0)]) k S (curB S) nn 0) := fun n => ⟨by
              refine (HL.out.drewN _).setO (k + 1) tv _ (by rw [HO2.out]; omega) ?_
              have h9 := offs_push N (l ++ [x]) (fl, 0) tv (by have := HK.out.1; simp; omega) (by rw [← HK.out.2, tot_app _ [(fl, 0)]]; simp [tot])
              rwa [show (l ++ [x]).length = k + 1 by have := HK.out.1; simp; omega] at h9⟩
            generalize hW5 : World.setCell _ _ _ = w5
            have HL5 : Aside0 (LS .i32 21 w0 w w5 b q o p ib nb c N a L rest restp (l ++ [x] ++ [(fl, 0)]) k S (curB S) nn 0) := by rw [← hW5]; exact HL5' _
            clear hW5 HL5'
            have hol5 : (offs N (l ++ [x] ++ [(fl, 0)])).length = N + 1 := offs_len N _ (by have := HK.out.1; simp; omega)
            have c5 := HL5.out.off.cell (k + 1) (by omega)
            have f5 := HL5.out.off.frozen (k + 1)
            have HE5 := offs_last N (l ++ [x]) (fl, 0)
            rw [show (l ++ [x]).length = k + 1 by have := HK.out.1; simp; omega, tot_app _ [(fl, 0)], show tot (l ++ [x]) + tot [(fl, 0)] = tot (l ++ [x]) by simp [tot], HK.out.2] at HE5
            rw [HE5] at c5
            have HO5 := Aside0.mk hol5
            have g5 := (HG.out w5 HL5.out.bel).1
            have j1 : w5.cell? ⟨ib, 1, none⟩ = some (.int .i16 d2) := by rw [blk_cell HL5.out.inf]; rw [HI.out.1]; rfl
            clear c0 c1 f1 g1 g2 i1 i2 i3 o0 HE5 hol5 HL
            have hd2 : 2 ≤ d2 := by have := HI.out.1; omega
            have hd3 : d2 ≤ 20 := by have := HI.out.1; omega
            have hw16 : IntKind.i16.wrap (d2 - 1) = d2 - 1 := by rw [show d2 - 1 = ((2 * L - 1 : Nat) : Int) by have := HI.out.1; omega]; exact i16_small _ (by omega)
            have hST2 := Aside0.mk (And.intro hd2 hd3)
            have hkI3 : (k : Int) ≤ 8388608 := by omega
            have HSet := Aside0.mk (fun (W : World) (bw : List Int) (h : Wr W b q nb c k N S (curB S) rest bw) => wr_set W b q nb c k N S rest bw h)
            have HClr := Aside0.mk (fun (W : World) (bw : List Int) (h : Wr W b q nb c k N S (curB S) rest bw) => wr_clear W b q nb c k N S rest bw h)
            have HNext := Aside0.mk (fun (W : World) (x : Bool) (bw : List Int) (h : Wr W b q nb c k N S (curB S + x.toNat * maskB S) rest bw) => wr_next W b q nb c k N S x rest bw h (by have := HSl.out; omega) hnb (by omega))
            have HEnd := Aside0.mk (fun (ct nn' : Nat) (W : World) (h1 : (if 2 * L ≤ d then 1 else 0) = ct) (h2 : nn' = nn + (if fl then 0 else 1)) (h : LS .i32 21 w0 w W b q o p ib nb c N a L rest restp (l ++ [x] ++ [(fl, ct)]) (k + 1) (S ++ [fl]) (curB (S ++ [fl])) nn' 0) =>
              show ∃ i_1 l_1 x_1, i_1 ≤ M ∧ Value.int .i64 (i + 1 : Int) = Value.int .i64 i_1 ∧ Value.int .i64 (k + 1 : Int) = Value.int .i64 (l_1 : List (Bool × Nat)).length ∧ Aside0 (sofar L first es i_1 = l_1 ++ [x_1]) ∧ Aside0 (LS .i32 21 w0 w W b q o p ib nb c N a L rest restp (l_1 ++ [x_1]) l_1.length (bitsOf a (l_1 ++ [x_1])) (if N = 0 then 0 else curB (bitsOf a (l_1 ++ [x_1]))) (nuls (l_1 ++ [x_1])) 0) from
              ⟨i + 1, l ++ [x], (fl, ct), by omega, by go_num, by have := HK.out.1; simp; omega, ⟨by rw [HST.out, h1]⟩, ⟨by
                rw [if_neg hN0, bitsOf_push a _ _ (by simp), HSN.out.1, nuls_app (l ++ [x]), HSN.out.2, show (l ++ [x]).length = k + 1 by have := HK.out.1; simp; omega, show nn + nuls [(fl, ct)] = nn' by rw [h2]; cases fl <;> rfl]
                exact h⟩⟩)
            by_cases hD1 : d2 ≤ dI
            · have hD1b : decide (d2 ≤ dI) = true := by simpa using hD1
              have hD2b : decide (d2 - 1 ≤ dI) = true := by simp; omega
              have hD2c : decide (d2 ≤ dI + 1) = true := by simp; omega
              have ht3 : tv ≤ 1999999 := by have := HT2.out (by have := HI.out.1; have := HX.out.2.1; omega); have := HK.out.2; omega
              have hfl : fl = true := by rw [← HFL.out]; simp; have := HI.out.1; have := HX.out.2.1; omega
              subst hfl
              have H2L : Aside0 ((if 2 * L ≤ d then 1 else 0) = 1) := ⟨if_pos (by have := HI.out.1; have := HX.out.2.1; omega)⟩
              clear hD1
              go_wp2_with fail
              go_quiet (fail)
              go_wp2_with fail
              generalize hW6 : World.setCell _ _ _ = w6
              have HL6 : Aside0 (LS .i32 21 w0 w w6 b q o p ib nb c N a L rest restp (l ++ [x] ++ [(true, 1)]) k S (curB S) nn 0) := ⟨by
                rw [← hW6]
                refine (HL5.out.drewN _).setO (k + 1) (tv + 1) _ (by rw [HO5.out]; omega) ?_
                have h9 := offs_bump N (l ++ [x]) (true, 0) (tv + 1) (by rw [← HK.out.2, tot_app _ [(true, 0)]]; simp [tot])
                rwa [show (l ++ [x]).length = k + 1 by have := HK.out.1; simp; omega] at h9⟩
              have g6 := (HG.out w6 HL6.out.bel).1
              have j6 : w6.cell? ⟨ib, 1, none⟩ = some (.int .i16 d2) := by rw [blk_cell HL6.out.inf]; rw [HI.out.1]; rfl
              clear hW6 c5 f5 g5 j1 HL5
              go_quiet (fail)
              obtain ⟨bw6, hw6, _⟩ := HL6.out.wri
              have HW6 := Aside0.mk hw6
              clear hw6
              go_wp2_with (go_at_call 53; refine (HSet.out (World.drewN w6 _) bw6 (HW6.out.step rfl rfl)).mono ?_; rintro e w7 ⟨rfl, ⟨bw7, hw7⟩, ht7⟩; have HW7 := Aside0.mk hw7; have HL7 := Aside0.mk ((HL6.out.drewN _).turn ht7 hN0 ⟨_, hw7⟩); clear hw7 ht7)
              go_wp2_with (go_at_call 50; refine (HNext.out _ true bw7 (by have := HW7.out; simpa using this)).mono ?_; rintro e w8 ⟨rfl, ⟨bw8, hw8⟩, ht8⟩; have HL8 := Aside0.mk (HL7.out.turn ht8 hN0 ⟨_, hw8⟩); clear hw8 ht8)
              exact ⟨HEnd.out 1 nn w8 H2L.out rfl HL8.out, by simp [intOf]; omega⟩
            · have hD1b : decide (d2 ≤ dI) = false := by simpa using hD1
              have H2L : Aside0 ((if 2 * L ≤ d then 1 else 0) = 0) := ⟨if_neg (by have := HI.out.1; have := HX.out.2.1; omega)⟩
              by_cases hD2 : d2 - 1 ≤ dI
              · have hD2b : decide (d2 - 1 ≤ dI) = true := by simpa using hD2
                have hD2c : decide (d2 ≤ dI + 1) = true := by simp; omega
                have hfl : fl = true := by rw [← HFL.out]; simp; have := HI.out.1; have := HX.out.2.1; omega
                subst hfl
                clear hD1 hD2
                go_wp2_with fail
                go_quiet (fail)
                go_wp2_with fail
                go_quiet (fail)
                obtain ⟨bw6, hw6, _⟩ := HL5.out.wri
                have HW6 := Aside0.mk hw6
                clear hw6 c5 f5 g5 j1
                go_wp2_with (go_at_call 53; refine (HSet.out (World.drewN w5 _) bw6 (HW6.out.step rfl rfl)).mono ?_; rintro e w7 ⟨rfl, ⟨bw7, hw7⟩, ht7⟩; have HW7 := Aside0.mk hw7; have HL7 := Aside0.mk ((HL5.out.drewN _).turn ht7 hN0 ⟨_, hw7⟩); clear hw7 ht7)
                go_wp2_with (go_at_call 50; refine (HNext.out _ true bw7 (by have := HW7.out; simpa using this)).mono ?_; rintro e w8 ⟨rfl, ⟨bw8, hw8⟩, ht8⟩; have HL8 := Aside0.mk (HL7.out.turn ht8 hN0 ⟨_, hw8⟩); clear hw8 ht8)
                exact ⟨HEnd.out 0 nn w8 H2L.out rfl HL8.out, by simp [intOf]; omega⟩
              · have hD2b : decide (d2 - 1 ≤ dI) = false := by simpa using hD2
                have hD2c : decide (d2 ≤ dI + 1) = false := by simp; omega
                have hfl : fl = false := by rw [← HFL.out]; simp; have := HI.out.1; have := HX.out.2.1; omega
                subst hfl
                have o5 : w5.cell? ⟨o, 2, none⟩ = some (.int .i64 nn) := blk_cell HL5.out.out.blk 2
                have fo5 : w5.frozen? ⟨o, 2, none⟩ = false := blk_frozen HL5.out.out.blk 2
                clear hD1 hD2 c5 f5
                go_wp2_with fail
                go_quiet (fail)
                go_wp2_with fail
                go_quiet (fail)
                go_wp2_with fail
                clear o5 fo5 g5 j1
                generalize hW6 : World.setCell _ _ _ = w6
                have HL6 : Aside0 (LS .i32 21 w0 w w6 b q o p ib nb c N a L rest restp (l ++ [x] ++ [(false, 0)]) k S (curB S) (nn + 1) 0) := ⟨by
                  rw [← hW6]
                  have h9 := fun n => (HL5.out.drewN n).setN
                  simp only [Int.natCast_add, Int.cast_ofNat_Int] at h9
                  exact h9 _⟩
                clear hW6
                obtain ⟨bw6, hw6, _⟩ := HL6.out.wri
                have HW6 := Aside0.mk hw6
                clear hw6
                go_wp2_with (go_at_call 48; refine (HClr.out w6 bw6 HW6.out).mono ?_; rintro e w7 ⟨rfl, ⟨bw7, hw7⟩, ht7⟩; have HW7 := Aside0.mk hw7; have HL7 := Aside0.mk (HL6.out.turn ht7 hN0 ⟨_, hw7⟩); clear hw7 ht7)
                go_wp2_with (go_at_call 50; refine (HNext.out _ false bw7 (by have := HW7.out; simpa using this)).mono ?_; rintro e w8 ⟨rfl, ⟨bw8, hw8⟩, ht8⟩; have HL8 := Aside0.mk (HL7.out.turn ht8 hN0 ⟨_, hw8⟩); clear hw8 ht8)
                exact ⟨HEnd.out 0 (nn + 1) w8 H2L.out rfl HL8.out, by simp [intOf]; omega⟩
    · obtain rfl : i = M := by omega
      obtain rfl : es.length = i := HEM.out
      have hkN : l.length = N := by have h1 := HLen.out.1; rw [HSO.out] at h1; simpa using h1
      obtain ⟨nn, hnn2⟩ : ∃ nn, nuls (l ++ [x]) = nn := ⟨_, rfl⟩
      have hnb2 : nn ≤ 8388609 := by have h1 := nuls_le (l ++ [x]); rw [List.length_append, List.length_singleton, hnn2] at h1; omega
      rw [hkN, hnn2] at HL
      rw [hkN]
      have HSN := Aside0.mk hnn2
      have HKN := Aside0.mk hkN
      have i0 : wr.cell? ⟨ib, 0, none⟩ = some (.int .i32 1) := blk_cell HL.out.inf 0
      have o1 : wr.cell? ⟨o, 1, none⟩ = some (.int .i64 0) := blk_cell HL.out.out.blk 1
      have o2 : wr.cell? ⟨o, 2, none⟩ = some (.int .i64 nn) := blk_cell HL.out.out.blk 2
      have fo1 : wr.frozen? ⟨o, 1, none⟩ = false := blk_frozen HL.out.out.blk 1
      have hoib := HL.out.dis.2.2.2.2.2.2.2.2.2
      have hN1 : (0 : Int) < N + 1 := by omega
      clear hnn2 hkN
      have HL6 := Aside0.mk (HL.out.setR N)
      by_cases hn0 : nn = 0
      · subst hn0
        go_wp2_with fail
        refine leaves_cons (f := 49) (args := #[.pointer (some ⟨b, 0, none⟩)]) (by simp) (fin_invoke _ _) ?_
        obtain ⟨bwf, hwf, hzf⟩ := HL6.out.wri
        refine (wr_finish .returning _ b q nb c N (bitsOf a (l ++ [x])) rest bwf hwf (by rw [bitsOf_len]; have := HKN.out; simp; omega) hnb).mono ?_
        rintro e u' w' ⟨rfl, rfl, ⟨bs', h1, h2, h3, h4⟩, ht⟩
        obtain ⟨t1, t2, t3⟩ := HL6.out.fin ht
        rw [HSO.out]
        exact ⟨_, results_tmp rfl _ _ _, rfl, ⟨bs', h1, h2, fun i hi => by
          by_cases h0 : N = 0
          · have hS : bitsOf a (l ++ [x]) = List.replicate a true := by
              have := HKN.out
              rw [h0] at this
              rw [List.length_eq_zero_iff.1 this]
              simp [bitsOf]
            rw [h4 h0]
            have hful := hwf.ful
            rw [hS] at hful ⊢
            exact bit_of _ _ hful (.inr (by rw [cur_rep, List.length_replicate]; exact hzf h0)) i (by simp; omega)
          · exact h3 (by omega) i (by rw [bitsOf_len]; have := HKN.out; simp; omega)⟩, by rw [HSN.out]; exact t1, t2, t3⟩
      · have hn1 : decide ((0 : Int) < nn) = true := by simp; omega
        have hn2 : 0 < nn := by omega
        go_wp2_with fail
        refine leaves_cons (f := 49) (args := #[.pointer (some ⟨b, 0, none⟩)]) (by simp) (fin_invoke _ _) ?_
        obtain ⟨bwf, hwf, hzf⟩ := HL6.out.wri
        refine (wr_finish .returning _ b q nb c N (bitsOf a (l ++ [x])) rest bwf hwf (by rw [bitsOf_len]; have := HKN.out; simp; omega) hnb).mono ?_
        rintro e u' w' ⟨rfl, rfl, ⟨bs', h1, h2, h3, h4⟩, ht⟩
        obtain ⟨t1, t2, t3⟩ := HL6.out.fin ht
        rw [HSO.out]
        exact ⟨_, results_tmp rfl _ _ _, rfl, ⟨bs', h1, h2, fun i hi => by
          by_cases h0 : N = 0
          · have hS : bitsOf a (l ++ [x]) = List.replicate a true := by
              have := HKN.out
              rw [h0] at this
              rw [List.length_eq_zero_iff.1 this]
              simp [bitsOf]
            rw [h4 h0]
            have hful := hwf.ful
            rw [hS] at hful ⊢
            exact bit_of _ _ hful (.inr (by rw [cur_rep, List.length_replicate]; exact hzf h0)) i (by simp; omega)
          · exact h3 (by omega) i (by rw [bitsOf_len]; have := HKN.out; simp; omega)⟩, by rw [HSN.out]; exact t1, t2, t3⟩

end Go.Proofs.YtcjobencclihdaaDoor.Lv
