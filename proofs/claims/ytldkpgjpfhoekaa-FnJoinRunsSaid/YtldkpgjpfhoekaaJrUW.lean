/- The package's own joining of run ends, over one type. -/
import Derived.Test.YtldkpgjpfhoekaaJrU0
import Derived.Test.YtldkpgjpfhoekaaJrPW
import Derived.Laws.CopyOwn
namespace Go.Proofs.Ytldkpgjpfhoekaa.Join
open Go.RowKit Go.Proofs.YtldkpgjpfhoekaaW.PrintWords Go.Proofs.YtldkpgjpfhoekaaW.PrintLast Go.Proofs.YtldkpgjpfhoekaaW.PrintMore
set_option linter.unusedVariables false
set_option linter.unusedSimpArgs false

theorem zerosW (M : Nat) : bytesL 4 ((List.replicate M (0 : Int)).map (fun x => x % 4294967296)) = List.replicate (M * 4) 0 := by
  induction M with
  | zero => simp [bytesL]
  | succ M ih =>
    have h : bytesL 4 ((List.replicate (M + 1) (0 : Int)).map (fun x => x % 4294967296)) = le 0 4 ++ bytesL 4 ((List.replicate M (0 : Int)).map (fun x => x % 4294967296)) := by
      simp [bytesL, List.replicate_succ]
    rw [h, ih, show le 0 4 = List.replicate 4 0 by decide, List.replicate_append_replicate]
    congr 1
    omega
theorem src_atW {w : World} {r : Nat} {E : List Int} (h : w.heap[r]? = some (.cells (E.map encW).toArray 21 (0, 0))) (j : Nat) (hj : j < E.length) : w.cell? ⟨r, j, none⟩ = some (.int .i32 (E.getD j 0)) := by
  rw [blk_cell h j]
  simp [List.getD_eq_getElem?_getD, List.getElem?_eq_getElem hj, encW]
theorem wkW (x : Int) (h0 : -30000 ≤ x) (h1 : x ≤ 32000) : IntKind.i32.wrap x = x := by
  simp [IntKind.wrap, IntKind.bits, IntKind.signed]
  omega
theorem set_encW (L : List Int) (i : Nat) (x : Int) : ((L.map encW).toArray).setIfInBounds i (.int .i32 x) = ((L.set i x).map encW).toArray := by
  simp [List.map_set, encW]
theorem cell_fillW {w : World} {q M : Nat} {X : List Int} (h : w.heap[q]? = some (.cells ((fill X 0 M).map encW).toArray 21 (0, 0))) (x : Nat) (hx : x < X.length) : w.cell? ⟨q, x, none⟩ = some (.int .i32 (X.getD x 0)) := by
  rw [blk_cell h x, List.getElem?_toArray, List.getElem?_map, fill_getD_in _ _ 0 M x hx]
  simp [List.getD_eq_getElem?_getD, List.getElem?_eq_getElem hx, encW]
theorem maxBigW (w : World) : Calls Try.prog 29 #[] w (fun e w' => (∃ mx : Int, e = .returned (.int .i32 mx) ∧ 32767 ≤ mx ∧ IntKind.u64.wrap mx = mx) ∧ w = w') :=
  (maxOfW w).mono fun e w' h => ⟨⟨_, h.1, by decide, by decide +kernel⟩, h.2⟩
theorem size1W : (Try.prog.info? 21).map (·.size) = some 1 := by kernel_rfl
open Go.RowKit in
theorem copyEW {ops : Array Oper} {rest : List Oper} {o : Oper} {a : Act} {Q : Exit → Act → World → Prop} {w0 W : World} (hgd : o.guard = none) (ho : o.op = .call { callee := .builtin .copy, args := #[.tmp 65, .tmp 66], argTypes := #[77, 77] }) (q r M m : Nat) (E : List Int)
    (hd : a.eval (.tmp 65) = .slice (some ⟨q, 0, none⟩) M M) (hs : a.eval (.tmp 66) = .slice (some ⟨r, 0, none⟩) (m + 1) (m + 1)) (hq : W.heap[q]? = some (.cells ((fill ([] : List Int) 0 M).map encW).toArray 21 (0, 0))) (hr : W.heap[r]? = some (.cells (E.map encW).toArray 21 (0, 0)))
    (hm : E.length = m + 1) (hM : m + 1 ≤ M) (hb : Below w0.heap.size w0 W) (hwq : w0.heap.size ≤ q)
    (h : ∀ w4, w4.heap[q]? = some (.cells ((fill E 0 M).map encW).toArray 21 (0, 0)) → Below w0.heap.size w0 w4 → wpList Try.prog ops Q rest (a.put o.dst (.int .i64 ((m + 1 : Nat) : Int))) w4) :
    wpList Try.prog ops Q (o :: rest) a W := by
  refine wpList_copy_own hgd (.tmp 65) (.tmp 66) 77 77 ho 21 Try.underlying77 size1W q 0 M M ⟨r, 0, none⟩ (m + 1) (m + 1) hd hs _ 21 hq (E.map encW) (by rw [List.length_map, hm]; exact (Nat.min_eq_left hM).symm) (fun j v hj => by rw [add_plain, blk_cell hr]; simpa using hj) (by simp [fill, hm]; omega) (by intro v hv; obtain ⟨x, _, rfl⟩ := List.mem_map.1 hv; rfl) ?_
  have h2 := h (W.setRow q ((((fill ([] : List Int) 0 M).map encW).toArray).toList.take 0 ++ (E.map encW ++ (((fill ([] : List Int) 0 M).map encW).toArray).toList.drop (0 + (E.map encW).length))).toArray) ?_ (below_setRow hb hwq _)
  · have e : goInt (E.map encW).length = .int .i64 ((m + 1 : Nat) : Int) := by rw [List.length_map, hm]; rfl
    rw [e]
    exact h2
  · rw [setRow_heap W q _ _ 21 _ hq]
    simp [fill, hm]
set_option maxRecDepth 100000 in
set_option maxHeartbeats 8000000 in
theorem updateRunsW (A B : Option Addr) (n cA cB b0 p M N : Nat) (ol : List (Int × Int)) (es : List (List Int)) (w : World)
    (hD : Kd.C kD w A n ol) (hB : Kd.C kB w B n (es.map (fun E => bytesL 4 (usWL E)))) (hb : IsBuf w b0 (some ⟨p, 0, none⟩) N N) (hw : W8 w p 5 [] (fill [] 0 N))
    (hM : (jn ol es n).length = M) (hN : N = M * 4) (hf : Fit ol es n) (hcA : n ≤ cA) (hcB : n ≤ cB) :
    Calls Try.prog 19 #[.slice A n cA, .slice B n cB, .pointer (some ⟨b0, 0, none⟩)] w (Joined p 4 (usWL (jn ol es n)) w) := by
  have hMs : M ≤ 10000 := by have := hf.small n (Nat.le_refl _); have := hf.few; omega
  have hNs : N ≤ 80000 := by omega
  have hfew := hf.few
  have HZ := Aside0.mk (fun (W : World) (hW : Below w.heap.size w W) => getDataW (some ⟨p, 0, none⟩) N N M (List.replicate M 0) W (by rw [zerosW M, ← hN]; exact (reads_fill0 hw (by omega)).below hW) (Nat.le_refl _) (by simp) (by simpa using hMs) (by intro x hx; rw [List.eq_of_mem_replicate hx]; unfold OkW; omega))
  have HFI := Aside0.mk (show (List.replicate M (0 : Int)) = fill ([] : List Int) 0 M by simp [fill])
  have HD := Aside0.mk hD
  have HBF := Aside0.mk hB
  have HI := Aside0.mk (fun (W : World) (hW : Below w.heap.size w W) => hb.move (hW.block b0 hb.lt))
  have HW := Aside0.mk hw
  have HM := Aside0.mk (And.intro hM hN)
  have HF := Aside0.mk hf
  have hpl : p < w.heap.size := block_lt hw
  clear hD hB hb hw hM hN hf
  go_enter Try.func19, Try.ntmps19
  go_wp2_with (first
    | (go_at_call 15
       refine (bufBytes b0 _ N N w (HI.out w (Below.refl _ _)) (Nat.le_refl _)).mono ?_
       rintro e w1 ⟨rfl, h1⟩
       have HB1 := Aside0.mk h1.below
       clear h1)
    | (have hg := HB1.out; clear hg; go_at_call 28
       refine (HZ.out w1 HB1.out).mono ?_
       rintro e w2 ⟨q, hq, rfl, hqh, hb2⟩
       rw [HFI.out] at hqh
       have HQ0 := Aside0.mk hqh
       have HB2 := Aside0.mk (HB1.out.trans (hb2.mono HB1.out.size))
       have hqw : w.heap.size ≤ q := Nat.le_trans HB1.out.size hq
       clear hqh hb2 hq))
  clear HZ HFI
  go_loopw [8, 23] (fun o i wr => ∃ k : Nat, k ≤ n ∧ i = .int .i64 k ∧ o = .int .i64 (jn ol es k).length ∧ Aside0 (wr.heap[q]? = some (.cells ((fill (jn ol es k) 0 M).map encW).toArray 21 (0, 0))) ∧ Aside0 (Below w.heap.size w wr)) (fun _ i _ => n - (intOf i).toNat)
  case atStart => exact ⟨0, Nat.zero_le _, rfl, rfl, HQ0, HB2⟩
  case round =>
    obtain ⟨k, hk, rfl, rfl, HQ, HB⟩ := hrel
    by_cases hlt : k < n
    · obtain ⟨ad1, d, eA, cD, hDd⟩ := at_D HD.out k hlt
      obtain ⟨ad2, bb, Bd, cb, eB, cBf, hBb, hBc, hBr⟩ := at_B HBF.out k hlt
      subst eA
      subst eB
      have hke : k < es.length := by have := HF.out.eslen; omega
      have hmk : (es.map (fun E => bytesL 4 (usWL E))).getD k [] = bytesL 4 (usWL (es.getD k [])) := by simp [List.getD_eq_getElem?_getD, List.getElem?_map, List.getElem?_eq_getElem hke]
      rw [hmk] at hBb hBc hBr
      have hF1 := HF.out.at_ k hlt
      have hsum := HF.out.sum k hk
      have hpos := jn_pos HF.out k hk
      have hlen := jn_len ol es k hF1.cnt0
      have hmon := HF.out.mono (k + 1) n (by omega) (Nat.le_refl _)
      rw [hlen, HM.out.1] at hmon
      have HJ := Aside0.mk (show jn ol es (k + 1) = jn ol es k ++ one (sm ol k) (offAt ol k) (lenAt ol k) (es.getD k []) from rfl)
      have hDd : IsData w d (offAt ol k) (lenAt ol k) := hDd
      have HXL := Aside0.mk (show ∀ k0, k = k0 + 1 → (jn ol es k).getD ((jn ol es k).length - 1) 0 = sm ol k from by intro k0 e; rw [e]; exact jn_last ol es k0)
      have HX0 := Aside0.mk (show k = 0 → jn ol es k = [] ∧ sm ol k = 0 from by rintro rfl; exact ⟨rfl, rfl⟩)
      clear hmk hlen
      generalize es.getD k [] = E at hBb hBc hBr hF1 hmon HJ
      generalize sm ol k = s at hsum HJ HXL HX0
      generalize offAt ol k = off at hF1 HJ hDd
      generalize lenAt ol k = len at hF1 HJ hDd
      obtain ⟨hoff0, hoff1, hlen1, hlen5, hc0, hc5, hval, hlast⟩ := hF1
      obtain ⟨m, hm⟩ : ∃ m, E.length = m + 1 := ⟨E.length - 1, by omega⟩
      have hyl : (bytesL 4 (usWL E)).length = (m + 1) * 4 := by rw [bytesL_len, usWL_len, hm]
      rw [hyl] at hBb hBc hBr
      have HGD := Aside0.mk (fun (W : World) (hW : Below w.heap.size w W) => getDataW Bd ((m + 1) * 4) cb (m + 1) E W (hBr.below hW) hBc hm (by omega) (by intro x hx; have := hval x hx; unfold OkW; omega))
      have HBB := Aside0.mk (fun (W : World) (hW : Below w.heap.size w W) => hBb.move (hW.block bb hBb.lt))
      have HDD := Aside0.mk (fun (W : World) (hW : Below w.heap.size w W) => hDd.move (hW.block d hDd.lt))
      have HCD := Aside0.mk (farC (show w.cell? (ad1.add k) = some (.iface 58 (.pointer (some ⟨d, 0, none⟩))) from cD))
      have HCB := Aside0.mk (farC cBf)
      have hm5 : m + 1 ≤ 500 := by omega
      rw [hm] at hlast hmon
      rw [show m + 1 - 1 = m from rfl] at hlast
      have hvm := hval (E.getD m 0) (by rw [List.getD_eq_getElem?_getD, List.getElem?_eq_getElem (by omega)]; exact List.getElem_mem _)
      have HV := Aside0.mk hval
      have HMM := Aside0.mk hm
      clear hBb hBr hDd cD cBf hval hyl hc0 hc5 hm
      have c1 := HCB.out wr HB.out
      have ebl : IntKind.i64.wrap (((m + 1 : Nat) : Int) - 1) = (m : Int) := by rw [IntKind.wrap_i64]; omega
      obtain ⟨hyp, hyq⟩ : 0 < (m + 1) * 4 ∧ (m + 1) * 4 ≤ 4000 := by omega
      generalize hY : (m + 1) * 4 = Y at HGD HBB hyp hyq hBc
      clear hY
      generalize jn ol es k = X at HQ HJ HXL HX0 hmon hpos
      obtain ⟨eL, hel⟩ : ∃ eL, E.getD m 0 = eL := ⟨_, rfl⟩
      rw [hel] at hlast hvm
      have HEL := Aside0.mk hel
      obtain ⟨f, hfe⟩ : ∃ f, eL - off = f := ⟨_, rfl⟩
      have eoff : IntKind.i32.wrap off = off := wkW _ (by omega) (by omega)
      have elen : IntKind.i32.wrap len = len := wkW _ (by omega) (by omega)
      have efin : IntKind.i32.wrap (eL - off) = f := by rw [wkW _ (by omega) (by omega)]; omega
      have hfl : len ≤ f := by omega
      clear hel hfe hlast
      rcases hpos with ⟨hk0, hx0⟩ | ⟨hk0, hx0⟩
      · obtain ⟨rfl, rfl⟩ := HX0.out hk0
        have HK0 := Aside0.mk hk0
        clear hx0 HXL HX0 hk0
        rw [List.length_nil, Nat.zero_add] at hmon
        rcases (show len = f ∨ len < f by omega) with rfl | hgt
        all_goals
          go_wp2_with (first
            | (go_at_call 25
               refine (bufLen bb Bd Y cb wr (HBB.out wr HB.out)).mono ?_
               rintro e w1 ⟨rfl, rfl⟩)
            | (go_at_call 15
               refine (bufBytes bb Bd Y cb wr (HBB.out wr HB.out) hBc).mono ?_
               rintro e w1 ⟨rfl, h1⟩
               have HB1 := Aside0.mk (HB.out.trans (h1.below.mono HB.out.size))
               have HQ1 := Aside0.mk ((h1.below.block q (block_lt HQ.out)).trans HQ.out)
               clear h1)
            | (have hg := HB1.out; clear hg; go_at_call 28
               refine (HGD.out w1 HB1.out).mono ?_
               rintro e w2 ⟨r, hr, rfl, hrh, hb2⟩
               have HR := Aside0.mk hrh
               have HB2 := Aside0.mk (HB1.out.trans (hb2.mono HB1.out.size))
               have HQ2 := Aside0.mk ((hb2.block q (block_lt HQ1.out)).trans HQ1.out)
               have hqr : q ≠ r := by have := block_lt HQ1.out; omega
               have cl := src_atW hrh m (by have := HMM.out; omega)
               rw [HEL.out] at cl
               have cd := HCD.out w2 HB2.out
               clear hrh hb2 hr))
          refine (dataOffset d off _ w2 (HDD.out w2 HB2.out)).mono ?_
          rintro e w3 ⟨rfl, rfl⟩
          go_wp2_with fail
          refine (dataLen d off _ w2 (HDD.out w2 HB2.out)).mono ?_
          rintro e w3 ⟨rfl, rfl⟩
          try (go_wp2_with fail; refine (dataLen d off _ w2 (HDD.out w2 HB2.out)).mono ?_; rintro e w3 ⟨rfl, rfl⟩)
          go_wp2_with (first
            | (have hg := HB2.out; clear hg; (with_reducible show wpList _ _ _ _ _ _)
               refine copyEW (w0 := w) rfl rfl q r M m E rfl rfl HQ2.out HR.out HMM.out hmon HB2.out hqw ?_
               intro w4 hq4 hb4
               have HQ4 := Aside0.mk hq4
               have HB4 := Aside0.mk hb4
               clear hq4 hb4))
          clear efin
          go_loopw [14] (fun j wj => ∃ jj : Nat, jj ≤ m + 1 ∧ j = .int .i64 jj ∧ Aside0 (wj.heap[q]? = some (.cells ((fill ((E.take jj).map (fun e => (0 : Int) + e - off) ++ E.drop jj) 0 M).map encW).toArray 21 (0, 0))) ∧ Aside0 (Below w.heap.size w wj)) (fun j _ => m + 1 - (intOf j).toNat)
          case atStart => exact ⟨0, by omega, rfl, ⟨by simpa using HQ4.out⟩, HB4⟩
          case round =>
            obtain ⟨jj, hjj, rfl, HQJ, HBJ⟩ := hrel
            by_cases hj : jj < m + 1
            · have hjE : jj < E.length := by have := HMM.out; omega
              have hml : ((E.take jj).map (fun e => (0 : Int) + e - off) ++ E.drop jj).length = m + 1 := by rw [moved_len E off jj (by omega)]; exact HMM.out
              have hfl : ((fill ((E.take jj).map (fun e => (0 : Int) + e - off) ++ E.drop jj) 0 M).map encW)[jj]? = some (.int .i32 (E.getD jj 0)) := by
                rw [List.getElem?_map, fill_getD_in _ _ 0 M jj (by rw [hml]; exact hj), moved_get E off jj hjE]
                rfl
              have cj : wr.cell? ⟨q, jj, none⟩ = some (.int .i32 (E.getD jj 0)) := by
                rw [blk_cell HQJ.out jj, List.getElem?_toArray]
                exact hfl
              have zj := blk_frozen HQJ.out jj
              have hvj := HV.out (E.getD jj 0) (by rw [List.getD_eq_getElem?_getD, List.getElem?_eq_getElem hjE]; exact List.getElem_mem _)
              have HST := Aside0.mk (moved_at E off jj hjE)
              have HML := Aside0.mk hml
              generalize E.getD jj 0 = ej at cj hvj HST
              have esub : IntKind.i32.wrap (ej - off) = ej - off := wkW _ (by omega) (by omega)
              clear hml hfl
              go_wp2_with fail
              go_roundw
              case rel =>
                refine ⟨jj + 1, by omega, by go_num, ⟨?_⟩, ⟨HBJ.out.setCell (by show w.heap.size ≤ q; exact hqw) _⟩⟩
                have h1 := blk_set HQJ.out jj (.int .i32 (ej - off))
                rw [set_encW, fill_set_in _ _ _ _ _ (by rw [HML.out]; exact hj), HST.out] at h1
                exact h1
              case measure => simp [intOf]; omega
            · obtain rfl : jj = m + 1 := by omega
              have hmE := HMM.out
              have hall : (E.take (m + 1)).map (fun e => (0 : Int) + e - off) ++ E.drop (m + 1) = E.map (fun e => (0 : Int) + e - off) := by
                rw [List.take_of_length_le (by omega), List.drop_eq_nil_of_le (by omega), List.append_nil]
              have hqj := HQJ.out
              rw [hall] at hqj
              have cm : wr.cell? ⟨q, m, none⟩ = some (.int .i32 ((E.map (fun e => (0 : Int) + e - off)).getD m 0)) := by
                rw [blk_cell hqj m, List.getElem?_toArray, List.getElem?_map, fill_getD_in _ _ 0 M m (by simp; omega), List.getD_eq_getElem?_getD, List.getElem?_eq_getElem (by simp; omega)]
                rfl
              have zm := blk_frozen hqj m
              have HQL := Aside0.mk hqj
              clear hqj hall
              go_wp2_with fail
              go_roundw
              case rel =>
                refine ⟨k + 1, by omega, by go_num, ?_, ⟨?_⟩, ⟨HBJ.out.setCell (by show w.heap.size ≤ q; exact hqw) _⟩⟩
                · rw [HJ.out, List.nil_append, one_len _ _ _ _ (by omega), hmE]
                  rfl
                · have e1 : one 0 off len E = E.dropLast.map (fun e => (0 : Int) + e - off) ++ [len] := by simp [one]
                  rw [HJ.out, e1]
                  have h1 := blk_set HQL.out m (.int .i32 len)
                  rw [set_encW, fill_set_in _ _ _ _ _ (by simp; omega)] at h1
                  have h2 := set_end [] E 0 off len (by omega)
                  rw [List.nil_append, List.length_nil, hmE] at h2
                  rw [show 0 + (m + 1) - 1 = m by omega] at h2
                  rw [h2] at h1
                  exact h1
              case measure => simp [intOf]; omega
      · obtain ⟨k0, hk1⟩ : ∃ k0, k = k0 + 1 := ⟨k - 1, by omega⟩
        have hXs := HXL.out k0 hk1
        have HK0 := Aside0.mk hk0
        clear HX0 HXL hk1 hk0
        obtain ⟨x, hx⟩ : ∃ x, X.length = x + 1 := ⟨X.length - 1, by omega⟩
        rw [hx, Nat.add_sub_cancel] at hXs
        rw [hx] at hmon
        rw [hx]
        have HXX := Aside0.mk hx
        have HXS := Aside0.mk hXs
        clear hx hXs hx0
        have exl : IntKind.i64.wrap (((x + 1 : Nat) : Int) - 1) = (x : Int) := by rw [IntKind.wrap_i64]; omega
        have hx1 : x + 1 ≤ 10000 := by omega
        have hs0 : 0 ≤ s := by omega
        have hs1 : s ≤ 10000 := by omega
        have us1 : IntKind.u64.wrap s = s := by rw [IntKind.wrap_u64]; omega
        have us2 : IntKind.u64.wrap len = len := by rw [IntKind.wrap_u64]; omega
        have us3 : IntKind.u64.wrap (s + len) = s + len := by rw [IntKind.wrap_u64]; omega
        have esl : IntKind.i32.wrap (s + len) = s + len := wkW _ (by omega) (by omega)
        rcases (show len = f ∨ len < f by omega) with rfl | hgt
        all_goals
          go_wp2_with (first
            | (go_at_call 25
               refine (bufLen bb Bd Y cb wr (HBB.out wr HB.out)).mono ?_
               rintro e w1 ⟨rfl, rfl⟩)
            | (go_at_call 15
               refine (bufBytes bb Bd Y cb wr (HBB.out wr HB.out) hBc).mono ?_
               rintro e w1 ⟨rfl, h1⟩
               have HB1 := Aside0.mk (HB.out.trans (h1.below.mono HB.out.size))
               have HQ1 := Aside0.mk ((h1.below.block q (block_lt HQ.out)).trans HQ.out)
               clear h1)
            | (have hg := HB1.out; clear hg; go_at_call 28
               refine (HGD.out w1 HB1.out).mono ?_
               rintro e w2 ⟨r, hr, rfl, hrh, hb2⟩
               have HR := Aside0.mk hrh
               have HB2 := Aside0.mk (HB1.out.trans (hb2.mono HB1.out.size))
               have HQ2 := Aside0.mk ((hb2.block q (block_lt HQ1.out)).trans HQ1.out)
               have hqr : q ≠ r := by have := block_lt HQ1.out; omega
               have cl := src_atW hrh m (by have := HMM.out; omega)
               rw [HEL.out] at cl
               have cd := HCD.out w2 HB2.out
               have cx := cell_fillW HQ2.out x (by have := HXX.out; omega)
               rw [HXS.out] at cx
               clear hrh hb2 hr))
          refine (dataOffset d off _ w2 (HDD.out w2 HB2.out)).mono ?_
          rintro e w3 ⟨rfl, rfl⟩
          go_wp2_with fail
          refine (dataLen d off _ w2 (HDD.out w2 HB2.out)).mono ?_
          rintro e w3 ⟨rfl, rfl⟩
          try (go_wp2_with fail; refine (dataLen d off _ w2 (HDD.out w2 HB2.out)).mono ?_; rintro e w3 ⟨rfl, rfl⟩)
          go_wp2_with (first
            | (go_at_call 29
               refine (maxBigW w2).mono ?_
               rintro e w' ⟨⟨mx, rfl, hmx, emx⟩, rfl⟩
               have hnm : s + len ≤ mx := by omega))
          clear efin us1 us2 us3 emx cd cl cx
          go_loopw [103] (fun j wj => ∃ jj : Nat, jj ≤ m + 1 ∧ j = .int .i64 jj ∧ Aside0 (wj.heap[q]? = some (.cells ((fill (X ++ (E.take jj).map (fun e => s + e - off)) 0 M).map encW).toArray 21 (0, 0))) ∧ Aside0 (wj.heap[r]? = some (.cells (E.map encW).toArray 21 (0, 0))) ∧ Aside0 (Below w.heap.size w wj)) (fun j _ => m + 1 - (intOf j).toNat)
          case atStart => exact ⟨0, by omega, rfl, ⟨by simpa using HQ2.out⟩, HR, HB2⟩
          case round =>
            obtain ⟨jj, hjj, rfl, HQJ, HRJ, HBJ⟩ := hrel
            by_cases hj : jj < m + 1
            · have hjE : jj < E.length := by have := HMM.out; omega
              have cj := src_atW HRJ.out jj hjE
              have hml : (X ++ (E.take jj).map (fun e => s + e - off)).length = x + 1 + jj := by
                have := HXX.out
                simp
                omega
              have cq : wr.cell? ⟨q, x + 1 + jj, none⟩ = some (.int .i32 0) := by
                have h1 := fill_cell encW (X ++ (E.take jj).map (fun e => s + e - off)) 0 M (by rw [hml]; omega)
                rw [hml] at h1
                rw [blk_cell HQJ.out (x + 1 + jj)]
                exact h1
              have zq := blk_frozen HQJ.out (x + 1 + jj)
              have hvj := HV.out (E.getD jj 0) (by rw [List.getD_eq_getElem?_getD, List.getElem?_eq_getElem hjE]; exact List.getElem_mem _)
              have HS := Aside0.mk (map_snoc (fun e => s + e - off) E jj 0 hjE)
              have HML := Aside0.mk hml
              generalize E.getD jj 0 = ej at cj hvj HS
              have esum : IntKind.i32.wrap (s + ej) = s + ej := wkW _ (by omega) (by omega)
              have esub : IntKind.i32.wrap (s + ej - off) = s + ej - off := wkW _ (by omega) (by omega)
              clear hml hjE
              go_wp2_with fail
              go_roundw
              case rel =>
                refine ⟨jj + 1, by omega, by go_num, ⟨?_⟩, ⟨?_⟩, ⟨HBJ.out.setCell (by show w.heap.size ≤ q; exact hqw) _⟩⟩
                · have h1 := blk_set HQJ.out (x + 1 + jj) (encW (s + ej - off))
                  have h2 := fill_put encW (X ++ (E.take jj).map (fun e => s + e - off)) 0 (s + ej - off) M (by rw [HML.out]; omega)
                  rw [HML.out] at h2
                  rw [h2] at h1
                  rw [HS.out, ← List.append_assoc]
                  exact h1
                · exact (Below.heap_setCell _ _ _ _ (by show r ≠ q; omega)).trans HRJ.out
              case measure => simp [intOf]; omega
            · obtain rfl : jj = m + 1 := by omega
              have hmE := HMM.out
              have hqj := HQJ.out
              rw [List.take_of_length_le (by omega)] at hqj
              have hml : (X ++ E.map (fun e => s + e - off)).length = x + 1 + m + 1 := by
                have := HXX.out
                simp
                omega
              have cm := cell_fillW hqj (x + 1 + m) (by rw [hml]; omega)
              have zm := blk_frozen hqj (x + 1 + m)
              have HQL := Aside0.mk hqj
              have HML := Aside0.mk hml
              generalize (X ++ E.map (fun e => s + e - off)).getD (x + 1 + m) 0 = old at cm
              clear hml hqj hmE
              go_wp2_with fail
              go_roundw
              case rel =>
                refine ⟨k + 1, by omega, by go_num, ?_, ⟨?_⟩, ⟨HBJ.out.setCell (by show w.heap.size ≤ q; exact hqw) _⟩⟩
                · have h1 := HMM.out
                  have h2 := HXX.out
                  rw [HJ.out, List.length_append, one_len _ _ _ _ (by omega), h1, h2]
                  exact congrArg (Value.int IntKind.i64) (by push_cast; omega)
                · rw [HJ.out]
                  have hxx := HXX.out
                  have hmm := HMM.out
                  have h1 := blk_set HQL.out (x + 1 + m) (.int .i32 (s + len))
                  rw [set_encW, fill_set_in _ _ _ _ _ (by rw [HML.out]; omega)] at h1
                  have h2 := set_end X E s off (s + len) (by omega)
                  rw [show X.length + E.length - 1 = x + 1 + m by omega] at h2
                  rw [h2] at h1
                  exact h1
              case measure => simp [intOf]; omega
    · obtain rfl : k = n := by omega
      clear hlt
      have HL := Aside0.mk (show fill (jn ol es k) 0 M = jn ol es k from by rw [← HM.out.1, fill_all])
      have HRG := Aside0.mk (HF.out.range k (Nat.le_refl _))
      have hqp : q ≠ p := by omega
      go_wp2_with (first
        | (go_at_call 15
           refine (bufBytes b0 _ N N wr (HI.out wr HB.out) (Nat.le_refl _)).mono ?_
           rintro e w1 ⟨rfl, h1⟩
           have HB1 := Aside0.mk (HB.out.trans (h1.below.mono HB.out.size))
           have HQ1 := Aside0.mk (show w1.heap[q]? = some (.cells ((jn ol es k).map encW).toArray 21 (0, 0)) from by have h2 := HQ.out; rw [HL.out] at h2; exact (h1.below.block q (block_lt h2)).trans h2)
           clear h1)
        | (have hg := HB1.out; clear hg; go_at_call 30
           refine (putDataW p N q M (jn ol es k) w1 ((HB1.out.block p hpl).trans HW.out) HQ1.out hqp HM.out.1 HM.out.2 (by omega) (fun x hx => by have := HRG.out x hx; unfold OkW; omega)).mono ?_
           rintro e w2 ⟨rfl, hg2, hw2⟩
           have HG2 := Aside0.mk hg2
           have HW2 := Aside0.mk hw2
           clear hg2 hw2))
      go_ret
      exact ⟨rfl, (gb_below (World.grownBy.refl _ _) HB1.out).trans HG2.out, HW2.out⟩

end Go.Proofs.Ytldkpgjpfhoekaa.Join
