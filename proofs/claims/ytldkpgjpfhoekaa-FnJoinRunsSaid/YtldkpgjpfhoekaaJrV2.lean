/- The law's walk at one width. -/
import Derived.Test.YtldkpgjpfhoekaaJrV0
namespace Go.Proofs.Ytldkpgjpfhoekaa.Join
open Go.RowKit Go.Proofs.YtldkpgjpfhoekaaW.PrintWords Go.Proofs.YtldkpgjpfhoekaaW.PrintLast Go.Proofs.YtldkpgjpfhoekaaW.PrintMore Go.Proofs.Ytldkpgjpfhoekaa.POffsetsOf
attribute [local go_sem] max2_int min2_int max_two min_two max_three min_three max_four min_four
set_option linter.unusedVariables false
set_option linter.unusedSimpArgs false

def Gd2 (ps : List Pt) (rs : List (List Int)) (j : Nat) : Prop := Gd 2 ps rs j
set_option maxRecDepth 100000 in
set_option maxHeartbeats 8000000 in
theorem law2 (A : Option Addr) (n c : Nat) (ps : List Pt) (rs : List (List Int)) (w : World) (h : Args w A n c ps rs) (hf : FitsP n ps) (hn0 : 0 < n) (hn20 : n ≤ 20) :
    Calls Try.prog 3 #[.slice A n c, .int .i64 2] w (Fine w) := by
  have hc := h.cap
  have HP := Aside0.mk (And.intro h hf)
  clear h hf
  go_enter Try.func3, Try.ntmps3
  go_upto_region 5 with (first
    | (go_at_call 4; refine (fits13_yes A n c ps w HP.out.1.row HP.out.2).mono ?_; rintro e w1 ⟨rfl, hb1⟩; have HB1 := Aside0.mk hb1; clear hb1)
    | (have hg := HB1.out; clear hg; go_at_call 5; refine (first w1).mono ?_; rintro e w2 ⟨A2, c2, rfl, hc2, hC2, hb2⟩; have HB2 := Aside0.mk (HB1.out.trans (hb2.mono HB1.out.size)); have HC2 := Aside0.mk hC2; clear hb2 hC2)
    | (have hg := HB2.out; clear hg; go_at_call 6; refine (sameB A2 (some ⟨w2.heap.size, 0, none⟩) 2 c2 2 [3, 0] _ rfl (Kd.C_below HC2.out ((Below.refl _ _).alloc (Nat.le_refl _) _)) (lit2 w2) hc2 (Nat.le_refl _)).mono ?_; rintro e w3 ⟨rfl, hb3⟩; have HB3 := Aside0.mk ((HB2.out.alloc HB2.out.size _).trans (hb3.mono (by simp; have := HB2.out.size; omega))); clear hb3))
  clear HC2 hc2
  have hn20' : ¬ 20 < n := by omega
  have hn0' : ((n : Int) == 0) = false := by simp; omega
  go_wp2_with fail
  go_loopw [8, 9, 57] (fun o s i wr => ∃ k : Nat, k ≤ n ∧ i = .int .i64 k ∧ s = .int .i64 (sm (ps.map offLen) k) ∧ Aside0 (Kd.R (Kd.int .i64) 2 wr w.heap.size (fun _ => True) o (jn (ps.map offLen) (rs.map (dec 2)) k)) ∧ Aside0 (∀ j, j < k → Gd2 ps rs j) ∧ Aside0 (Below w.heap.size w wr)) (fun _ _ i _ => n - (intOf i).toNat)
  case atStart => exact ⟨0, Nat.zero_le _, rfl, rfl, ⟨by simpa [jn] using Kd.R_nil _ _ _ _ _⟩, ⟨fun j hj => by omega⟩, HB3⟩
  case round =>
    obtain ⟨k, hk, rfl, rfl, HO, HG, HB⟩ := hrel
    by_cases hlt : k < n
    · obtain ⟨ad, rfl, c0, c1, c2, c3⟩ := at_P (Kd.C_below HP.out.1.row HB.out) k hlt
      obtain ⟨r1, r2, r3⟩ := HP.out.1.byt k hlt
      obtain ⟨g1, g2⟩ := HP.out.1.rng k hlt
      have hpn := HP.out.2.2 k hlt
      have hpl : k < ps.length := by have := HP.out.1.row.1; omega
      have hrl : k < rs.length := by have := HP.out.1.len; omega
      obtain ⟨eo, el⟩ := off_at ps k hpl
      have ed := dec_at 2 rs k hrl
      have HSM := gd_sum (ol := ps.map offLen) (es := rs.map (dec 2)) (k := k) (fun j hj => by
        obtain ⟨q1, q2⟩ := off_at ps j (by omega)
        rw [q1, q2, dec_at 2 rs j (by omega)]
        exact (HG.out j hj).2.2)
      have HJ := Aside0.mk (show jn (ps.map offLen) (rs.map (dec 2)) (k + 1) = jn (ps.map offLen) (rs.map (dec 2)) k ++ one (sm (ps.map offLen) k) (gp ps k).off (gp ps k).len (dec 2 (rs.getD k [])) by rw [jn, eo, el, ed])
      have HS := Aside0.mk (show sm (ps.map offLen) (k + 1) = sm (ps.map offLen) k + (gp ps k).len by rw [sm, el])
      have HGD := Aside0.mk (show (gp ps k).has = true → (rs.getD k []).length % 2 = 0 → Fit1 (gp ps k).off (gp ps k).len (dec 2 (rs.getD k [])) → ∀ j, j < k + 1 → Gd2 ps rs j from fun b1 b2 b3 j hj => by
        rcases Nat.lt_or_ge j k with h | h
        · exact HG.out j h
        · obtain rfl : j = k := by omega
          exact ⟨b1, b2, b3⟩)
      obtain ⟨m, hm⟩ : ∃ m, (dec 2 (rs.getD k [])).length = m := ⟨_, rfl⟩
      have HOF := Aside0.mk (show ∀ W : World, Below w.heap.size w W → Calls Try.prog 7 #[.slice (gp ps k).A (gp ps k).n (gp ps k).c, .int .i64 2] W (Ret64n (dec 2 (rs.getD k [])) m W) from fun W hb => (offsOf 2 (by decide) (gp ps k).A (gp ps k).n (gp ps k).c (rs.getD k []) W r1.1 (Kd.C_of_reads (d := 0) (r1.below hb)) r2 r3 hpn).mono fun e w' h => ret64_n hm h)
      have hyl : (rs.getD k []).length = (gp ps k).n := r1.1
      rw [hyl] at HGD
      clear r1 r3 hpl hrl eo el ed hyl
      generalize dec 2 (rs.getD k []) = E at HJ HGD hm HOF
      generalize jn (ps.map offLen) (rs.map (dec 2)) k = X at HO HJ HSM
      generalize sm (ps.map offLen) k = s at HS HJ HSM ⊢
      generalize gp ps k = p at c0 c1 c2 c3 r2 g1 g2 hpn HS HJ HGD HOF
      rcases p with ⟨has, pA, pn, pc, off, len⟩
      dsimp only at c0 c1 c2 c3 r2 g1 g2 hpn HS HJ HGD HOF
      have HM := Aside0.mk hm
      obtain ⟨s0, s1, x1⟩ := HSM
      clear hm
      clear g1 g2 hpn
      go_wp2_with fail
      refine (HOF.out _ (HB.out.trans (((Below.refl _ _).alloc (Nat.le_refl _) _).mono HB.out.size))).mono ?_
      rintro e w4 ⟨A4, c4, rfl, hc4, hC4, hb4, hg4⟩
      have hk4 := (hb4.block wr.heap.size (by simp)).trans (heap_alloc_new wr (.cells #[.bool has, .slice pA pn pc, .int .i64 off, .int .i64 len] 28))
      have q0 : w4.cell? ⟨wr.heap.size, 0, none⟩ = some (.bool has) := blk_cell hk4 0
      have q1 : w4.cell? ⟨wr.heap.size, 1, none⟩ = some (.slice pA pn pc) := blk_cell hk4 1
      have q2 : w4.cell? ⟨wr.heap.size, 2, none⟩ = some (.int .i64 off) := blk_cell hk4 2
      have q3 : w4.cell? ⟨wr.heap.size, 3, none⟩ = some (.int .i64 len) := blk_cell hk4 3
      have K4 := Aside0.mk hk4
      have HB4 := Aside0.mk (show Below wr.heap.size wr w4 from ((Below.refl _ _).alloc (Nat.le_refl _) _).trans (hb4.mono (by simp)))
      have HC4 := Aside0.mk hC4
      have HBF := Aside0.mk (HB.out.trans (HB4.out.mono HB.out.size))
      have HG4 := Aside0.mk (show 0 < m → ∃ g, A4 = some ⟨g, 0, none⟩ ∧ wr.heap.size < g from fun h => by
        obtain ⟨g, h1, h2⟩ := hg4 h
        exact ⟨g, h1, by simp at h2; omega⟩)
      have HX0 := Aside0.mk (show ∀ g, wr.heap.size < g → Kd.R (Kd.int .i64) 2 w4 w.heap.size (fun k => k ≠ g ∧ k ≠ wr.heap.size) _ X from fun g hg => Kd.R_below (Kd.R_mono (Kd.R_bound HO.out) (fun k hk => ⟨by have := hk.2.2.1; omega, by have := hk.2.2.1; omega⟩)) HB4.out)
      clear hk4 hb4 hC4 HOF c0 c1 c2 c3 HO hg4
      generalize wr.heap.size = pb at q0 q1 q2 q3 K4 HB4 HG4 HX0 ⊢
      go_upto_region 14 with fail
      cases has with
      | false => (go_wp2_with fail; go_ret; exact ⟨rfl, HBF.out⟩)
      | true =>
        by_cases h2 : (pn : Int) % 2 = 0
        case neg =>
          (go_wp2_with fail; go_ret; exact ⟨rfl, HBF.out⟩)
        case pos =>
          have HRM := Aside0.mk (show pn % 2 = 0 by omega)
          by_cases h3 : m = 0
          case pos => (subst h3; go_wp2_with fail; go_ret; exact ⟨rfl, HBF.out⟩)
          case neg =>
            have h3' : ((m : Int) == 0) = false := by simp; omega
            by_cases h4 : off < 0
            case pos => (go_wp2_with fail; go_ret; exact ⟨rfl, HBF.out⟩)
            case neg =>
              by_cases h5 : len < 1
              case pos => (go_wp2_with fail; go_ret; exact ⟨rfl, HBF.out⟩)
              case neg =>
                by_cases h6 : 1000 < off
                case pos => (go_wp2_with fail; go_ret; exact ⟨rfl, HBF.out⟩)
                case neg =>
                  by_cases h7 : 500 < len
                  case pos => (go_wp2_with fail; go_ret; exact ⟨rfl, HBF.out⟩)
                  case neg =>
                    have z0 : 0 ≤ off := by omega
                    have z1 : off ≤ 1000 := by omega
                    have z2 : 1 ≤ len := by omega
                    have z3 : len ≤ 500 := by omega
                    go_wp2_with fail
                    clear h2 h4 h5 h6 h7
                    obtain ⟨gE, rfl, hgE⟩ := HG4.out (by omega)
                    have HX1 := Aside0.mk (HX0.out gE hgE)
                    obtain ⟨a4, ha4, hcell⟩ := (Kd.reads_of_C (d := 0) HC4.out).2.2 (by omega)
                    injection ha4 with ha4
                    subst ha4
                    have hgl : gE < w4.heap.size := cell_lt (hcell 0 (by omega))
                    have hpb : pb < w4.heap.size := block_lt K4.out
                    have HCE := Aside0.mk hcell
                    clear HX0 HG4 HC4 hcell
                    go_loopw [8, 13, 106] (fun o lst i wq => ∃ (x : Nat) (lv : Int), x ≤ m ∧ i = .int .i64 x ∧ lst = .int .i64 lv ∧ off + x ≤ lv ∧ Aside0 (Inn off len E x) ∧ Aside0 (Kd.R (Kd.int .i64) 2 wq w.heap.size (fun k => k ≠ gE ∧ k ≠ pb) o (X ++ part s off len (E.take x))) ∧ Aside0 (Below w.heap.size w wq) ∧ Aside0 (wq.heap[pb]? = w4.heap[pb]? ∧ wq.heap[gE]? = w4.heap[gE]? ∧ w4.heap.size ≤ wq.heap.size)) (fun _ _ i _ => m - (intOf i).toNat)
                    case atStart => exact ⟨0, off, Nat.zero_le _, rfl, rfl, by omega, ⟨Inn.zero _ _ _⟩, ⟨by simpa [part] using HX1.out⟩, HBF, ⟨rfl, rfl, Nat.le_refl _⟩⟩
                    case round =>
                      obtain ⟨x, lv, hx, rfl, rfl, hlv, HI, HR, HBW, HBK⟩ := hrel
                      by_cases hxm : x < m
                      · have k5 := HBK.out.1.trans K4.out
                        have p2 : wr.cell? ⟨pb, 2, none⟩ = some (.int .i64 off) := blk_cell k5 2
                        have p3 : wr.cell? ⟨pb, 3, none⟩ = some (.int .i64 len) := blk_cell k5 3
                        have ce0 := HCE.out x hxm
                        rw [add_plain] at ce0
                        have ce := (cell_of_block (o := x) HBK.out.2.1).trans ce0
                        have hxE : x < E.length := by rw [HM.out]; exact hxm
                        have HPS := Aside0.mk (part_snoc s off len E x hxE)
                        have HST := Aside0.mk (HI.out.step (m := x))
                        rw [HM.out] at HST
                        have hpl : (X ++ part s off len (E.take x)).length ≤ 100000 := by
                          have hx5 : x ≤ 500 := by
                            rcases Nat.eq_zero_or_pos x with h0 | h0
                            · omega
                            · obtain ⟨a1, _, a3, _⟩ := HI.out.at_ (x - 1) (by omega)
                              have := a3 (by omega)
                              omega
                          have hl5 : (E.take x).length ≤ 500 := by rw [List.length_take]; omega
                          rw [List.length_append]
                          unfold part
                          rw [List.length_map]
                          omega
                        have HPL := Aside0.mk hpl
                        clear k5 ce0 hxE hpl
                        generalize E.getD x 0 = e at ce HPS HST
                        have esum : IntKind.i64.wrap (off + len) = off + len := by rw [IntKind.wrap_i64]; omega
                        by_cases b1 : e ≤ lv
                        case pos => (go_wp2_with fail; go_ret; exact ⟨rfl, HBW.out⟩)
                        case neg =>
                          by_cases b2 : 16384 < e
                          case pos => (go_wp2_with fail; go_ret; exact ⟨rfl, HBW.out⟩)
                          case neg =>
                            by_cases b3 : x + 1 < m
                            case pos =>
                              by_cases b4 : off + len ≤ e
                              case pos => (go_wp2_with fail; go_ret; exact ⟨rfl, HBW.out⟩)
                              case neg =>
                                have b5 : ¬ len < e - off := by omega
                                have emin : IntKind.i64.wrap (s + (e - off)) = s + (e - off) := by rw [IntKind.wrap_i64]; omega
                                have HST1 := Aside0.mk (HST.out (by omega) (by omega) (fun _ => by omega) (fun h => by omega))
                                have HMV := Aside0.mk (show s + min (e - off) len = s + (e - off) by omega)
                                go_wp2_with ((with_reducible refine gate_builtin (b := .append) (xs := #[.tmp 152, .tmp 162]) rfl ?_); at_builtin; refine Kd.R_append (Kd.int .i64) (w0 := w) w.heap.size rfl (.tmp 152) (.tmp 162) 30 2 (.int .i64 0) 8 rfl Try.underlying30 info2 rfl (by decide) (by omega) _ (X ++ part s off len (E.take x)) (s + (e - off)) [.int .i64 (s + (e - off))] (fun k => k ≠ gE ∧ k ≠ pb) (fun _ => False) rfl rfl rfl (fun _ hk => hk.elim) (fun k hk => ⟨by have := HBK.out.2.2; omega, by have := HBK.out.2.2; omega⟩) HR.out HBW.out HBW.out.size (by have := HPL.out; omega) ?_; intro v9 w9 ho9 hb9 hg9 _; have HO9 := Aside0.mk ho9; have HB9 := Aside0.mk hb9; have HK9 := Aside0.mk (show w9.heap[pb]? = w4.heap[pb]? ∧ w9.heap[gE]? = w4.heap[gE]? ∧ w4.heap.size ≤ w9.heap.size from ⟨(hg9.block pb (by have := HBK.out.2.2; omega) (fun e => (HR.out.1 pb e.symm).2 rfl)).trans HBK.out.1, (hg9.block gE (by have := HBK.out.2.2; omega) (fun e => (HR.out.1 gE e.symm).1 rfl)).trans HBK.out.2.1, Nat.le_trans HBK.out.2.2 hg9.size⟩); clear ho9 hb9 hg9)
                                go_roundw
                                case rel => exact ⟨x + 1, e, by omega, by go_num, rfl, by push_cast; omega, HST1, ⟨by rw [HPS.out, ← List.append_assoc, HMV.out]; exact HO9.out⟩, HB9, HK9⟩
                                case measure => simp [intOf]; omega
                            case neg =>
                              have HXM := Aside0.mk (show x + 1 = m by omega)
                              have hq1 : ((x : Int) + 1 == (m : Int)) = true := by simp; omega
                              have hq2 : decide ((x : Int) + 1 < (m : Int)) = false := by simp; omega
                              clear b3
                              by_cases b4 : e < off + len
                              case pos => (go_wp2_with fail; go_ret; exact ⟨rfl, HBW.out⟩)
                              case neg =>
                                have HST1 := Aside0.mk (HST.out (by omega) (by omega) (fun h => by have := HXM.out; omega) (fun _ => by omega))
                                have emin : IntKind.i64.wrap (s + len) = s + len := by rw [IntKind.wrap_i64]; omega
                                have HMV := Aside0.mk (show s + min (e - off) len = s + len by omega)
                                by_cases b5 : len < e - off
                                case pos =>
                                  go_wp2_with ((with_reducible refine gate_builtin (b := .append) (xs := #[.tmp 152, .tmp 162]) rfl ?_); at_builtin; refine Kd.R_append (Kd.int .i64) (w0 := w) w.heap.size rfl (.tmp 152) (.tmp 162) 30 2 (.int .i64 0) 8 rfl Try.underlying30 info2 rfl (by decide) (by omega) _ (X ++ part s off len (E.take x)) (s + len) [.int .i64 (s + len)] (fun k => k ≠ gE ∧ k ≠ pb) (fun _ => False) rfl rfl rfl (fun _ hk => hk.elim) (fun k hk => ⟨by have := HBK.out.2.2; omega, by have := HBK.out.2.2; omega⟩) HR.out HBW.out HBW.out.size (by have := HPL.out; omega) ?_; intro v9 w9 ho9 hb9 hg9 _; have HO9 := Aside0.mk ho9; have HB9 := Aside0.mk hb9; have HK9 := Aside0.mk (show w9.heap[pb]? = w4.heap[pb]? ∧ w9.heap[gE]? = w4.heap[gE]? ∧ w4.heap.size ≤ w9.heap.size from ⟨(hg9.block pb (by have := HBK.out.2.2; omega) (fun e => (HR.out.1 pb e.symm).2 rfl)).trans HBK.out.1, (hg9.block gE (by have := HBK.out.2.2; omega) (fun e => (HR.out.1 gE e.symm).1 rfl)).trans HBK.out.2.1, Nat.le_trans HBK.out.2.2 hg9.size⟩); clear ho9 hb9 hg9)
                                  go_roundw
                                  case rel => exact ⟨x + 1, e, by omega, by go_num, rfl, by push_cast; omega, HST1, ⟨by rw [HPS.out, ← List.append_assoc, HMV.out]; exact HO9.out⟩, HB9, HK9⟩
                                  case measure => simp [intOf]; omega
                                case neg =>
                                  have emin2 : IntKind.i64.wrap (s + (e - off)) = s + (e - off) := by rw [IntKind.wrap_i64]; omega
                                  have HMV := Aside0.mk (show s + min (e - off) len = s + (e - off) by omega)
                                  go_wp2_with ((with_reducible refine gate_builtin (b := .append) (xs := #[.tmp 152, .tmp 162]) rfl ?_); at_builtin; refine Kd.R_append (Kd.int .i64) (w0 := w) w.heap.size rfl (.tmp 152) (.tmp 162) 30 2 (.int .i64 0) 8 rfl Try.underlying30 info2 rfl (by decide) (by omega) _ (X ++ part s off len (E.take x)) (s + (e - off)) [.int .i64 (s + (e - off))] (fun k => k ≠ gE ∧ k ≠ pb) (fun _ => False) rfl rfl rfl (fun _ hk => hk.elim) (fun k hk => ⟨by have := HBK.out.2.2; omega, by have := HBK.out.2.2; omega⟩) HR.out HBW.out HBW.out.size (by have := HPL.out; omega) ?_; intro v9 w9 ho9 hb9 hg9 _; have HO9 := Aside0.mk ho9; have HB9 := Aside0.mk hb9; have HK9 := Aside0.mk (show w9.heap[pb]? = w4.heap[pb]? ∧ w9.heap[gE]? = w4.heap[gE]? ∧ w4.heap.size ≤ w9.heap.size from ⟨(hg9.block pb (by have := HBK.out.2.2; omega) (fun e => (HR.out.1 pb e.symm).2 rfl)).trans HBK.out.1, (hg9.block gE (by have := HBK.out.2.2; omega) (fun e => (HR.out.1 gE e.symm).1 rfl)).trans HBK.out.2.1, Nat.le_trans HBK.out.2.2 hg9.size⟩); clear ho9 hb9 hg9)
                                  go_roundw
                                  case rel => exact ⟨x + 1, e, by omega, by go_num, rfl, by push_cast; omega, HST1, ⟨by rw [HPS.out, ← List.append_assoc, HMV.out]; exact HO9.out⟩, HB9, HK9⟩
                                  case measure => simp [intOf]; omega
                      · have HXM := Aside0.mk (show x = m by omega)
                        have hEm : E.take x = E := List.take_of_length_le (by have := HM.out; omega)
                        have hin := HI.out
                        rw [show x = E.length by have := HM.out; omega] at hin
                        have HFT := Aside0.mk (hin.fit z0 z1 z2 z3 (by have := HM.out; omega))
                        have hrr := HR.out
                        rw [hEm, part_one hin (by have := HM.out; omega), ← HJ.out] at hrr
                        have HR1 := Aside0.mk (Kd.R_mono hrr (fun _ _ => trivial))
                        have HG1 := Aside0.mk (HGD.out trivial HRM.out HFT.out)
                        have k5 := HBK.out.1.trans K4.out
                        have p3 : wr.cell? ⟨pb, 3, none⟩ = some (.int .i64 len) := blk_cell k5 3
                        have hxm' : ¬ x < m := hxm
                        have esum2 : IntKind.i64.wrap (s + len) = s + len := by rw [IntKind.wrap_i64]; omega
                        clear hEm hin hrr k5
                        go_wp2_with fail
                        go_roundw
                        case rel => exact ⟨k + 1, by omega, by go_num, by rw [HS.out], HR1, HG1, HBW⟩
                        case measure => simp [intOf]; omega
    · obtain rfl : k = n := by omega
      have hgo := goes_of (z := 2) (by decide) HP.out.1 HP.out.2 hn20 HG.out
      obtain ⟨X, hX⟩ : ∃ X, jn (ps.map offLen) (rs.map (dec 2)) k = X := ⟨_, rfl⟩
      have hx9 := hgo.fit.small k (Nat.le_refl _)
      obtain ⟨M, hM⟩ : ∃ M, X.length = M := ⟨_, rfl⟩
      obtain ⟨N, hN⟩ : ∃ N, M * 2 = N := ⟨_, rfl⟩
      rw [hX, hM] at hx9
      have ho := HO.out
      rw [hX] at ho
      obtain ⟨B, cB, rfl, hcB, hCB⟩ := reads_n hM ho
      have HCB := Aside0.mk hCB
      have HJN := Aside0.mk (show ∀ W : World, Below w.heap.size w W → Calls Try.prog 5 #[.slice A k c, .int .i64 2] W (RetJN 2 N X W) from fun W hW => join_n A k c 2 M N ps (rs.map (dec 2)) X W (hgo.below hW) hc hX hM hN)
      have HBY := Aside0.mk (show ∀ W : World, Below wr.heap.size wr W → Calls Try.prog 8 #[.slice B M cB, .int .i64 2] W (fun e w' => ∃ A' c', e = .returned (.slice A' N c') ∧ N ≤ c' ∧ Kd.C (Kd.int .u8) w' A' N (bytesL 2 (usz 2 X)) ∧ Below W.heap.size W w') from fun W hW => bytsOf 2 (by decide) B M cB N X W hM (Kd.C_below HCB.out hW) hcB (by omega) hN)
      have hbl : (bytesL 2 (usz 2 X)).length = N := by rw [bytesL_len, usz_len, hM, hN]
      have HBL := Aside0.mk hbl
      clear hgo hX hx9 hM hN ho hCB hbl HO
      go_wp2_with (first
        | (go_at_call 5; refine (HJN.out _ HB.out).mono ?_; rintro e w5 ⟨A5, c5, rfl, hc5, hC5, hb5⟩; have HB5 := Aside0.mk hb5; have HC5 := Aside0.mk hC5; clear hb5 hC5)
        | (have hg := HB5.out; clear hg; go_at_call 8; refine (HBY.out _ HB5.out).mono ?_; rintro e w6 ⟨A6, c6, rfl, hc6, hC6, hb6⟩; have HB6 := Aside0.mk hb6; have HC6 := Aside0.mk hC6; clear hb6 hC6)
        | (have hg := HB6.out; clear hg; go_at_call 6; refine (sameB A5 A6 N c5 c6 (bytesL 2 (usz 2 X)) _ HBL.out (Kd.C_below HC5.out HB6.out) HC6.out hc5 hc6).mono ?_; rintro e w7 ⟨rfl, hb7⟩; have HB7 := Aside0.mk hb7; clear hb7))
      go_ret
      exact ⟨rfl, HB.out.trans ((HB5.out.trans ((HB6.out.trans (HB7.out.mono HB6.out.size)).mono HB5.out.size)).mono HB.out.size)⟩

end Go.Proofs.Ytldkpgjpfhoekaa.Join
