/- A kernel over one type: what its comparison says is put, bit by bit. -/
import Derived.Test.YtmdmpdbnnegpiaaGreatDoorCmLF
import Derived.Test.YtmdmpdbnnegpiaaGreatDoorCmS
import Derived.Deep.CutRange
import Derived.Deep.LoopGhost
import Derived.Deep.DeepCutAuto
import Derived.Deep.CutBlock
namespace Go.Proofs.YtmdmpdbnnegpiaaGreatDoor.Cmp
open Go.RowKit Go.Proofs.YtmdmpdbnnegpiaaGreatDoorW.PrintWords Go.Proofs.YtmdmpdbnnegpiaaGreatDoorW.PrintLast Go.Proofs.YtmdmpdbnnegpiaaGreatDoorW.PrintMore
set_option linter.unusedVariables false
set_option linter.unusedSimpArgs false

def OpSAF (N : Nat) (p : Int → Int → Bool) : Prop := ∀ (A2 : Option Addr) (n2 c2 q m c : Nat) (x : Int) (ys : List Int) (us : List Int) (w : World), RdT encF w q A2 n2 ys → W32 w q us → m ≤ n2 → m ≤ us.length → m ≤ 1000 →
    Calls Tryz.prog N #[encF x, .slice A2 n2 c2, .slice (some ⟨q, 0, none⟩) m c] w (Wrote w q us m (fun i => p x (ys.getD i 0)))
theorem KS.opSAF {w w0 wr : World} {q g nb : Nat} {T : TypeId} {rest : List Value} {us bs : List Int} {lo k0 : Nat} {p : Int → Int → Bool} {x : Int} {ys : List Int} {N q1 : Nat} (h : KS w w0 wr q g nb T rest us bs lo k0 (fun i => p x (ys.getD i 0))) (b : KB w w0 q g nb bs) (hop : OpSAF N p)
    (hX : w0.heap[q1]? = some (.cells (ys.map encF).toArray 28 (0, 0))) (n1 : q1 ≠ g) (n2 : q1 ≠ q) (B1 : Option Addr) (k n c1 mm c : Nat) (hB1 : 0 < n → B1 = some ⟨q1, k, none⟩) (hkx : k + n ≤ ys.length) (hsx : ys.length ≤ 1000) (hmm : mm ≤ n) (h32 : mm ≤ 32) :
    Calls Tryz.prog N #[encF x, .slice B1 n c1, .slice (some ⟨q, 0, none⟩) mm c] wr (fun e w' => e = .returned (.tuple #[]) ∧ KS w w0 w' q g nb T rest (outs (fun i => p x (ys.getD (k + i) 0)) mm us) bs lo k0 (fun i => p x (ys.getD i 0))) := by
  have hc := hop B1 n c1 q mm c x _ us wr (h.rd hX n1 n2 B1 k n hB1 hkx hsx) h.U hmm (by rw [h.len]; exact h32) (by omega)
  have hk := h.op b h32 hc
  rw [outs_eq _ (fun i => p x (ys.getD (k + i) 0)) mm us (fun i hi => by rw [getD_mid _ _ _ _ _ (by omega)])] at hk
  exact hk
set_option maxRecDepth 100000 in
set_option maxHeartbeats 8000000 in
theorem kerSAF (N : Nat) (hent : ∀ (args : Array Value) (W : World), (callFunc N args).run Tryz.prog W = .ok (.enter N args) W) (p : Int → Int → Bool) (hop : OpSAF N p) (A1 A2 A : Option Addr) (n1 c1 n2 c2 g nb cb bx fr m : Nat) (xs ys bs : List Int) (T : TypeId) (rest : List Value) (w : World)
    (h1 : ReadsOf (Value.int .u8) (0 : Int) w A1 n1 (bytesL 8 xs)) (h2 : ReadsOf (Value.int .u8) (0 : Int) w A2 n2 (bytesL 8 ys)) (hc1 : n1 ≤ c1) (hc2 : n2 ≤ c2) (hx : ∀ x ∈ xs, OkF x) (hy : ∀ x ∈ ys, OkF x) (hl : ys.length = m) (hl2 : 0 < xs.length) (hl3 : xs.length ≤ 300) (hm : m ≤ 300) (hM : Masks w)
    (hA : 0 < nb → A = some ⟨g, 0, none⟩) (hw : 0 < nb → W8 w g T rest bs) (hb : Bytes bs) (hbl : bs.length = nb) (hnc : nb ≤ cb) (hf : fr ≤ 7) (hr : fr + m ≤ 8 * nb) (hnb : nb ≤ 100) (g4 : 4 ≤ g) (hgl : g < w.heap.size) (hbx : w.cell? ⟨bx, 0, none⟩ = some (.func (.func N) #[] #[])) (hbg : bx ≠ g) :
    Calls Tryz.prog 94 #[.slice A1 n1 c1, .slice A2 n2 c2, .slice A nb cb, .int .i64 fr, .pointer (some ⟨bx, 0, none⟩)] w (ToldF w g nb T rest bs fr m (fun i => p (xs.getD 0 0) (ys.getD i 0))) := by
  have H1 := Aside0.mk (getAtF A1 n1 c1 0 xs w h1 hc1 hl2 (by omega) hx)
  generalize xs.getD 0 0 = x at H1 ⊢
  have H2 := Aside0.mk (fun (W : World) (hb : Below w.heap.size w W) => getDataF A2 n2 c2 m ys W (h2.below hb) hc2 hl (by omega) hy)
  have ep : ((fr : Int)).tmod 8 = (fr : Int) := by rw [Int.tmod_eq_emod_of_nonneg (by omega)]; omega
  have HS := Aside0.mk (And.intro hM (And.intro hA (And.intro hw (And.intro hb (And.intro hbl hbx)))))
  have HL := Aside0.mk hl
  clear h1 h2 hx hy hl hl2 hl3 hM hA hw hb hbl hbx
  go_enter Tryz.func94, Tryz.ntmps94
  go_upto_if 33 with (first | (go_at_call 93; refine H1.out.mono ?_; rintro e w1 ⟨rfl, hb1⟩; have HB1 := Aside0.mk hb1; clear hb1 H1) | (go_at_call 89; refine (H2.out _ HB1.out).mono ?_; rintro e w2 ⟨q1, hq1, rfl, hX, hb2⟩; have HX := Aside0.mk hX; have HB2 := Aside0.mk hb2; clear hX hb2 H2))
  change Code.wp _ _ _ _ (w2.alloc (.cells ((List.replicate 32 (0 : Int)).map (Value.int .u32)).toArray 180))
  have hs1 := HB1.out.size
  have hs2 := HB2.out.size
  have HXW := Aside0.mk ((Below.heap_alloc w2 (.cells ((List.replicate 32 (0 : Int)).map (Value.int .u32)).toArray 180) _ (block_lt HX.out)).trans HX.out)
  have HU := Aside0.mk (show W32 (w2.alloc (.cells ((List.replicate 32 (0 : Int)).map (Value.int .u32)).toArray 180)) w2.heap.size (List.replicate 32 0) from heap_alloc_new w2 _)
  have hbw : Below w.heap.size w (w2.alloc (.cells ((List.replicate 32 (0 : Int)).map (Value.int .u32)).toArray 180)) := (HB1.out.trans (HB2.out.mono hs1)).trans ((Below.refl _ _).alloc (Nat.le_trans hs1 hs2) _)
  have hqs : w2.heap.size < (w2.alloc (.cells ((List.replicate 32 (0 : Int)).map (Value.int .u32)).toArray 180)).heap.size := block_lt HU.out
  have hq1l : q1 < w2.heap.size := block_lt HX.out
  generalize w2.alloc (.cells ((List.replicate 32 (0 : Int)).map (Value.int .u32)).toArray 180) = w0 at HXW HU hbw hqs ⊢
  have hq0 : w.heap.size ≤ w2.heap.size := by omega
  clear HX HB1 HB2
  generalize w2.heap.size = q at HU hqs hq1l hq0 hs2 ⊢
  obtain ⟨hM, hA, hw, hb, hbl, hbx⟩ := HS.out
  have hgq : g ≠ q := by omega
  have HKB := Aside0.mk (show KB w w0 q g nb bs from ⟨hbl, hM.below hbw (by have := hM.lt; omega), hq0, hqs, hgq, g4, by omega⟩)
  have HK := Aside0.mk (show KS w w0 w0 q g nb T rest (List.replicate 32 0) bs fr 0 (fun i => p x (ys.getD i 0)) from ⟨gb_base (World.grownBy.refl _ _) hbw, fun _ _ _ _ => rfl, Nat.le_refl _, HU.out, by simp, bs, fun h => (hbw.block _ hgl).trans (hw h), BitsAre.none hb _ _⟩)
  have hbxl := cell_lt hbx
  have HBX := Aside0.mk ((hbw.cell (p := ⟨bx, 0, none⟩) hbxl).trans hbx)
  have hbq : bx ≠ q := by have : bx < w.heap.size := hbxl; omega
  have hq1g : q1 ≠ g := by omega
  have hq1q : q1 ≠ q := by omega
  have HA := Aside0.mk hA
  clear hM hw hb hbl hbx hA HS hbw HU hs1 hs2 hq1 hqs hq1l hq0 hbxl
  go_cut [2, 10, 11] from 15 (fun s2 s9 s11 W => ∃ (k o : Nat) (B B1 : Option Addr) (us : List Int), fr + k = 8 * o ∧ k ≤ m ∧ o ≤ nb ∧ s2 = .slice B (nb - o) (cb - o) ∧ s9 = .slice B1 (m - k) (m - k) ∧ s11 = .int .i64 ((m - k : Nat) : Int) ∧ Aside0 ((0 < nb - o → B = some ⟨g, o, none⟩) ∧ (0 < m - k → B1 = some ⟨q1, k, none⟩)) ∧ Aside0 (KS w w0 W q g nb T rest us bs fr k (fun i => p x (ys.getD i 0))))
  case first =>
    by_cases h0 : fr = 0
    · have hfz : ((fr : Int) != 0) = false := by simp [h0]
      go_wp2
      go_meet
      exact ⟨0, 0, A, some ⟨q1, 0, none⟩, List.replicate 32 0, by omega, by omega, by omega, rfl, rfl, rfl, ⟨⟨HA.out, fun _ => rfl⟩⟩, HK⟩
    · have hfz : ((fr : Int) != 0) = true := by simp [h0]
      obtain ⟨v, hv⟩ : ∃ v, min m (8 - fr) = v := ⟨_, rfl⟩
      have e1 : IntKind.i64.wrap (8 - (fr : Int)) = 8 - (fr : Int) := by rw [IntKind.wrap_i64]; omega
      have e2 : (if 8 - (fr : Int) < (m : Int) then 8 - (fr : Int) else (m : Int)) = (v : Int) := by split <;> omega
      have hvm : v ≤ m := by omega
      have hv8 : v ≤ 8 := by omega
      have hbx0 := HBX.out
      have hvz : (v : Int) ≤ m := by omega
      have hvz8 : (v : Int) ≤ 32 := by omega
      go_upto_region 8 with fail
      go_still_tail 8, (by kernel_rfl)
      change wpList _ _ _ _ _ w0.drew
      have HKD := Aside0.mk HK.out.drew
      clear HK hbx0
      generalize w0.drew = w3 at HKD ⊢
      go_upto_region 9 with (refine (HKD.out.opSAF HKB.out hop HXW.out hq1g hq1q _ 0 v _ v _ (fun _ => rfl) (by have := HL.out; omega) (by have := HL.out; omega) (Nat.le_refl _) (by omega)).mono ?_; rintro e w4 ⟨rfl, hk4⟩; have HK4 := Aside0.mk hk4; clear hk4)
      obtain ⟨us, hus⟩ : ∃ us, outs (fun i => p x (ys.getD (0 + i) 0)) v (List.replicate 32 0) = us := ⟨_, rfl⟩
      have hu : ∀ i, i < v → us.getD i 0 = b2i (p x (ys.getD i 0)) := fun i hi => by rw [← hus, outs_get _ _ _ _ hi, Nat.zero_add]
      rw [hus] at HK4
      have HU := Aside0.mk hu
      clear hus hu HKD
      have e3 : IntKind.i64.wrap ((m : Int) - (v : Int)) = ((m - v : Nat) : Int) := by rw [IntKind.wrap_i64]; omega
      by_cases hmv : m = v
      all_goals
        go_upto_region 10 with fail
        have HMV := Aside0.mk hmv
        clear hmv
        go_wp2_with fail
        go_loopg [57] v (fun gk i wr => ∃ j : Nat, j ≤ v ∧ gk = v - j ∧ i = .int .i64 j ∧ Aside0 (KS w w0 wr q g nb T rest us bs fr j (fun i => p x (ys.getD i 0))))
        case atStart => exact ⟨0, Nat.zero_le _, rfl, rfl, ⟨HK4.out⟩⟩
        case round =>
          clear HK4
          obtain ⟨j, hj, hgk, rfl, HKJ⟩ := hrel
          by_cases hlt : j < v
          · have c0 := HKJ.out.U.cell j (by rw [HKJ.out.len]; omega)
            rw [HU.out j hlt] at c0
            have hbn := b2i_ne (p x (ys.getD j 0))
            have e4 : IntKind.i64.wrap ((fr : Int) + (j : Int)) = ((fr + j : Nat) : Int) := by rw [IntKind.wrap_i64]; omega
            have HB := Aside0.mk (HKJ.out.bit HKB.out A 0 nb cb (fr + j) (p x (ys.getD j 0)) HA.out (by omega) (by omega) (by omega) (by omega) rfl)
            generalize p x (ys.getD j 0) = pv at c0 hbn HB
            generalize b2i pv = bv at c0 hbn
            have hj32 : (j : Int) < 32 := by omega
            go_wp2_with (go_at_call 90; refine HB.out.mono ?_; rintro e w5 ⟨rfl, hk5⟩; have HK5 := Aside0.mk hk5; clear hk5)
            go_roundg (v - (j + 1))
            case measure => omega
            case rel => exact ⟨j + 1, by omega, rfl, by go_num, HK5⟩
          · obtain rfl : j = v := by omega
            have hmv := HMV.out
            have hAo := HA.out
            go_wp2_with fail
            first
              | (go_end0; exact ⟨rfl, HKJ.out.grow, by rw [hmv]; exact HKJ.out.out⟩)
              | (go_meet; exact ⟨j, 1, _, _, us, by omega, by omega, by omega, rfl, rfl, rfl, ⟨⟨fun _ => by rw [hAo (by omega)]; rfl, fun _ => rfl⟩⟩, HKJ⟩)
  case rest =>
    obtain ⟨k, o, B, B1, us, hfk, hkm, hon, rfl, rfl, rfl, HBB, HK⟩ := hcut
    clear HA
    obtain ⟨tt, htt⟩ : ∃ tt, (m - k) / 32 = tt := ⟨_, rfl⟩
    have htb : tt ≤ 10 := by omega
    have e1 : ((m - k : Nat) : Int).tdiv 32 = (tt : Int) := by rw [Int.tdiv_eq_ediv_of_nonneg (by omega)]; omega
    go_wp2_with fail
    go_loopg [2, 10, 19] tt (fun gk s2 s9 s19 wr => ∃ (t kk oo d no co : Nat) (B B1 : Option Addr) (us : List Int), t ≤ tt ∧ gk = tt - t ∧ s19 = .int .i64 t ∧ s2 = .slice B no co ∧ s9 = .slice B1 d d ∧ Aside0 (kk = k + 32 * t ∧ oo = o + 4 * t ∧ kk + d = m ∧ oo + no = nb ∧ oo + co = cb) ∧ Aside0 ((0 < no → B = some ⟨g, oo, none⟩) ∧ (0 < d → B1 = some ⟨q1, kk, none⟩)) ∧ Aside0 (KS w w0 wr q g nb T rest us bs fr kk (fun i => p x (ys.getD i 0))))
    case atStart => exact ⟨0, k, o, m - k, nb - o, cb - o, B, B1, us, Nat.zero_le _, rfl, rfl, rfl, rfl, ⟨by omega⟩, HBB, HK⟩
    case round =>
      clear HK HBB
      obtain ⟨t, kk, oo, d, no, co, B, B1, us, ht, hgk, rfl, rfl, rfl, HN, HBB, HK⟩ := hrel
      have HT := Aside0.mk (And.intro htt (And.intro hfk hkm))
      clear htt hfk hkm
      by_cases hlt : t < tt
      · have hbx0 := HK.out.cell HBX.out hbg hbq
        have h33 : 32 ≤ d := by have := HN.out; have := HT.out; omega
        have h34 : 4 ≤ no := by have := HN.out; have := HT.out; omega
        have h35 : no ≤ co := by have := HN.out; omega
        have h32 : (32 : Int) ≤ (d : Int) := by omega
        go_upto_region 22 with fail
        go_still_tail 5, (by kernel_rfl)
        change wpList _ _ _ _ _ wr.drew
        have HKD := Aside0.mk HK.out.drew
        clear HK hbx0
        generalize wr.drew = w3 at HKD ⊢
        go_upto_region 23 with (refine (HKD.out.opSAF HKB.out hop HXW.out hq1g hq1q _ kk 32 _ 32 _ (fun _ => HBB.out.2 (by omega)) (by have := HL.out; have := HN.out; omega) (by have := HL.out; omega) (Nat.le_refl _) (Nat.le_refl _)).mono ?_; rintro e w4 ⟨rfl, hk4⟩; have HK4 := Aside0.mk hk4; clear hk4)
        obtain ⟨us', hus⟩ : ∃ us', outs (fun i => p x (ys.getD (kk + i) 0)) 32 us = us' := ⟨_, rfl⟩
        have hu : ∀ i, i < 32 → us'.getD i 0 = b2i (p x (ys.getD (kk + i) 0)) := fun i hi => by rw [← hus, outs_get _ _ _ _ hi]
        rw [hus] at HK4
        have HU := Aside0.mk hu
        clear hus hu HKD
        have HIN := Aside0.mk (show (Tryz.prog.info? 180).map (·.size) = some (us'.map (Value.int .u32)).toArray.size by rw [info180]; simp [HK4.out.len])
        have HPK := Aside0.mk (fun (W : World) (hk : KS w w0 W q g nb T rest us' bs fr kk (fun i => p x (ys.getD i 0))) => hk.pack HKB.out B oo no co HBB.out.1 (by have := HN.out; omega) h34 h35 (by have := HN.out; have := HT.out; omega) HU.out)
        by_cases hz : d = 32
        all_goals
          go_upto_region 24 with fail
          have HZ := Aside0.mk hz
          clear hz
          go_upto_region 25 with (first | (have hg := HIN.out; clear hg; (with_reducible show wpList _ _ _ _ _ _); refine wpList_load_row rfl 180 (.tmp 12) rfl q rfl 180 (us'.map (Value.int .u32)).toArray (0, 0) _ HK4.out.U Tryz.underlying180 rfl HIN.out ?_; clear HIN) | (go_at_call 91; refine (HPK.out _ HK4.out).mono ?_; rintro e w5 ⟨rfl, hk5⟩; have HK5 := Aside0.mk hk5; clear hk5))
          by_cases hz4 : co = 4
          all_goals
            go_wp2_with fail
            go_roundg (tt - (t + 1))
            case measure => omega
            case rel =>
              refine ⟨t + 1, kk + 32, oo + 4, _, _, _, _, _, us', by omega, rfl, by go_num, rfl, rfl, ⟨by have := HN.out; have := HZ.out; omega⟩, ⟨?_, ?_⟩, HK5⟩
              all_goals intro hh
              all_goals first | (exfalso; have := HN.out; omega) | (rw [HBB.out.1 (by omega)]; rfl) | (rw [HBB.out.2 (by omega)]; rfl)
      · obtain rfl : t = tt := by omega
        have hd : d < 32 := by have := HN.out; have := HT.out; omega
        have e6 : IntKind.i64.wrap (32 * (t : Int)) = 32 * (t : Int) := by rw [IntKind.wrap_i64]; have := HT.out; omega
        have e7 : IntKind.i64.wrap (((m - k : Nat) : Int) - 32 * (t : Int)) = (d : Int) := by rw [IntKind.wrap_i64]; have := HN.out; have := HT.out; omega
        have hbx0 := HK.out.cell HBX.out hbg hbq
        have hd2 : (d : Int) ≤ 32 := by omega
        go_upto_region 27 with fail
        go_still_tail 5, (by kernel_rfl)
        change wpList _ _ _ _ _ wr.drew
        have HKD := Aside0.mk HK.out.drew
        clear HK hbx0
        generalize wr.drew = w3 at HKD ⊢
        have HOP := Aside0.mk (HKD.out.opSAF HKB.out hop HXW.out hq1g hq1q B1 kk d d d 32 HBB.out.2 (by have := HL.out; have := HN.out; omega) (by have := HL.out; omega) (Nat.le_refl _) (by omega))
        go_upto_region 28 with (refine HOP.out.mono ?_; rintro e w4 ⟨rfl, hk4⟩; have HK4 := Aside0.mk hk4; clear hk4)
        obtain ⟨us', hus⟩ : ∃ us', outs (fun i => p x (ys.getD (kk + i) 0)) d us = us' := ⟨_, rfl⟩
        have hu : ∀ i, i < d → us'.getD i 0 = b2i (p x (ys.getD (kk + i) 0)) := fun i hi => by rw [← hus, outs_get _ _ _ _ hi]
        rw [hus] at HK4
        have HU := Aside0.mk hu
        clear hus hu HKD HOP e6 e7
        go_wp2_with fail
        go_loopg [107] d (fun gk i wr => ∃ j : Nat, j ≤ d ∧ gk = d - j ∧ i = .int .i64 j ∧ Aside0 (KS w w0 wr q g nb T rest us' bs fr (kk + j) (fun i => p x (ys.getD i 0))))
        case atStart => exact ⟨0, Nat.zero_le _, rfl, rfl, HK4⟩
        case round =>
          clear HK4
          obtain ⟨j, hj, hgk, rfl, HKJ⟩ := hrel
          by_cases hlt : j < d
          · have c0 := HKJ.out.U.cell j (by rw [HKJ.out.len]; omega)
            rw [HU.out j hlt] at c0
            have hbn := b2i_ne (p x (ys.getD (kk + j) 0))
            have HB := Aside0.mk (HKJ.out.bit HKB.out B oo no co j (p x (ys.getD (kk + j) 0)) HBB.out.1 (by have := HN.out; omega) (by have := HN.out; have := HT.out; omega) (by omega) (by have := HN.out; have := HT.out; omega) rfl)
            generalize p x (ys.getD (kk + j) 0) = pv at c0 hbn HB
            generalize b2i pv = bv at c0 hbn
            have hj32 : (j : Int) < 32 := by omega
            go_wp2_with (go_at_call 90; refine HB.out.mono ?_; rintro e w5 ⟨rfl, hk5⟩; have HK5 := Aside0.mk hk5; clear hk5)
            go_roundg (d - (j + 1))
            case measure => omega
            case rel => exact ⟨j + 1, by omega, rfl, by go_num, HK5⟩
          · obtain rfl : j = d := by omega
            go_wp2_with fail
            go_end0
            exact ⟨rfl, HKJ.out.grow, by have := HKJ.out.out; rwa [HN.out.2.2.1] at this⟩

end Go.Proofs.YtmdmpdbnnegpiaaGreatDoor.Cmp
