/- The thin package's comparison of one type: the bits that it hands back. -/
import Derived.Test.YtmdmpdbnnegpiaaGreatDoorCmMF
namespace Go.Proofs.YtmdmpdbnnegpiaaGreatDoor.Cmp
open Go.RowKit Go.Proofs.YtmdmpdbnnegpiaaGreatDoorW.PrintWords Go.Proofs.YtmdmpdbnnegpiaaGreatDoorW.PrintLast Go.Proofs.YtmdmpdbnnegpiaaGreatDoorW.PrintMore
set_option linter.unusedVariables false
set_option linter.unusedSimpArgs false

attribute [local go_sem] run_store_float
theorem w8_below {w w' : World} {g : Nat} {T : TypeId} {rest : List Value} {bs : List Int} (h : W8 w g T rest bs) (hb : Below w.heap.size w w') : W8 w' g T rest bs := (hb.block g (block_lt h)).trans h
theorem w8_reads {w : World} {g n : Nat} {T : TypeId} {rest : List Value} {bs : List Int} (h : W8 w g T rest bs) (hn : bs.length = n) (hs : n ≤ 100000) : ReadsOf (Value.int .u8) (0 : Int) w (some ⟨g, 0, none⟩) n bs := by
  refine ⟨hn, by omega, fun _ => ⟨_, rfl, fun j hj => ?_⟩⟩
  rw [add_plain]
  exact h.cell j (by omega)
/-- A row of bytes of the call's own: its block. -/
theorem row_block {w : World} {base : Nat} {ok : Nat → Prop} {v : Value} {xs : List Int} (h : Kd.R (Kd.int .u8) 5 w base ok v xs) :
    ∃ A c, v = .slice A xs.length c ∧ xs.length ≤ c ∧ Kd.C (Kd.int .u8) w A xs.length xs ∧ ∃ g rest, (0 < xs.length → A = some ⟨g, 0, none⟩ ∧ base ≤ g ∧ W8 w g 5 rest xs) := by
  obtain ⟨inner, hown⟩ := Kd.R_own h
  obtain ⟨A, c, rfl, hc, hC⟩ := Kd.R_reads h
  refine ⟨A, c, rfl, hc, hC, ?_⟩
  rcases hown with ⟨hl, ⟨e, hn⟩ | ⟨g, cap, cur, e, hb, hblk, hnc, _, hsz, htk⟩⟩
  · exact ⟨0, [], fun h => by omega⟩
  · injection e with eA _ ec
    subst eA
    subst ec
    refine ⟨g, cur.toList.drop xs.length, fun _ => ⟨rfl, hb, ?_⟩⟩
    have hs1 : (Kd.int .u8).sz = 1 := rfl
    rw [hs1] at hsz htk
    obtain ⟨_, _, hr⟩ := Kd.reads_of_C (d := (0 : Int)) (enc := Value.int .u8) (h1 := fun _ => rfl) hC
    have ecur : cur = (xs.map (Value.int .u8) ++ cur.toList.drop xs.length).toArray := by
      apply Array.toList_inj.1
      have e1 : cur.toList.take xs.length = xs.map (Value.int .u8) := by
        apply List.ext_getElem
        · simp; omega
        · intro i h1 h2
          simp at h1 h2
          obtain ⟨a, ea, hcell⟩ := hr (by omega)
          injection ea with ea
          subst ea
          have := hcell i h2
          rw [add_plain, cell_of_row w g i _ 5 (0, 0) hblk] at this
          simp only [List.getElem_take, List.getElem_map, Array.getElem_toList]
          have hi : i < cur.size := by omega
          rw [Array.getElem?_eq_getElem hi] at this
          injection this with this
          rw [this]
          simp [List.getD_eq_getElem?_getD, List.getElem?_eq_getElem h2]
      rw [← e1, List.take_append_drop]
    unfold W8
    rw [← ecur]
    exact hblk
theorem made8 (w : World) (n : Nat) : W8 (w.alloc (.cells (madeCells #[.int .u8 0] n) 5)) w.heap.size 5 [] (fill [] 0 n) := by
  unfold W8
  rw [List.append_nil, ← made_fill (Value.int .u8) (0 : Int) n]
  exact heap_alloc_new _ _
/-! ### the deferred function -/
theorem idle (pl po : Addr) (w : World) :
    CallsD Tryz.prog 13 #[.pointer (some pl), .pointer (some po)] .returning w fun e u' w' => e = .returned (.tuple #[]) ∧ u' = .returning ∧ w' = w := by
  refine callsD_of_wpS Tryz.func13 rfl fun c₀ cs hu => ?_
  apply wpS_seq
  apply wpS_region
  simp [wpOpsS, go_sem, recoverD, hu, Tryz.ntmps13, Exit.thenS]
  refine wpS_cond (t := false) (by simp [Act.eval, Array.replicate]) ?_
  simp only [Bool.false_eq_true, if_false]
  refine wpS_of_wp (wp_skip ?_)
  cases c₀
  simp_all [bodyPostS, results, Tryz.results13]
theorem operator (o : Nat) (ho : o ≤ 3) (w : World) : Calls Tryz.prog 19 #[.int .i64 o] w (fun e w' => e = .returned (.int .i8 o) ∧ Below w.heap.size w w') := by
  have h : o = 0 ∨ o = 1 ∨ o = 2 ∨ o = 3 := by omega
  rcases h with rfl | rfl | rfl | rfl
  all_goals
    go_enter Tryz.func19, Tryz.ntmps19
    go_wp2
    go_ret
    exact ⟨rfl, by go_grown⟩
theorem row_block_n {w : World} {base n : Nat} {ok : Nat → Prop} {v : Value} {xs : List Int} (hn : xs.length = n) (h : Kd.R (Kd.int .u8) 5 w base ok v xs) :
    ∃ A c, v = .slice A n c ∧ n ≤ c ∧ ∃ g rest, (0 < n → A = some ⟨g, 0, none⟩ ∧ base ≤ g ∧ W8 w g 5 rest xs) := by
  subst hn
  obtain ⟨A, c, h1, h2, _, h3⟩ := row_block h
  exact ⟨A, c, h1, h2, h3⟩
theorem full_at {w : World} {p n k z : Nat} {xs : List Int} (h : W8 w p 5 [] (fill (bytesL z (xs.take k)) 0 n)) (hk : xs.length ≤ k) (hn : n = xs.length * z) : W8 w p 5 [] (bytesL z xs) := by
  rw [List.take_of_length_le hk] at h
  have e2 : n = (bytesL z xs).length := by rw [bytesL_len, hn]
  rw [e2, fill_all] at h
  exact h
/-- The call's two results' cells, and what was there at its begin. -/
structure Fra (w W : World) (v : Value) : Prop where
  c0 : W.heap[w.heap.size]? = some (.cells #[v] 23 (0, 0))
  c1 : W.heap[w.heap.size + 1]? = some (.cells #[.bool false] 4 (0, 0))
  bel : Below w.heap.size w W
theorem Fra.step {w W W' : World} {v : Value} (h : Fra w W v) (hb : Below W.heap.size W W') : Fra w W' v := ⟨(hb.block _ (block_lt h.c0)).trans h.c0, (hb.block _ (block_lt h.c1)).trans h.c1, h.bel.trans (hb.mono h.bel.size)⟩
theorem Fra.grown {w W W' : World} {v : Value} {g : Nat} (h : Fra w W v) (hg : W.grownBy W' (some g)) (h2 : w.heap.size + 2 ≤ g) : Fra w W' v :=
  ⟨(hg.block _ (block_lt h.c0) (fun e => by injection e; omega)).trans h.c0, (hg.block _ (block_lt h.c1) (fun e => by injection e; omega)).trans h.c1,
    ⟨hg.os.trans h.bel.os, hg.tape.trans h.bel.tape, hg.output.trans h.bel.output, Nat.le_trans h.bel.size hg.size, fun i hi => (hg.block i (Nat.lt_of_lt_of_le hi h.bel.size) (fun e => by injection e; omega)).trans (h.bel.block i hi)⟩⟩
def NumCF (o how m : Nat) (xs ys : List Int) (f : Nat → Bool) : Prop := ∀ (A1 A2 A : Option Addr) (n1 c1 n2 c2 g nb cb fr : Nat) (bs : List Int) (T : TypeId) (rest : List Value) (w : World), ReadsOf (Value.int .u8) (0 : Int) w A1 n1 (bytesL 8 xs) → ReadsOf (Value.int .u8) (0 : Int) w A2 n2 (bytesL 8 ys) → n1 ≤ c1 → n2 ≤ c2 → Masks w →
    (0 < nb → A = some ⟨g, 0, none⟩) → (0 < nb → W8 w g T rest bs) → Bytes bs → bs.length = nb → nb ≤ cb → fr ≤ 7 → fr + m ≤ 8 * nb → nb ≤ 100 → 4 ≤ g → g < w.heap.size →
    Calls Tryz.prog 18 #[.int .i8 o, .int .i64 how, .slice A1 n1 c1, .slice A2 n2 c2, .slice A nb cb, .int .i64 fr] w (ToldF w g nb T rest bs fr m f)
/-- Bits are handed back. -/
def Cmpd (w : World) (nd : Nat) (bs : List Int) (fr m : Nat) (f : Nat → Bool) (e : Ending) (w' : World) : Prop := ∃ A' c' bs', e = .returned (.tuple #[.slice A' nd c', .bool true]) ∧ (0 < nd → ∃ g, A' = some ⟨g, 0, none⟩) ∧ nd ≤ c' ∧ Kd.C (Kd.int .u8) w' A' nd bs' ∧ BitsAre bs bs' fr m f ∧ Below w.heap.size w w'
set_option maxRecDepth 100000 in
set_option maxHeartbeats 8000000 in
theorem cmpImpF (o how m fr na ca nb cb nd cd : Nat) (xs ys bs : List Int) (f : Nat → Bool) (A B D : Option Addr) (w : World) (hnum : NumCF o how m xs ys f) (ho : o ≤ 3) (ha : ReadsOf (Value.int .u64) (0 : Int) w A na xs) (hb : ReadsOf (Value.int .u64) (0 : Int) w B nb ys) (hd : Kd.C (Kd.int .u8) w D nd bs) (hx : ∀ x ∈ xs, OkF x) (hy : ∀ x ∈ ys, OkF x) (hby : Bytes bs)
    (hna : na ≤ 300) (hnb : nb ≤ 300) (hnd : nd ≤ 100) (hM : Masks w) (hf : fr ≤ 7) (hr : fr + m ≤ 8 * nd) :
    Calls Tryz.prog 5 #[.int .i64 o, .int .i64 how, .slice A na ca, .slice B nb cb, .slice D nd cd, .int .i64 fr] w (Cmpd w nd bs fr m f) := by
  obtain ⟨n1, hn1⟩ : ∃ n1, 8 * na = n1 := ⟨_, rfl⟩
  obtain ⟨n2, hn2⟩ : ∃ n2, 8 * nb = n2 := ⟨_, rfl⟩
  have ew1 : IntKind.i64.wrap (8 * (na : Int)) = (n1 : Int) := by rw [IntKind.wrap_i64]; omega
  have ew2 : IntKind.i64.wrap (8 * (nb : Int)) = (n2 : Int) := by rw [IntKind.wrap_i64]; omega
  have hn1s : n1 ≤ 2400 := by omega
  have hn2s : n2 ≤ 2400 := by omega
  have HA := Aside0.mk ha
  have HB := Aside0.mk hb
  have HD := Aside0.mk hd
  have HX := Aside0.mk (And.intro hx hy)
  have HY := Aside0.mk (And.intro hby hM)
  have HN := Aside0.mk hnum
  have HNN := Aside0.mk (And.intro hn1 hn2)
  have hm3 := hM.lt
  clear ha hb hd hx hy hby hM hnum hn1 hn2
  go_enter_defers Tryz.func5, Tryz.ntmps5
  go_upto_region 3 with (go_at_call 14; refine (copied_any D nd cd bs _ (Kd.C_below HD.out (((Below.refl _ _).alloc (Nat.le_refl _) _).alloc (by simp) _)) (by omega)).mono ?_; rintro e w2 ⟨v, rfl, hr2, hb2⟩; obtain ⟨A2, c2, rfl, hc2, g, rest, hg⟩ := row_block_n HD.out.1 hr2; have HG := Aside0.mk hg; have HB2 := Aside0.mk hb2; have hk := two_blocks w (.cells #[.slice none 0 0] 23) (.cells #[.bool false] 4); have k0 := (hb2.block w.heap.size (by simp; omega)).trans hk.1; have k1 := (hb2.block (w.heap.size + 1) (by simp)).trans hk.2; have c0 : w2.cell? ⟨w.heap.size, 0, none⟩ = some (.slice none 0 0) := blk_cell k0 0; have z0 := blk_frozen k0 0; have K0 := Aside0.mk k0; have K1 := Aside0.mk k1; clear hr2 hg hb2 hk k0 k1)
  have HF := Aside0.mk (show Fra w (w2.setCell ⟨w.heap.size, 0, none⟩ (.slice A2 nd c2)) (.slice A2 nd c2) from ⟨blk_set K0.out 0 _, (Below.heap_setCell w2 ⟨w.heap.size, 0, none⟩ _ (w.heap.size + 1) (by simp)).trans K1.out, ((((Below.refl _ _).alloc (Nat.le_refl _) _).alloc (by simp) _).trans (HB2.out.mono (by simp; omega))).setCell (Nat.le_refl _) _⟩)
  have HG3 := Aside0.mk (show 0 < nd → A2 = some ⟨g, 0, none⟩ ∧ w.heap.size + 2 ≤ g ∧ W8 (w2.setCell ⟨w.heap.size, 0, none⟩ (.slice A2 nd c2)) g 5 rest bs from fun h => ⟨(HG.out h).1, by have := (HG.out h).2.1; simpa using this, (Below.heap_setCell w2 ⟨w.heap.size, 0, none⟩ _ g (by have := (HG.out h).2.1; simp at this; simp; omega)).trans (HG.out h).2.2⟩)
  clear HG HB2 K0 K1 c0 z0
  generalize w2.setCell ⟨w.heap.size, 0, none⟩ (.slice A2 nd c2) = w3 at HF HG3 ⊢
  have hmk1 := print_make_of (P := Tryz.prog) 23 5 (.int .u8 0) 1 Tryz.underlying23 info5 rfl (by omega) n1 (by omega)
  have hmk2 := print_make_of (P := Tryz.prog) 23 5 (.int .u8 0) 1 Tryz.underlying23 info5 rfl (by omega) n2 (by omega)
  go_cut [14, 15] from 16 (fun s14 s15 W => ∃ p1 p2 : Nat, s14 = .slice (some ⟨p1, 0, none⟩) n1 n1 ∧ s15 = .slice (some ⟨p2, 0, none⟩) n2 n2 ∧ Aside0 (p1 ≠ p2 ∧ w3.heap.size ≤ p1 ∧ w3.heap.size ≤ p2 ∧ W8 W p1 5 [] (fill [] 0 n1) ∧ W8 W p2 5 [] (fill [] 0 n2) ∧ Below w3.heap.size w3 W))
  case first =>
    go_region_held3 (fun w' => True) (trivial) (first | (have hq := HB4.out; clear hq; go_at_call 15; refine (sizeF _).mono ?_; rintro e w5 ⟨rfl, hb5⟩; have HB5 := Aside0.mk hb5; clear hb5) | (go_at_call 15; refine (sizeF _).mono ?_; rintro e w4 ⟨rfl, hb4⟩; have HB4 := Aside0.mk (below_undrew hb4 : Below w3.heap.size w3 w4); clear hb4))
    all_goals
      go_wp2_with fail
      go_meet
      have hs4 := HB4.out.size
      have hs5 := HB5.out.size
      try simp only [World.size_alloc] at hs5
      refine ⟨_, _, rfl, rfl, ⟨?_, ?_, ?_, ?_, ?_, ?_⟩⟩
      all_goals first
        | omega
        | exact made8 _ _
        | exact w8_below (made8 _ _) ((Below.refl _ _).alloc (Nat.le_refl _) _)
        | exact w8_below (w8_below (made8 _ _) HB5.out) ((Below.refl _ _).alloc (Nat.le_refl _) _)
        | (have := made8 (w5.alloc (.cells (madeCells #[.int .u8 0] n1) 5)) n2; simpa only [World.size_alloc] using this)
        | (have := made8 (w5.alloc (.cells (madeCells #[.int .u8 0] n2) 5)) n1; simpa only [World.size_alloc] using this)
        | exact ((HB4.out.alloc HB4.out.size _).trans (HB5.out.mono (by simp only [World.size_alloc]; omega))).alloc (by omega) _
        | exact (((HB4.out.trans (HB5.out.mono HB4.out.size)).alloc (by omega) _).alloc (by simp only [World.size_alloc]; omega) _)
  case rest =>
    obtain ⟨p1, p2, rfl, rfl, HP⟩ := hcut
    obtain ⟨hpp, hp1, hp2, hw1, hw2, hbc⟩ := HP.out
    have HF1 := Aside0.mk (HF.out.step hbc)
    have HG1 := Aside0.mk (fun h : 0 < nd => (⟨(HG3.out h).1, (HG3.out h).2.1, w8_below (HG3.out h).2.2 hbc⟩ : A2 = some ⟨g, 0, none⟩ ∧ w.heap.size + 2 ≤ g ∧ W8 wc g 5 rest bs))
    have HW1 := Aside0.mk hw1
    have HW2 := Aside0.mk hw2
    have hsz3 := block_lt HF.out.c1
    have hgp1 : 0 < nd → g ≠ p1 ∧ g ≠ p2 := fun h => by have := block_lt (HG3.out h).2.2; omega
    have HGP := Aside0.mk hgp1
    have hp1w : w.heap.size + 2 ≤ p1 := by omega
    have hp2w : w.heap.size + 2 ≤ p2 := by omega
    clear HP hw1 hw2 hbc HF HG3 hgp1 hsz3 hp1 hp2
    go_wp2_with fail
    go_loopg [34] na (fun gk i wr => ∃ k : Nat, k ≤ na ∧ gk = na - k ∧ i = .int .i64 k ∧ Aside0 (wc.grownBy wr (some p1)) ∧ Aside0 (W8 wr p1 5 [] (fill (bytesL 8 (xs.take k)) 0 n1)))
    case atStart => exact ⟨0, Nat.zero_le _, rfl, rfl, ⟨World.grownBy.refl _ _⟩, HW1⟩
    case round =>
      obtain ⟨k, hk, hgk, rfl, HGR, HWR⟩ := hrel
      by_cases hlt : k < na
      · have HFR := Aside0.mk (HF1.out.grown HGR.out hp1w)
        obtain ⟨a, rfl, hcell⟩ := (HA.out.below HFR.out.bel).2.2 (by omega)
        have c0 := hcell k hlt
        have hlx := HA.out.1
        have HOX := Aside0.mk (show OkF (xs.getD k 0) from by rw [List.getD_eq_getElem?_getD, List.getElem?_eq_getElem (by omega)]; exact HX.out.1 _ (List.getElem_mem (by omega)))
        have HSN := Aside0.mk (bytesL_snoc 8 xs k (by omega))
        have hlk : (bytesL 8 (xs.take k)).length = k * 8 := by rw [bytesL_len, List.length_take]; congr 1; omega
        have hfl : (fill (bytesL 8 (xs.take k)) 0 n1).length = n1 := fill_len _ _ _ (by have := HNN.out; omega)
        generalize xs.getD k 0 = x at c0 HOX HSN
        have HPA := Aside0.mk (show ∀ W : World, W8 W p1 5 [] (fill (bytesL 8 (xs.take k)) 0 n1) → Calls Tryz.prog 16 #[.slice (some ⟨p1, 0, none⟩) n1 n1, .int .i64 k, .float .f64 x.toNat] W (PutL W p1 (fill (bytesL 8 (xs.take k)) 0 n1) (k * 8) (le x 8)) from fun W hW => putAtF p1 k n1 x _ W hW hfl (by have := HNN.out; omega) (by omega) HOX.out)
        have HSL := Aside0.mk (show setL (fill (bytesL 8 (xs.take k)) 0 n1) (k * 8) (le x 8) = fill (bytesL 8 (xs.take (k + 1))) 0 n1 from by have h := setL_fill (le x 8) (bytesL 8 (xs.take k)) n1 (by rw [hlk, le_len]; have := HNN.out; omega); rw [hlk] at h; rw [h, HSN.out])
        clear hcell hlx hlk hfl
        have hcv := fun (n : Int) (W : World) => from64 n W
        go_wp2_with (go_at_call 16; refine (HPA.out _ HWR.out).mono ?_; rintro e w5 ⟨rfl, hg5, hw5⟩; rw [HSL.out] at hw5; have HG5 := Aside0.mk (HGR.out.trans hg5); have HW5 := Aside0.mk hw5; clear hg5 hw5)
        go_roundg (na - (k + 1))
        case measure => omega
        case rel => exact ⟨k + 1, by omega, rfl, by go_num, HG5, HW5⟩
      · have hkn : k = na := by omega
        rename World => wf
        have HF2 := Aside0.mk (HF1.out.grown HGR.out hp1w)
        have HX2 := Aside0.mk (full_at HWR.out (by have := HA.out.1; omega) (by have := HA.out.1; have := HNN.out; omega))
        have HY2 := Aside0.mk (show W8 wf p2 5 [] (fill [] 0 n2) from (HGR.out.block p2 (block_lt HW2.out) (fun e => hpp (Option.some.inj e).symm)).trans HW2.out)
        have HG2 := Aside0.mk (fun h : 0 < nd => (⟨(HG1.out h).1, (HG1.out h).2.1, (HGR.out.block g (block_lt (HG1.out h).2.2) (fun e => (HGP.out h).1 (Option.some.inj e))).trans (HG1.out h).2.2⟩ : A2 = some ⟨g, 0, none⟩ ∧ w.heap.size + 2 ≤ g ∧ W8 wf g 5 rest bs))
        clear HF1 HG1 HW1 HW2 HGR HWR hkn hgk
        go_wp2_with fail
        go_loopg [47] nb (fun gk i wq => ∃ k : Nat, k ≤ nb ∧ gk = nb - k ∧ i = .int .i64 k ∧ Aside0 (wf.grownBy wq (some p2)) ∧ Aside0 (W8 wq p2 5 [] (fill (bytesL 8 (ys.take k)) 0 n2)))
        case atStart => exact ⟨0, Nat.zero_le _, rfl, rfl, ⟨World.grownBy.refl _ _⟩, HY2⟩
        case round =>
          obtain ⟨j, hj, hgk, rfl, HGR, HWR⟩ := hrel
          by_cases hlt : j < nb
          · have HFR := Aside0.mk (HF2.out.grown HGR.out hp2w)
            obtain ⟨a, rfl, hcell⟩ := (HB.out.below HFR.out.bel).2.2 (by omega)
            have c0 := hcell j hlt
            have hlx := HB.out.1
            have HOX := Aside0.mk (show OkF (ys.getD j 0) from by rw [List.getD_eq_getElem?_getD, List.getElem?_eq_getElem (by omega)]; exact HX.out.2 _ (List.getElem_mem (by omega)))
            have HSN := Aside0.mk (bytesL_snoc 8 ys j (by omega))
            have hlk : (bytesL 8 (ys.take j)).length = j * 8 := by rw [bytesL_len, List.length_take]; congr 1; omega
            have hfl : (fill (bytesL 8 (ys.take j)) 0 n2).length = n2 := fill_len _ _ _ (by have := HNN.out; omega)
            generalize ys.getD j 0 = x at c0 HOX HSN
            have HPA := Aside0.mk (show ∀ W : World, W8 W p2 5 [] (fill (bytesL 8 (ys.take j)) 0 n2) → Calls Tryz.prog 16 #[.slice (some ⟨p2, 0, none⟩) n2 n2, .int .i64 j, .float .f64 x.toNat] W (PutL W p2 (fill (bytesL 8 (ys.take j)) 0 n2) (j * 8) (le x 8)) from fun W hW => putAtF p2 j n2 x _ W hW hfl (by have := HNN.out; omega) (by omega) HOX.out)
            have HSL := Aside0.mk (show setL (fill (bytesL 8 (ys.take j)) 0 n2) (j * 8) (le x 8) = fill (bytesL 8 (ys.take (j + 1))) 0 n2 from by have h := setL_fill (le x 8) (bytesL 8 (ys.take j)) n2 (by rw [hlk, le_len]; have := HNN.out; omega); rw [hlk] at h; rw [h, HSN.out])
            clear hcell hlx hlk hfl
            have hcv := fun (n : Int) (W : World) => from64 n W
            go_wp2_with (go_at_call 16; refine (HPA.out _ HWR.out).mono ?_; rintro e w5 ⟨rfl, hg5, hw5⟩; rw [HSL.out] at hw5; have HG5 := Aside0.mk (HGR.out.trans hg5); have HW5 := Aside0.mk hw5; clear hg5 hw5)
            go_roundg (nb - (j + 1))
            case measure => omega
            case rel => exact ⟨j + 1, by omega, rfl, by go_num, HG5, HW5⟩
          · have hkn : j = nb := by omega
            rename World => wq
            have HF3 := Aside0.mk (HF2.out.grown HGR.out hp2w)
            have HY3 := Aside0.mk (full_at HWR.out (by have := HB.out.1; omega) (by have := HB.out.1; have := HNN.out; omega))
            have HX3 := Aside0.mk (show W8 wq p1 5 [] (bytesL 8 xs) from (HGR.out.block p1 (block_lt HX2.out) (fun e => hpp (Option.some.inj e))).trans HX2.out)
            have HG3 := fun h : 0 < nd => (⟨(HG2.out h).1, (HG2.out h).2.1, (HGR.out.block g (block_lt (HG2.out h).2.2) (fun e => (HGP.out h).2 (Option.some.inj e))).trans (HG2.out h).2.2⟩ : A2 = some ⟨g, 0, none⟩ ∧ w.heap.size + 2 ≤ g ∧ W8 wq g 5 rest bs)
            obtain ⟨gg, hga, hgw, hg2, hgl⟩ : ∃ gg, (0 < nd → A2 = some ⟨gg, 0, none⟩) ∧ (0 < nd → W8 wq gg 5 rest bs) ∧ w.heap.size + 2 ≤ gg ∧ gg < wq.heap.size := by
              by_cases h : 0 < nd
              · exact ⟨g, fun _ => (HG3 h).1, fun _ => (HG3 h).2.2, (HG3 h).2.1, block_lt (HG3 h).2.2⟩
              · exact ⟨p1, fun h' => absurd h' h, fun h' => absurd h' h, hp1w, block_lt HX3.out⟩
            have HNU := Aside0.mk (fun (W : World) (hb : Below wq.heap.size wq W) => HN.out (some ⟨p1, 0, none⟩) (some ⟨p2, 0, none⟩) A2 n1 n1 n2 n2 gg nd c2 fr bs 5 rest W (w8_reads (w8_below HX3.out hb) (by rw [bytesL_len]; have := HA.out.1; have := HNN.out; omega) (by omega)) (w8_reads (w8_below HY3.out hb) (by rw [bytesL_len]; have := HB.out.1; have := HNN.out; omega) (by omega)) (Nat.le_refl _) (Nat.le_refl _) ((HY.out.2.below HF3.out.bel (by omega)).below hb (by have := HF3.out.bel.size; omega)) hga (fun h => w8_below (hgw h) hb) HY.out.1 HD.out.1 hc2 hf hr hnd (by omega) (Nat.lt_of_lt_of_le hgl hb.size))
            have HGA := Aside0.mk (And.intro hga hg2)
            have c0 : wq.cell? ⟨w.heap.size, 0, none⟩ = some (.slice A2 nd c2) := blk_cell HF3.out.c0 0
            clear HF2 HG2 HX2 HY2 HGR HWR hkn hgk HG3 hga hgw hg2 hgl
            go_wp2_with fail
            go_region_held3 (fun w' => w'.cell? ⟨w.heap.size, 0, none⟩ = some (.slice A2 nd c2)) (first | exact c0 | exact d0 | exact e0 | (go_keep; done)) (first
              | (go_at_call 19; refine (operator o ho _).mono ?_; rintro e w5 ⟨rfl, hb5⟩; have HB5 := Aside0.mk (below_undrew hb5 : Below wq.heap.size wq w5); have HF5 := Aside0.mk (HF3.out.step HB5.out); have d0 : w5.cell? ⟨w.heap.size, 0, none⟩ = some (.slice A2 nd c2) := blk_cell HF5.out.c0 0; clear hb5)
              | (go_at_call 18; refine (HNU.out _ HB5.out).mono ?_; rintro e w6 ⟨rfl, hg6, hw6⟩; have HF6 := Aside0.mk (HF5.out.grown hg6 HGA.out.2); have HW6 := Aside0.mk hw6; have e0 : w6.cell? ⟨w.heap.size, 0, none⟩ = some (.slice A2 nd c2) := blk_cell HF6.out.c0 0; have z0 := blk_frozen HF6.out.c0 0; have e1 : w6.cell? ⟨w.heap.size + 1, 0, none⟩ = some (.bool false) := blk_cell HF6.out.c1 0; have z1 := blk_frozen HF6.out.c1 0; clear hg6 hw6))
            go_wp2
            obtain ⟨bs', hw', hbits⟩ := HW6.out
            have HRD := Aside0.mk (show ∀ W : World, (0 < nd → W.heap[gg]? = w6.heap[gg]?) → Kd.C (Kd.int .u8) W A2 nd bs' from fun W hW => Kd.C_of_reads (enc := Value.int .u8) (h1 := fun _ => rfl) (d := (0 : Int)) ⟨by rw [hbits.len]; exact HD.out.1, by omega, fun h0 => ⟨_, HGA.out.1 h0, fun j hj => by rw [add_plain]; exact W8.cell (T := 5) (rest := rest) ((hW h0).trans (hw' h0)) j (by rw [hbits.len, HD.out.1]; exact hj)⟩⟩)
            have HBT := Aside0.mk hbits
            clear hw' hbits HW6
            generalize hw7 : (w6.setCell ⟨w.heap.size, 0, none⟩ (.slice A2 nd c2)).setCell ⟨w.heap.size + 1, 0, none⟩ (.bool true) = w7
            have q1 : w7.cell? ⟨w.heap.size + 1, 0, none⟩ = some (.bool true) := by rw [← hw7]; exact cell_twice e1
            have q0 : w7.cell? ⟨w.heap.size, 0, none⟩ = some (.slice A2 nd c2) := by
              rw [← hw7, World.cell?_setCell_other _ _ _ _ (show (⟨w.heap.size + 1, 0, none⟩ : Addr) ≠ ⟨w.heap.size, 0, none⟩ by simp)]
              exact World.cell?_setCell_same _ _ _ e0
            have HW7 := Aside0.mk hw7
            clear hw7
            refine leaves_cons (f := 13) (args := #[.pointer (some ⟨w.heap.size, 0, none⟩), .pointer (some ⟨w.heap.size + 1, 0, none⟩)]) (by simp) (by simp [go_sem]) ?_
            refine (idle _ _ _).mono ?_
            rintro e u' w'' ⟨rfl, rfl, rfl⟩
            simp [Leaves, settle, results, Tryz.results5, go_sem, q0, q1]
            refine ⟨A2, c2, bs', rfl, fun h => ⟨gg, HGA.out.1 h⟩, hc2, HRD.out _ (fun h => ?_), HBT.out, ?_⟩
            · rw [← HW7.out]
              have hg := HGA.out.2
              exact (Below.heap_setCell _ ⟨w.heap.size + 1, 0, none⟩ _ gg (by show gg ≠ w.heap.size + 1; omega)).trans (Below.heap_setCell _ ⟨w.heap.size, 0, none⟩ _ gg (by show gg ≠ w.heap.size; omega))
            · rw [← HW7.out]
              exact (HF6.out.bel.setCell (p := ⟨w.heap.size, 0, none⟩) (Nat.le_refl _) _).setCell (p := ⟨w.heap.size + 1, 0, none⟩) (Nat.le_succ _) _

end Go.Proofs.YtmdmpdbnnegpiaaGreatDoor.Cmp
