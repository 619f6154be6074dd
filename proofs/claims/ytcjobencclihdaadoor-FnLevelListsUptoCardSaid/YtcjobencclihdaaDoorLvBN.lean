/- The writer of bits: Finish. -/
import Derived.Test.YtcjobencclihdaaDoorLvBW
import Derived.Deep.QuietTactic
import Derived.BigQuiet
namespace Go.Proofs.YtcjobencclihdaaDoor.Lv
open Go.RowKit Go.Proofs.YtcjobencclihdaaDoorW.PrintWords Go.Proofs.YtcjobencclihdaaDoorW.PrintLast Go.Proofs.YtcjobencclihdaaDoorW.PrintMore
set_option linter.unusedVariables false
set_option linter.unusedSimpArgs false

set_option maxRecDepth 100000 in
set_option maxHeartbeats 2000000 in
theorem finish_none (u : FrameMode) (w : World) (b : Nat) (buf : Value) (pos len cur mask off : Int) (h : WB w b buf pos len cur mask off) (hl : len = 0 ∨ mask = 1) (hp : pos = len) :
    CallsD Tryd.prog 49 #[.pointer (some ⟨b, 0, none⟩)] u w (fun e u' w' => u' = u ∧ (e = .returned (.tuple #[]) ∧ ∃ n, w' = w.drewN n)) := by
  subst hp
  obtain ⟨c0, c1, c2, c3, c4, c5⟩ := h.cells
  have hlt : decide (pos < pos) = false := by simp
  clear h
  by_cases h0 : (0 : Int) < pos
  · obtain rfl : mask = 1 := by omega
    have h0b : decide (0 < pos) = true := by simpa using h0
    clear hl
    go_enter_d Tryd.func49, Tryd.ntmps49
    go_wp2_with fail
    go_quiet (fail)
    go_wp2_with fail
    go_end0
    exact ⟨rfl, _, rfl⟩
  · have h0b : decide (0 < pos) = false := by simpa using h0
    clear hl
    go_enter_d Tryd.func49, Tryd.ntmps49
    go_wp2_with fail
    go_quiet (fail)
    go_wp2_with fail
    go_end0
    exact ⟨rfl, _, rfl⟩
set_option maxRecDepth 100000 in
set_option maxHeartbeats 2000000 in
theorem finish_put (u : FrameMode) (w : World) (b q n c o : Nat) (pos len cur mask : Int) (rest : List Value) (bs : List Int) (h : WB w b (.slice (some ⟨q, 0, none⟩) n c) pos len cur mask o) (hw : W8 w q 5 rest bs) (hn : n ≤ bs.length) (ho : o < n) (hs : n ≤ 1048576)
    (hl : 0 < len) (hm : mask ≠ 1) :
    CallsD Tryd.prog 49 #[.pointer (some ⟨b, 0, none⟩)] u w (fun e u' w' => u' = u ∧ Over w b q (.slice (some ⟨q, 0, none⟩) n c) pos len cur mask o rest (bs.set o cur) e w') := by
  have hne : q ≠ b := fun e => by have h1 := h.blk; have h2 : w.heap[q]? = _ := hw; rw [e, h1] at h2; simp at h2
  obtain ⟨c0, c1, c2, c3, c4, c5⟩ := h.cells
  have fq := hw.frozen o
  have cq := hw.cell o (by omega)
  have HF := Aside0.mk (And.intro (h.far (p := ⟨q, o, none⟩) hne (.int .u8 cur)) (hw.put o (by omega) cur))
  have hb1 : (mask != 1) = true := by simpa using hm
  have hl1 : decide (0 < len) = true := by simpa using hl
  clear h hw hn hm
  go_enter_d Tryd.func49, Tryd.ntmps49
  go_wp2_with fail
  go_quiet (fail)
  go_wp2_with fail
  generalize hwd : World.drewN w _ = wd
  have m0 : wd.cell? ⟨b, 0, none⟩ = some (.slice (some ⟨q, 0, none⟩) n c) := by rw [← hwd]; exact c0
  have m3 : wd.cell? ⟨b, 3, none⟩ = some (.int .u8 cur) := by rw [← hwd]; exact c3
  have m5 : wd.cell? ⟨b, 5, none⟩ = some (.int .i64 o) := by rw [← hwd]; exact c5
  have mf : wd.frozen? ⟨q, o, none⟩ = false := by rw [← hwd]; exact fq
  have mc : wd.cell? ⟨q, o, none⟩ = some (.int .u8 (bs.getD o 0)) := by rw [← hwd]; exact cq
  have HX : WB (wd.setCell ⟨q, o, none⟩ (.int .u8 cur)) b (.slice (some ⟨q, 0, none⟩) n c) pos len cur mask o := by rw [← hwd]; exact ⟨HF.out.1.blk⟩
  have HY : W8 (wd.setCell ⟨q, o, none⟩ (.int .u8 cur)) q 5 rest (bs.set o cur) := by rw [← hwd]; exact HF.out.2
  have HG := Aside0.mk (show Two w wd b q by rw [← hwd]; exact (Two.refl w b q).drewN _)
  have HZ := Aside0.mk (And.intro HX HY)
  clear HX HY HF hb1 hwd c0 c1 c2 c3 c4 c5 fq cq
  go_still_tail 12, (by kernel_rfl)
  go_wp2_with fail
  go_end0
  exact ⟨rfl, HZ.out.1.drew, HZ.out.2, (HG.out.set (p := ⟨q, o, none⟩) (.inr rfl) _).drew⟩
/-- What Finish leaves: the bits of S. -/
def FinR (w : World) (b q nb : Nat) (N : Nat) (S : List Bool) (rest : List Value) (bs : List Int) (e : Ending) (w' : World) : Prop := e = .returned (.tuple #[]) ∧ (∃ bs', W8 w' q 5 rest bs' ∧ bs'.length = nb ∧ (0 < N → ∀ k, k < S.length → bitAt bs' k = S.getD k false) ∧ (N = 0 → bs' = bs)) ∧ Two w w' b q
/-- The writer's state where there may be nothing to write. -/
def WrI (w : World) (b q nb c N : Nat) (pos : Int) (S : List Bool) (rest : List Value) (bs : List Int) : Prop := Wr w b q nb c pos N S (if N = 0 then 0 else curB S) rest bs
theorem wr_finish (u : FrameMode) (w : World) (b q nb c N : Nat) (S : List Bool) (rest : List Value) (bs : List Int) (h : WrI w b q nb c N N S rest bs) (hr : S.length ≤ 8 * nb) (hn : nb ≤ 1048576) :
    CallsD Tryd.prog 49 #[.pointer (some ⟨b, 0, none⟩)] u w (fun e u' w' => u' = u ∧ FinR w b q nb N S rest bs e w') := by
  unfold WrI at h
  by_cases hN : N = 0
  · rw [if_pos hN] at h
    refine (finish_none u w b _ _ _ _ _ _ h.blk (.inl (by omega)) rfl).mono fun e u' w' => ?_
    rintro ⟨rfl, rfl, n, rfl⟩
    exact ⟨rfl, rfl, ⟨bs, h.byt, h.len, fun h0 => by omega, fun _ => rfl⟩, (Two.refl w b q).drewN n⟩
  · rw [if_neg hN] at h
    by_cases hm : maskB S = 1
    · have h8 : S.length % 8 = 0 := by
        unfold maskB at hm
        have h8 : S.length % 8 < 8 := Nat.mod_lt _ (by omega)
        generalize S.length % 8 = r at hm h8
        rcases (show r = 0 ∨ r = 1 ∨ r = 2 ∨ r = 3 ∨ r = 4 ∨ r = 5 ∨ r = 6 ∨ r = 7 by omega) with rfl | rfl | rfl | rfl | rfl | rfl | rfl | rfl <;> simp at hm ⊢
      refine (finish_none u w b _ _ _ _ _ _ h.blk (.inr hm) rfl).mono fun e u' w' => ?_
      rintro ⟨rfl, rfl, n, rfl⟩
      exact ⟨rfl, rfl, ⟨bs, h.byt, h.len, fun _ k hk => bit_of S bs h.ful (.inl h8) k hk, fun h0 => absurd h0 hN⟩, (Two.refl w b q).drewN n⟩
    · have h8 : S.length % 8 ≠ 0 := fun e => hm (by unfold maskB; rw [e]; rfl)
      have ho : S.length / 8 < nb := by omega
      refine (finish_put u w b q nb c _ _ _ _ _ rest bs h.blk h.byt (by rw [h.len]; omega) ho hn (by omega) hm).mono fun e u' w' => ?_
      rintro ⟨rfl, rfl, h1, h2, h3⟩
      have hg : (bs.set (S.length / 8) (curB S)).getD (S.length / 8) 0 = curB S := by
        simp [List.getD_eq_getElem?_getD, h.len, ho]
      refine ⟨rfl, rfl, ⟨_, h2, by rw [List.length_set]; exact h.len, fun _ k hk => bit_of S _ ⟨fun i hi => ?_⟩ (.inr hg) k hk, fun h0 => absurd h0 hN⟩, h3⟩
      rw [← h.ful.full i hi]
      simp [List.getD_eq_getElem?_getD, List.getElem?_set_ne (show S.length / 8 ≠ i by omega)]


/-- The two tables of masks. -/
def Masks (w : World) : Prop := (∀ k : Nat, k < 8 → w.cell? ⟨0, k, none⟩ = some (.int .u8 ((2 ^ k : Nat) : Int))) ∧ (∀ k : Nat, k < 8 → w.cell? ⟨1, k, none⟩ = some (.int .u8 ((2 ^ k - 1 : Nat) : Int)))
theorem cell_lt {w : World} {g o : Nat} {v : Value} (h : w.cell? ⟨g, o, none⟩ = some v) : g < w.heap.size := by
  rcases Nat.lt_or_ge g w.heap.size with hlt | hge
  · exact hlt
  · unfold World.cell? at h
    rw [Array.getElem?_eq_none hge] at h
    cases h
theorem Masks.lt {w : World} (h : Masks w) : 2 ≤ w.heap.size := cell_lt (h.2 0 (by omega))
theorem Masks.below {w w' : World} {B : Nat} (h : Masks w) (hb : Below B w w') (h4 : 2 ≤ B) : Masks w' :=
  ⟨fun k hk => (hb.cell (p := ⟨0, k, none⟩) (by show (0 : Nat) < B; omega)).trans (h.1 k hk), fun k hk => (hb.cell (p := ⟨1, k, none⟩) (by show (1 : Nat) < B; omega)).trans (h.2 k hk)⟩
theorem and_mask (r : Nat) (h : r < 8) : bits .and .u8 ((2 ^ r - 1 : Nat) : Int) ((2 ^ r - 1 : Nat) : Int) = ((2 ^ r - 1 : Nat) : Int) := by
  rcases (show r = 0 ∨ r = 1 ∨ r = 2 ∨ r = 3 ∨ r = 4 ∨ r = 5 ∨ r = 6 ∨ r = 7 by omega) with rfl | rfl | rfl | rfl | rfl | rfl | rfl | rfl <;> decide
def RetNew (w : World) (buf : Value) (len cur mask off : Int) (e : Ending) (w' : World) : Prop := e = .returned (.iface 80 (.pointer (some ⟨w.heap.size, 0, none⟩))) ∧ WB w' w.heap.size buf 0 len cur mask off ∧ Below w.heap.size w w'
set_option maxRecDepth 100000 in
set_option maxHeartbeats 2000000 in
theorem new_some (w : World) (q nb c : Nat) (a len : Nat) (rest : List Value) (bs : List Int) (hM : Masks w) (hw : W8 w q 5 rest bs) (hn : nb ≤ bs.length) (ha : a / 8 < nb) (hs : nb ≤ 1048576) (hl : 0 < len) (hl2 : len ≤ 8388608)
    (hv : bs.getD (a / 8) 0 = ((2 ^ (a % 8) - 1 : Nat) : Int)) :
    Calls Tryd.prog 24 #[.slice (some ⟨q, 0, none⟩) nb c, .int .i64 a, .int .i64 len] w (RetNew w (.slice (some ⟨q, 0, none⟩) nb c) len ((2 ^ (a % 8) - 1 : Nat) : Int) ((2 ^ (a % 8) : Nat) : Int) ((a / 8 : Nat) : Int)) := by
  obtain ⟨j, hj⟩ : ∃ j, a / 8 = j := ⟨_, rfl⟩
  obtain ⟨r, hr⟩ : ∃ r, a % 8 = r := ⟨_, rfl⟩
  rw [hj] at ha hv ⊢
  rw [hr] at hv ⊢
  have hr8 : r < 8 := by omega
  have t0 := hM.1 r hr8
  have t1 := hM.2 r hr8
  have c0 := hw.cell j (by omega)
  rw [hv] at c0
  have hlt := block_lt hw
  have h2 := hM.lt
  have ham := and_mask r hr8
  obtain ⟨m, hm⟩ : ∃ m : Int, ((2 ^ r : Nat) : Int) = m := ⟨_, rfl⟩
  obtain ⟨p, hp⟩ : ∃ p : Int, ((2 ^ r - 1 : Nat) : Int) = p := ⟨_, rfl⟩
  rw [hm] at t0 ⊢
  rw [hp] at t1 c0 ham ⊢
  have e1 : (a : Int).tmod 8 = (r : Int) := by rw [Int.tmod_eq_emod_of_nonneg (by omega)]; omega
  have e2 : (a : Int).tdiv 8 = (j : Int) := by rw [Int.tdiv_eq_ediv_of_nonneg (by omega)]; omega
  have hl0 : decide (0 < (len : Int)) = true := by simpa using hl
  have hr0 : (r : Int) < 8 := by omega
  have hjn : (j : Int) < nb := by omega
  clear hM hw hn hv hj hr hm hp
  go_enter Tryd.func24, Tryd.ntmps24
  go_wp2_with fail
  have hB1 : Below w.heap.size w (w.alloc (.cells #[.slice (some ⟨q, 0, none⟩) nb c, .int .i64 0, .int .i64 len, .int .u8 0, .int .u8 m, .int .i64 j, .int .u8 0, .int .u8 0, .int .u8 0, .int .u8 0, .int .u8 0, .int .u8 0, .int .u8 0, .int .u8 0] 83)) := (Below.refl _ _).alloc (Nat.le_refl _) _
  have hW1 : WB (w.alloc (.cells #[.slice (some ⟨q, 0, none⟩) nb c, .int .i64 0, .int .i64 len, .int .u8 0, .int .u8 m, .int .i64 j, .int .u8 0, .int .u8 0, .int .u8 0, .int .u8 0, .int .u8 0, .int .u8 0, .int .u8 0, .int .u8 0] 83)) w.heap.size (.slice (some ⟨q, 0, none⟩) nb c) 0 len 0 m j := ⟨heap_alloc_new _ _⟩
  generalize w.alloc (.cells #[.slice (some ⟨q, 0, none⟩) nb c, .int .i64 0, .int .i64 len, .int .u8 0, .int .u8 m, .int .i64 j, .int .u8 0, .int .u8 0, .int .u8 0, .int .u8 0, .int .u8 0, .int .u8 0, .int .u8 0, .int .u8 0] 83) = w1 at hB1 hW1 ⊢
  obtain ⟨p0, p1, p2, p3, p4, p5⟩ := hW1.cells
  have f3 := hW1.frozen 3
  have d0 := (hB1.cell (p := ⟨q, j, none⟩) hlt).trans c0
  have d1 := (hB1.cell (p := ⟨1, r, none⟩) (by show 1 < w.heap.size; omega)).trans t1
  have HZ := Aside0.mk (hW1.set3 p)
  have HB := Aside0.mk (below_set hB1 (p := ⟨w.heap.size, 3, none⟩) (Nat.le_refl _) (.int .u8 p))
  clear hW1 hB1 c0 t0 t1
  go_still_tail 18, (by kernel_rfl)
  go_wp2_with fail
  go_ret
  exact ⟨rfl, HZ.out.drew, below_drew HB.out⟩
set_option maxRecDepth 100000 in
set_option maxHeartbeats 2000000 in
theorem new_none (w : World) (buf : Value) (a : Nat) (hM : Masks w) (ha : a ≤ 8388616) (hbuf : ∃ A n c, buf = .slice A n c) :
    Calls Tryd.prog 24 #[buf, .int .i64 a, .int .i64 0] w (RetNew w buf 0 0 ((2 ^ (a % 8) : Nat) : Int) ((a / 8 : Nat) : Int)) := by
  obtain ⟨A, n, c, rfl⟩ := hbuf
  obtain ⟨j, hj⟩ : ∃ j, a / 8 = j := ⟨_, rfl⟩
  obtain ⟨r, hr⟩ : ∃ r, a % 8 = r := ⟨_, rfl⟩
  rw [hj, hr]
  have hr8 : r < 8 := by omega
  have t0 := hM.1 r hr8
  have h2 := hM.lt
  obtain ⟨m, hm⟩ : ∃ m : Int, ((2 ^ r : Nat) : Int) = m := ⟨_, rfl⟩
  rw [hm] at t0 ⊢
  have e1 : (a : Int).tmod 8 = (r : Int) := by rw [Int.tmod_eq_emod_of_nonneg (by omega)]; omega
  have e2 : (a : Int).tdiv 8 = (j : Int) := by rw [Int.tdiv_eq_ediv_of_nonneg (by omega)]; omega
  have hr0 : (r : Int) < 8 := by omega
  have hj8 : (j : Int) ≤ 8388616 := by omega
  clear hM hj hr hm
  go_enter Tryd.func24, Tryd.ntmps24
  go_wp2_with fail
  go_ret
  exact ⟨rfl, ⟨heap_alloc_new _ _⟩, (Below.refl _ _).alloc (Nat.le_refl _) _⟩
theorem pk_rep (r : Nat) : pk (List.replicate r true) = 2 ^ r - 1 := by
  induction r with
  | zero => rfl
  | succ r ih =>
    have : 1 ≤ 2 ^ r := Nat.one_le_two_pow
    rw [List.replicate_succ, pk, ih, Nat.pow_succ]
    simp
    omega
theorem cur_rep (a : Nat) : curB (List.replicate a true) = ((2 ^ (a % 8) - 1 : Nat) : Int) := by
  unfold curB
  rw [List.drop_replicate, List.length_replicate, show a - 8 * (a / 8) = a % 8 by omega, pk_rep]
/-- A writer is made over bits that stand ahead. -/
def RetWr (w : World) (q nb c N a : Nat) (rest : List Value) (bs : List Int) (e : Ending) (w' : World) : Prop := e = .returned (.iface 80 (.pointer (some ⟨w.heap.size, 0, none⟩))) ∧ WrI w' w.heap.size q nb c N 0 (List.replicate a true) rest bs ∧ Below w.heap.size w w'
theorem new_wr (w : World) (q nb c a N : Nat) (rest : List Value) (bs : List Int) (hM : Masks w) (hw : W8 w q 5 rest bs) (hn : bs.length = nb) (ha : a / 8 < nb) (hs : nb ≤ 1048576) (hl2 : N ≤ 8388608) (hb : Bs (List.replicate a true) bs)
    (hv : bs.getD (a / 8) 0 = ((2 ^ (a % 8) - 1 : Nat) : Int)) :
    Calls Tryd.prog 24 #[.slice (some ⟨q, 0, none⟩) nb c, .int .i64 a, .int .i64 N] w (RetWr w q nb c N a rest bs) := by
  have hlt := block_lt hw
  have em : maskB (List.replicate a true) = ((2 ^ (a % 8) : Nat) : Int) := by unfold maskB; rw [List.length_replicate]
  by_cases h0 : N = 0
  · subst h0
    refine (new_none w _ a hM (by omega) ⟨_, _, _, rfl⟩).mono fun e w' => ?_
    rintro ⟨rfl, h1, h2⟩
    refine ⟨rfl, ?_, h2⟩
    unfold WrI
    rw [if_pos rfl]
    exact ⟨by rw [em, List.length_replicate]; exact h1, (h2.block q hlt).trans hw, hb, hn⟩
  · refine (new_some w q nb c a N rest bs hM hw (by omega) ha hs (by omega) hl2 hv).mono fun e w' => ?_
    rintro ⟨rfl, h1, h2⟩
    refine ⟨rfl, ?_, h2⟩
    unfold WrI
    rw [if_neg h0, cur_rep]
    exact ⟨by rw [em, List.length_replicate]; exact h1, (h2.block q hlt).trans hw, hb, hn⟩

end Go.Proofs.YtcjobencclihdaaDoor.Lv
