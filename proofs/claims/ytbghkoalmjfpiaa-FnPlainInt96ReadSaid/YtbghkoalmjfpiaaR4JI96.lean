/- Texts of one length, read plainly: the thin package's function, over its batches. -/
import Derived.Test.YtbghkoalmjfpiaaR4HI96
import Derived.Test.YtbghkoalmjfpiaaR4I
namespace Go.Proofs.Ytbghkoalmjfpiaa.Plain
open Go.RowKit Go.Proofs.YtbghkoalmjfpiaaW.PrintWords Go.Proofs.YtbghkoalmjfpiaaW.PrintLast Go.Proofs.YtbghkoalmjfpiaaW.PrintMore Go.Proofs.Ytbghkoalmjfpiaa.PBatchedValues
set_option linter.unusedVariables false
set_option linter.unusedSimpArgs false

set_option maxRecDepth 100000 in
theorem newI96 (w : World) : Calls Try.prog 54 #[] w (NewD 104 #[.int .i64 0, .slice none 0 0, .int .i64 0, .nilIface] w) := by
  go_enter Try.func54, Try.ntmps54
  go_wp2_with (go_at_call 72; (with_reducible refine (base_any _).mono ?_); rintro e w1 ⟨rfl, hb⟩)
  go_ret
  exact ⟨_, rfl, hb.size, heap_alloc_new _ _, hb.alloc hb.size _⟩
/-- Values are handed back. -/
def Gave (r : List V) (w : World) (e : Ending) (w' : World) : Prop := ∃ v, e = .returned (.tuple #[v, .bool true]) ∧ Kd.R kV 34 w' w.heap.size (fun _ => True) v r ∧ Below w.heap.size w w'
set_option maxRecDepth 100000 in
set_option maxHeartbeats 8000000 in
theorem readI96 (dd : Nat) (c d nb : Nat) (A B : Option Addr) (l r : List V) (b : List Int) (w : World) (ho : OkI96 0 l) (hfl : (l.flatMap encI96).length ≤ 1000000) (ha : Kd.C (Kd.int .u8) w A (l.flatMap encI96).length (l.flatMap encI96)) (hb : Kd.C (Kd.int .i64) w B nb b)
    (hnb : b.length = nb) (hw : ∀ x ∈ b, -9223372036854775808 ≤ x ∧ x ≤ 9223372036854775807) (hbat : bat l b = some r) :
    Calls Try.prog 20 #[ .slice A (l.flatMap encI96).length c, .int .i64 l.length, .slice B nb d] w (Gave (r.map outI96) w) := by
  subst hnb
  have HA := Aside0.mk ha
  have HB := Aside0.mk hb
  have HO := Aside0.mk ho
  have HW := Aside0.mk hw
  have HT := Aside0.mk hbat
  have HF := Aside0.mk hfl
  have hl5 : l.length ≤ 500 := ho.2.2.1
  obtain ⟨bs, hbs⟩ : ∃ bs, l.flatMap encI96 = bs := ⟨_, rfl⟩
  have HBS := Aside0.mk hbs
  rw [hbs] at HA HF ⊢
  clear ha hb ho hw hbat hfl hbs
  go_enter_defers Try.func20, Try.ntmps20
  go_wp2_with (go_at_call 54; (with_reducible refine (newI96  _).mono ?_); rintro e w1 ⟨g, rfl, hg1, hg2, hb1⟩)
  have hgw : w.heap.size + 2 ≤ g := by simpa using hg1
  have HG2 := Aside0.mk hg2
  have HB1 := Aside0.mk hb1
  clear hg1 hg2 hb1
  have HG3 := Aside0.mk (show w1.drew.heap[g]? = _ from HG2.out)
  have HB3 := Aside0.mk (show Below (w.heap.size + 2) ((w.alloc (.cells #[.slice none 0 0] 22)).alloc (.cells #[.bool false] 4)) w1.drew by have := HB1.out.drew; simpa using this)
  clear HG2 HB1
  have HBw := Aside0.mk (show Below w.heap.size w w1.drew from (((Below.refl _ _).alloc (Nat.le_refl _) _).alloc (by simp) _).trans (HB3.out.mono (by omega)))
  go_region_held3 (fun w' => True) (trivial) (first | (go_at_call 26; refine (copied_any A bs.length c bs _ (Kd.C_below HA.out HBw.out) HF.out).mono ?_; rintro e w2 ⟨v2, rfl, hr2, hb2⟩; obtain ⟨A2, c2, rfl, hdb⟩ := db_of (T := 104) (mk := mkI96 0) (nv := l.length) (by decide) ((hb2.block g (block_lt HG3.out)).trans HG3.out) hr2 HF.out (fun s => rfl); have HDB := Aside0.mk hdb; have HB2 := Aside0.mk hb2; clear hr2 hb2 hdb) | (go_at_call 25; refine (setData_any g l.length bs.length c2 A2 _ 104 (.int .i64 0) (.int .i64 0) _ ((HB2.out.block g (block_lt HG3.out)).trans HG3.out) rfl rfl).mono ?_; rintro e w3 ⟨rfl, hw3⟩; have HW3 := Aside0.mk hw3; clear hw3))
  obtain ⟨k0, k1⟩ := kept_two HB3.out HB2.out HW3.out hgw
  have HD := Aside0.mk (show DB 104 (mkI96 0) w3 g w3 l.length bs A2 c2 by rw [HW3.out]; exact HDB.out)
  have HBw3 := Aside0.mk (show Below w.heap.size w w3 by rw [HW3.out]; exact ((HBw.out.trans (HB2.out.mono HBw.out.size)).setCell (by show w.heap.size ≤ g; omega) _).setCell (by show w.heap.size ≤ g; omega) _)
  have HK0 := Aside0.mk k0
  have HK1 := Aside0.mk k1
  clear k0 k1 HDB HB2 HBw HB3 HG3
  go_wp2_with (go_at_call 55; (with_reducible refine (decodedI96 dd g c2 d A2 B l r b w3 w3 HO.out (fun wr hg => Kd.C_below HB.out (below_gb HBw3.out hg (by omega))) (by rw [HBS.out]; exact HD.out) HW.out HT.out).mono ?_); rintro e w4 ⟨v4, xs, rfl, hg4, hr4, ha4⟩; obtain ⟨c0, z0, c1, z1⟩ := cells_two HK0.out HK1.out hg4 (by omega) (by omega); obtain ⟨A4, c4, rfl, hl4, hC4⟩ := Kd.R_reads hr4; have HR4 := Aside0.mk hr4; have HA4 := Aside0.mk ha4; have HG4 := Aside0.mk hg4; clear hg4 hr4 ha4 hl4 hC4)
  have HA5 := Aside0.mk (HA4.out.imp (fun x y h => relN_ok HK1.out HG4.out (show w.heap.size + 1 ≠ g by omega) h))
  have HAQ := Aside0.mk (show 0 < xs.length → ∃ q, A4 = some ⟨q, 0, none⟩ from fun hn => by
    obtain ⟨inner, hown⟩ := Kd.R_own HR4.out
    obtain ⟨q, cap, hv, _, _⟩ := hown.form hn
    injection hv with hv _ _
    exact ⟨q, hv⟩)
  have HR12 := Aside0.mk (show ∀ v ∈ r, (bytesOf v.txt).length = 12 from fun v hv => HO.out.2.2.2 v (bat_mem HT.out v hv))
  have HC5 := Aside0.mk (Kd.reads_setA HR4.out HK1.out HG4.out (by decide) (by omega))
  have HB5 := Aside0.mk (below_gb HBw3.out HG4.out (by omega))
  have hz4 : w.heap.size + 2 ≤ w4.heap.size := by have := HG4.out.size; have := block_lt HK1.out; omega
  have hxr : xs.length ≤ 500 := by have h1 := HA4.out.1; have h2 := bat_len HT.out; omega
  have HXR := Aside0.mk hxr
  generalize hw5 : w4.setCell ⟨w.heap.size + 1, 0, none⟩ (.bool true) = w5
  have e0 : w5.cell? ⟨w.heap.size, 0, none⟩ = some (.slice none 0 0) := by rw [← hw5, World.cell?_setCell_other _ _ _ _ (show (⟨w.heap.size + 1, 0, none⟩ : Addr) ≠ ⟨w.heap.size, 0, none⟩ by simp)]; exact c0
  have y0 : w5.frozen? ⟨w.heap.size, 0, none⟩ = false := by rw [← hw5, World.frozen?_setCell]; exact z0
  have e1 : w5.cell? ⟨w.heap.size + 1, 0, none⟩ = some (.bool true) := by rw [← hw5]; exact World.cell?_setCell_same _ _ _ c1
  have y1 : w5.frozen? ⟨w.heap.size + 1, 0, none⟩ = false := by rw [← hw5, World.frozen?_setCell]; exact z1
  try rw [hw5] at HA5
  rw [hw5] at HC5
  have HW5 := Aside0.mk (show Below w.heap.size w w5 by rw [← hw5]; exact HB5.out.setCell (by show w.heap.size ≤ w.heap.size + 1; omega) _)
  have hz5 : w.heap.size + 1 < w5.heap.size := by rw [← hw5, World.size_setCell]; omega
  clear hw5 c0 z0 c1 z1 hz4 hxr
  go_region_held3 (fun w' => w'.cell? ⟨w.heap.size + 1, 0, none⟩ = some (.bool true)) (first | exact e1 | exact f1 | (go_keep; done) | exact cell_twice f1 | exact cell_twice e1) (first | (go_at_call 58; refine (valuedI96 g xs.length c4 A4 xs r w5 _ (gb_drew (gb_refl g _)) (by have := HXR.out; omega) HAQ.out HR12.out (HC5.out) HA5.out).mono ?_; rintro e w6 ⟨v6, rfl, hr6, hb6⟩; obtain ⟨A6, c6, rfl, _, _⟩ := Kd.R_reads hr6; obtain ⟨f0, f1, x0, x1⟩ := cells_after hb6 e0 y0 e1 y1 (show _ < w5.heap.size by omega) (show _ < w5.heap.size from hz5); have HR6 := Aside0.mk hr6; have HB6 := Aside0.mk hb6; clear hr6 hb6 e0 y0 e1 y1))
  go_wp2
  generalize hw7 : (w6.setCell ⟨w.heap.size, 0, none⟩ (.slice A6 r.length c6)).setCell ⟨w.heap.size + 1, 0, none⟩ (.bool true) = w7
  have q1 : w7.cell? ⟨w.heap.size + 1, 0, none⟩ = some (.bool true) := by rw [← hw7]; exact cell_twice f1
  have q0 : w7.cell? ⟨w.heap.size, 0, none⟩ = some (.slice A6 r.length c6) := by
    rw [← hw7, World.cell?_setCell_other _ _ _ _ (show (⟨w.heap.size + 1, 0, none⟩ : Addr) ≠ ⟨w.heap.size, 0, none⟩ by simp)]
    exact World.cell?_setCell_same _ _ _ f0
  have HW7 := Aside0.mk hw7
  clear hw7
  refine leaves_cons (f := 23) (args := #[.pointer (some ⟨w.heap.size, 0, none⟩), .pointer (some ⟨w.heap.size + 1, 0, none⟩)]) (by simp) (by simp [go_sem]) ?_
  refine (idle _ _ _).mono ?_
  rintro e u' w'' ⟨rfl, rfl, rfl⟩
  simp [Leaves, settle, results, Try.results20, go_sem, q0, q1]
  refine ⟨_, rfl, ?_, ?_⟩
  · rw [← HW7.out]
    have hr6 := HR6.out
    simp only [List.length_map] at hr6
    exact Kd.R_lower (Kd.R_old (Kd.R_old hr6 (p := ⟨w.heap.size, 0, none⟩) (show w.heap.size < w5.heap.size by omega) _) (p := ⟨w.heap.size + 1, 0, none⟩) (show w.heap.size + 1 < w5.heap.size from hz5) _) (by show w.heap.size ≤ w5.heap.size; omega)
  · rw [← HW7.out]
    exact (((HW5.out.drew).trans (HB6.out.mono (by show w.heap.size ≤ w5.heap.size; omega))).setCell (Nat.le_refl _) _).setCell (Nat.le_succ _) _
/-- Nothing is read. -/
def Lost (w : World) (e : Ending) (w' : World) : Prop := ∃ v, e = .returned (.tuple #[v, .bool false]) ∧ Below w.heap.size w w'
theorem C_none {α : Type} (d : Kd α) (w : World) : Kd.C d w none 0 [] := ⟨rfl, by simp, fun h => absurd h (by simp)⟩
set_option maxRecDepth 100000 in
set_option maxHeartbeats 8000000 in
theorem readI96_cut (dd : Nat) (c d n : Nat) (A : Option Addr) (bd : Addr) (bs : List Int) (w : World) (hs : CutI96 0 n bs) (hn : n ≤ 500) (hfl : bs.length ≤ 1000000) (ha : Kd.C (Kd.int .u8) w A bs.length bs) (hb : w.cell? bd = some (.int .i64 n)) (hbd : bd.block < w.heap.size) :
    Calls Try.prog 20 #[ .slice A bs.length c, .int .i64 n, .slice (some bd) 1 d] w (Lost w) := by
  have HA := Aside0.mk ha
  have HB := Aside0.mk hb
  have HS := Aside0.mk hs
  have HF := Aside0.mk hfl
  clear ha hb hs hfl
  go_enter_defers Try.func20, Try.ntmps20
  go_wp2_with (go_at_call 54; (with_reducible refine (newI96  _).mono ?_); rintro e w1 ⟨g, rfl, hg1, hg2, hb1⟩)
  have hgw : w.heap.size + 2 ≤ g := by simpa using hg1
  have HG2 := Aside0.mk hg2
  have HB1 := Aside0.mk hb1
  clear hg1 hg2 hb1
  have HG3 := Aside0.mk (show w1.drew.heap[g]? = _ from HG2.out)
  have HB3 := Aside0.mk (show Below (w.heap.size + 2) ((w.alloc (.cells #[.slice none 0 0] 22)).alloc (.cells #[.bool false] 4)) w1.drew by have := HB1.out.drew; simpa using this)
  clear HG2 HB1
  have HBw := Aside0.mk (show Below w.heap.size w w1.drew from (((Below.refl _ _).alloc (Nat.le_refl _) _).alloc (by simp) _).trans (HB3.out.mono (by omega)))
  go_region_held3 (fun w' => True) (trivial) (first | (go_at_call 26; refine (copied_any A bs.length c bs _ (Kd.C_below HA.out HBw.out) HF.out).mono ?_; rintro e w2 ⟨v2, rfl, hr2, hb2⟩; obtain ⟨A2, c2, rfl, hdb⟩ := db_of (T := 104) (mk := mkI96 0) (nv := n) (by decide) ((hb2.block g (block_lt HG3.out)).trans HG3.out) hr2 HF.out (fun s => rfl); have HDB := Aside0.mk hdb; have HB2 := Aside0.mk hb2; clear hr2 hb2 hdb) | (go_at_call 25; refine (setData_any g n bs.length c2 A2 _ 104 (.int .i64 0) (.int .i64 0) _ ((HB2.out.block g (block_lt HG3.out)).trans HG3.out) rfl rfl).mono ?_; rintro e w3 ⟨rfl, hw3⟩; have HW3 := Aside0.mk hw3; clear hw3))
  obtain ⟨k0, k1⟩ := kept_two HB3.out HB2.out HW3.out hgw
  have HD := Aside0.mk (show DB 104 (mkI96 0) w3 g w3 n bs A2 c2 by rw [HW3.out]; exact HDB.out)
  have HBw3 := Aside0.mk (show Below w.heap.size w w3 by rw [HW3.out]; exact ((HBw.out.trans (HB2.out.mono HBw.out.size)).setCell (by show w.heap.size ≤ g; omega) _).setCell (by show w.heap.size ≤ g; omega) _)
  have HK0 := Aside0.mk k0
  have HK1 := Aside0.mk k1
  clear k0 k1 HDB HB2 HBw HB3 HG3
  have hb3 : w3.cell? bd = some (.int .i64 n) := (HBw3.out.cell hbd).trans HB.out
  have HDEC := Aside0.mk (fun (w1 : World) (hb1 : Below w3.heap.size w3 w1) (q : Addr) => decI96_err n g c2 n A2 bs q w3 w1 (Nat.le_refl _) hn HS.out (HD.out.below hb1))
  go_wp2_with (go_at_call 55; (with_reducible refine (decodedI96_err n g d bd w3 w3 hn (gb_refl g w3) hb3 HDEC.out).mono ?_); rintro e w4 ⟨rfl, hg4⟩; obtain ⟨c0, z0, c1, z1⟩ := cells_two HK0.out HK1.out hg4 (by omega) (by omega); have HG4 := Aside0.mk hg4; clear hg4)
  have HB5 := Aside0.mk (below_gb HBw3.out HG4.out (by omega))
  have hz4 : w.heap.size + 2 ≤ w4.heap.size := by have := HG4.out.size; have := block_lt HK1.out; omega
  generalize hw5 : w4.setCell ⟨w.heap.size + 1, 0, none⟩ (.bool false) = w5
  have e0 : w5.cell? ⟨w.heap.size, 0, none⟩ = some (.slice none 0 0) := by rw [← hw5, World.cell?_setCell_other _ _ _ _ (show (⟨w.heap.size + 1, 0, none⟩ : Addr) ≠ ⟨w.heap.size, 0, none⟩ by simp)]; exact c0
  have y0 : w5.frozen? ⟨w.heap.size, 0, none⟩ = false := by rw [← hw5, World.frozen?_setCell]; exact z0
  have e1 : w5.cell? ⟨w.heap.size + 1, 0, none⟩ = some (.bool false) := by rw [← hw5]; exact World.cell?_setCell_same _ _ _ c1
  have y1 : w5.frozen? ⟨w.heap.size + 1, 0, none⟩ = false := by rw [← hw5, World.frozen?_setCell]; exact z1
  have HW5 := Aside0.mk (show Below w.heap.size w w5 by rw [← hw5]; exact HB5.out.setCell (by show w.heap.size ≤ w.heap.size + 1; omega) _)
  have hz5 : w.heap.size + 1 < w5.heap.size := by rw [← hw5, World.size_setCell]; omega
  clear hw5 c0 z0 c1 z1 hz4 hb3
  go_region_held3 (fun w' => w'.cell? ⟨w.heap.size + 1, 0, none⟩ = some (.bool false)) (first | exact e1 | exact f1 | (go_keep; done) | exact cell_twice f1 | exact cell_twice e1) (first | (go_at_call 58; refine (valuedI96 g 0 0 none [] [] w5 _ (gb_drew (gb_refl g _)) (by omega) (fun h => absurd h (by simp)) (fun v hv => by cases hv) (C_none _ _) All2.nil).mono ?_; rintro e w6 ⟨v6, rfl, hr6, hb6⟩; obtain ⟨A6, c6, rfl, _, _⟩ := Kd.R_reads hr6; obtain ⟨f0, f1, x0, x1⟩ := cells_after hb6 e0 y0 e1 y1 (show _ < w5.heap.size by omega) (show _ < w5.heap.size from hz5); have HR6 := Aside0.mk hr6; have HB6 := Aside0.mk hb6; clear hr6 hb6 e0 y0 e1 y1))
  go_wp2
  generalize hw7 : (w6.setCell ⟨w.heap.size, 0, none⟩ (.slice A6 0 c6)).setCell ⟨w.heap.size + 1, 0, none⟩ (.bool false) = w7
  have q1 : w7.cell? ⟨w.heap.size + 1, 0, none⟩ = some (.bool false) := by rw [← hw7]; exact cell_twice f1
  have q0 : w7.cell? ⟨w.heap.size, 0, none⟩ = some (.slice A6 0 c6) := by
    rw [← hw7, World.cell?_setCell_other _ _ _ _ (show (⟨w.heap.size + 1, 0, none⟩ : Addr) ≠ ⟨w.heap.size, 0, none⟩ by simp)]
    exact World.cell?_setCell_same _ _ _ f0
  have HW7 := Aside0.mk hw7
  clear hw7
  refine leaves_cons (f := 23) (args := #[.pointer (some ⟨w.heap.size, 0, none⟩), .pointer (some ⟨w.heap.size + 1, 0, none⟩)]) (by simp) (by simp [go_sem]) ?_
  refine (idle _ _ _).mono ?_
  rintro e u' w'' ⟨rfl, rfl, rfl⟩
  simp [Leaves, settle, results, Try.results20, go_sem, q0, q1]
  refine ⟨_, rfl, ?_⟩
  · rw [← HW7.out]
    exact (((HW5.out.drew).trans (HB6.out.mono (by show w.heap.size ≤ w5.heap.size; omega))).setCell (Nat.le_refl _) _).setCell (Nat.le_succ _) _

end Go.Proofs.Ytbghkoalmjfpiaa.Plain
