/- The reference's small functions over values and bits. -/
import Derived.Test.YtcjobencclihdaaDoorLvZ
import Derived.Test.YtcjobencclihdaaDoorPSameBoolsx1
namespace Go.Proofs.YtcjobencclihdaaDoor.Lv
open Go.RowKit Go.Proofs.YtcjobencclihdaaDoorW.PrintWords Go.Proofs.YtcjobencclihdaaDoorW.PrintLast Go.Proofs.YtcjobencclihdaaDoorW.PrintMore
set_option linter.unusedVariables false
set_option linter.unusedSimpArgs false

/-- A row of bools of the call's own. -/
def RetBools (l : List Bool) (w : World) (e : Ending) (w' : World) : Prop := ∃ A c, e = .returned (.slice A l.length c) ∧ l.length ≤ c ∧ Kd.C Kd.bool w' A l.length l ∧ Below w.heap.size w w'
theorem info4 : (Tryd.prog.info? 4).map (fun i => (i.zero, i.size, i.bytes)) = some (some (.bool false), 1, 1) := by kernel_rfl
set_option maxRecDepth 100000 in
set_option maxHeartbeats 2000000 in
theorem nullCount_fn (A : Option Addr) (n c : Nat) (vs : List V) (w : World) (h : Kd.C kV w A n vs) (hc : n ≤ c) (hs : n ≤ 1048576) :
    Calls Tryd.prog 22 #[.slice A n c] w (fun e w' => e = .returned (.int .i64 ((vs.filter V.nul).length : Nat)) ∧ Below w.heap.size w w') := by
  have H0 := Aside0.mk h
  have HL := Aside0.mk h.1
  clear h
  go_enter Tryd.func22, Tryd.ntmps22
  go_wp2_with fail
  go_loopw [3, 8] (fun nv i wr => ∃ (x : Nat), x ≤ n ∧ i = .int .i64 x ∧ nv = .int .i64 (((vs.take x).filter V.nul).length : Nat) ∧ Aside0 (Below w.heap.size w wr)) (fun _ i _ => n - (intOf i).toNat)
  case atStart => exact ⟨0, Nat.zero_le _, rfl, rfl, ⟨Below.refl _ _⟩⟩
  case round =>
    obtain ⟨x, hx, rfl, rfl, HB⟩ := hrel
    by_cases hlt : x < n
    · obtain ⟨ad, rfl, c0, c1, c2, c3⟩ := at_V (Kd.C_below H0.out HB.out) x hlt
      have hxv : x < vs.length := by have := HL.out; omega
      have HT := Aside0.mk (show (vs.take (x + 1)).filter V.nul = (vs.take x).filter V.nul ++ (if (gv vs x).nul then [gv vs x] else []) by
        rw [List.take_succ_eq_append_getElem hxv, List.filter_append, gv_get vs x hxv]
        cases h : vs[x].nul <;> simp [List.filter_cons, h])
      have hle : ((vs.take x).filter V.nul).length ≤ 1048576 := Nat.le_trans (List.length_filter_le _ _) (by rw [List.length_take]; omega)
      generalize gv vs x = p at c0 c1 c2 c3 HT
      rcases p with ⟨nul, num, txt, kA, kn, kc⟩
      dsimp only at c0 c1 c2 c3 HT
      obtain ⟨m, hm⟩ : ∃ m, ((vs.take x).filter V.nul).length = m := ⟨_, rfl⟩
      have HM := Aside0.mk hm
      rw [hm] at hle ⊢
      clear hm hxv
      have hB1 : Aside0 (Below w.heap.size w ((wr.alloc (.cells #[.bool nul, .int .u64 num, .string txt, .slice kA kn kc] 45)))) := ⟨HB.out.alloc HB.out.size _⟩
      cases nul
      · go_wp2_with fail
        exact ⟨⟨x + 1, by omega, by go_num, by rw [HT.out]; simp [HM.out], ⟨HB.out.alloc HB.out.size _⟩⟩, by simp [intOf]; omega⟩
      · go_wp2_with fail
        exact ⟨⟨x + 1, by omega, by go_num, by rw [HT.out]; simp [HM.out], ⟨HB.out.alloc HB.out.size _⟩⟩, by simp [intOf]; omega⟩
    · obtain rfl : x = n := by omega
      rw [List.take_of_length_le (by have := HL.out; omega)]
      go_wp2_with fail
      go_ret
      exact ⟨rfl, HB.out⟩
set_option maxRecDepth 100000 in
set_option maxHeartbeats 2000000 in
theorem present_fn (A : Option Addr) (n c : Nat) (vs : List V) (w : World) (h : Kd.C kV w A n vs) (hc : n ≤ c) (hs : n ≤ 1048576) :
    Calls Tryd.prog 21 #[.slice A n c] w (RetBools (vs.map (fun v => !v.nul)) w) := by
  have H0 := Aside0.mk h
  have HL := Aside0.mk h.1
  clear h
  go_enter Tryd.func21, Tryd.ntmps21
  go_wp2_with fail
  go_loopw [3, 8] (fun nv i wr => ∃ (x : Nat), x ≤ n ∧ i = .int .i64 x ∧ Aside0 (Kd.R Kd.bool 4 wr w.heap.size (fun _ => True) nv ((vs.take x).map (fun v => !v.nul))) ∧ Aside0 (Below w.heap.size w wr)) (fun _ i _ => n - (intOf i).toNat)
  case atStart => exact ⟨0, Nat.zero_le _, rfl, ⟨Kd.R_nil _ _ _ _ _⟩, ⟨Below.refl _ _⟩⟩
  case round =>
    obtain ⟨x, hx, rfl, HR, HB⟩ := hrel
    by_cases hlt : x < n
    · obtain ⟨ad, rfl, c0, c1, c2, c3⟩ := at_V (Kd.C_below H0.out HB.out) x hlt
      have hxv : x < vs.length := by have := HL.out; omega
      have HT := Aside0.mk (show (vs.take (x + 1)).map (fun v => !v.nul) = (vs.take x).map (fun v => !v.nul) ++ [!(gv vs x).nul] by
        rw [List.take_succ_eq_append_getElem hxv, List.map_append, gv_get vs x hxv]; rfl)
      have HLn := Aside0.mk (show ((vs.take x).map (fun v => !v.nul)).length + 1 ≤ 1048577 by rw [List.length_map, List.length_take]; omega)
      generalize gv vs x = p at c0 c1 c2 c3 HT
      rcases p with ⟨nul, num, txt, kA, kn, kc⟩
      dsimp only at c0 c1 c2 c3 HT
      obtain ⟨m, hm⟩ : ∃ m, (!nul) = m := ⟨_, rfl⟩
      have HM := Aside0.mk hm
      rw [hm] at HT
      clear hxv
      have hlw := HB.out.size
      go_wp2_with ((with_reducible refine gate_builtin (b := .append) (xs := #[.tmp 12, .tmp 16]) rfl ?_); at_builtin; refine app1 Kd.bool (w0 := w) (W := wr.alloc (.cells #[.bool nul, .int .u64 num, .string txt, .slice kA kn kc] 45)) w.heap.size rfl (.tmp 12) (.tmp 16) 66 4 (.bool false) 1 rfl Tryd.underlying66 info4 rfl (by decide) (by omega) _ _ m [.bool m] rfl (by rw [World.size_alloc]; rfl) rfl (Kd.R_below HR.out ((Below.refl _ _).alloc (Nat.le_refl _) _)) (HB.out.alloc HB.out.size _) (by simp; omega) (by have := HLn.out; omega) ?_; intro v9 w9 ho9 hb9; have HO9 := Aside0.mk ho9; have HB9 := Aside0.mk hb9; clear ho9 hb9)
      exact ⟨⟨x + 1, by omega, by go_num, ⟨by rw [HT.out]; exact HO9.out⟩, HB9⟩, by simp [intOf]; omega⟩
    · obtain rfl : x = n := by omega
      rw [List.take_of_length_le (by have := HL.out; omega)] at HR
      obtain ⟨A9, c9, rfl, hc9, hC9⟩ := Kd.R_reads HR.out
      have H9 := Aside0.mk hC9
      clear hC9
      go_wp2_with fail
      go_ret
      exact ⟨A9, c9, rfl, hc9, H9.out, HB.out⟩
/-! ### lists of bits -/
theorem shr_lit (x : Int) (r : Nat) (h : r < 8) : shr .u8 x (r : Int) = x / 2 ^ r := by
  show x / 2 ^ min ((r : Int)).toNat 8 = x / 2 ^ r
  rw [Int.toNat_natCast, Nat.min_eq_left (by omega)]
theorem at_8 {w : World} {A : Option Addr} {n : Nat} {xs : List Int} (h : Kd.C (Kd.int .u8) w A n xs) (k : Nat) (h1 : k < n) : ∃ ad, A = some ad ∧ w.cell? (ad.add k) = some (.int .u8 (xs.getD k 0)) := by
  obtain ⟨ad, c, e, _, hK, hc0⟩ := Kd.C_get h 0 (k : Int) (by omega) (by omega)
  have hc : ∀ j u, c[j]? = some u → w.cell? (ad.add (k * 1 + j)) = some u := hc0
  have hK : c = [.int .u8 (xs.getD k 0)] := hK
  subst hK
  exact ⟨ad, e, by have := hc 0 _ rfl; simpa using this⟩
set_option maxRecDepth 100000 in
set_option maxHeartbeats 2000000 in
theorem bit_fn (A : Option Addr) (nb c k : Nat) (bs : List Int) (w : World) (h : Kd.C (Kd.int .u8) w A nb bs) (hk : k / 8 < nb) (hs : nb ≤ 1048576) :
    Calls Tryd.prog 27 #[.slice A nb c, .int .i64 k] w (fun e w' => e = .returned (.bool (bitAt bs k)) ∧ w = w') := by
  obtain ⟨ad, rfl, c0⟩ := at_8 h (k / 8) hk
  obtain ⟨j, hj⟩ : ∃ j, k / 8 = j := ⟨_, rfl⟩
  obtain ⟨r, hr⟩ : ∃ r, k % 8 = r := ⟨_, rfl⟩
  have hr8 : r < 8 := by omega
  have e1 : (k : Int).tmod 8 = (r : Int) := by rw [Int.tmod_eq_emod_of_nonneg (by omega)]; omega
  have e2 : (k : Int).tdiv 8 = (j : Int) := by rw [Int.tdiv_eq_ediv_of_nonneg (by omega)]; omega
  unfold bitAt
  rw [hj] at hk c0 ⊢
  rw [hr]
  generalize bs.getD j 0 = x at c0 ⊢
  rw [shr_lit x r hr8]
  have hr0 : (r : Int) < 8 := by omega
  have hj0 : (j : Int) < nb := by omega
  clear h hj hr
  go_enter Tryd.func27, Tryd.ntmps27
  go_wp2_with fail
  go_ret
  exact ⟨rfl, rfl⟩
/-- A block of bools. -/
def WBl (w : World) (g : Nat) (l : List Bool) : Prop := w.heap[g]? = some (.cells (l.map Value.bool).toArray 4 (0, 0))
theorem WBl.cell {w : World} {g : Nat} {l : List Bool} (h : WBl w g l) (i : Nat) (hi : i < l.length) : w.cell? ⟨g, i, none⟩ = some (.bool (l.getD i false)) := by
  rw [blk_cell h, List.getElem?_toArray]
  simp [List.getD_eq_getElem?_getD, List.getElem?_eq_getElem hi]
theorem WBl.put {w : World} {g : Nat} {l : List Bool} (h : WBl w g l) (i : Nat) (b : Bool) : WBl (w.setCell ⟨g, i, none⟩ (.bool b)) g (l.set i b) := by
  unfold WBl
  rw [blk_set h]
  simp
theorem WBl.made (w : World) (n : Nat) : WBl (w.alloc (.cells (madeCells #[.bool false] n) 4)) w.heap.size (List.replicate n false) := by
  unfold WBl
  rw [heap_alloc_new]
  congr 2
  apply Array.ext
  · simp [madeCells]
  · intro i h1 h2
    simp [madeCells, Nat.mod_one]
theorem WBl.C {w : World} {g n : Nat} {l : List Bool} (h : WBl w g l) (hn : l.length = n) (hm : n ≤ maxLen) : Kd.C Kd.bool w (some ⟨g, 0, none⟩) n l := by
  subst hn
  have ho : w.ownsRow 0 4 1 (.slice (some ⟨g, 0, none⟩) l.length l.length) l.length (encs Value.bool l) := ⟨by simp [encs], .inr ⟨g, l.length, _, rfl, Nat.zero_le _, h, Nat.le_refl _, hm, by simp, by rw [Nat.mul_one]; show (List.map Value.bool l).take l.length = _; rw [List.take_of_length_le (by simp)]; rfl⟩⟩
  have hr : Kd.bool.R 4 w 0 (fun _ => True) (.slice (some ⟨g, 0, none⟩) l.length l.length) l := Kd.R_of_own ho (fun _ _ => trivial)
  obtain ⟨A, c', e', _, hC⟩ := Kd.R_reads hr
  cases e'
  exact hC
def bl (bs : List Int) (f n x : Nat) : List Bool := (List.range n).map (fun i => if i < x then bitAt bs (f + i) else false)
theorem bl_len (bs : List Int) (f n x : Nat) : (bl bs f n x).length = n := by simp [bl]
theorem bl_zero (bs : List Int) (f n : Nat) : bl bs f n 0 = List.replicate n false := by
  apply List.ext_getElem
  · simp [bl]
  · intro i h1 h2; simp [bl]
theorem bl_succ (bs : List Int) (f n x : Nat) : (bl bs f n x).set x (bitAt bs (f + x)) = bl bs f n (x + 1) := by
  apply List.ext_getElem
  · simp [bl]
  · intro i h1 h2
    simp only [bl, List.getElem_set, List.getElem_map, List.getElem_range]
    by_cases h : x = i
    · subst h; rw [if_pos rfl, if_pos (by omega)]
    · rw [if_neg h]
      by_cases h2 : i < x
      · rw [if_pos h2, if_pos (by omega)]
      · rw [if_neg h2, if_neg (by omega)]
theorem bl_all (bs : List Int) (f n : Nat) : bl bs f n n = (List.range n).map (fun i => bitAt bs (f + i)) := by
  apply List.ext_getElem
  · simp [bl]
  · intro i h1 h2
    have : i < n := by simpa [bl] using h1
    simp [bl, this]
/-- A list of bits, and that there are so many. -/
def RetBits (l : List Bool) (w : World) (e : Ending) (w' : World) : Prop := ∃ A c, e = .returned (.tuple #[.slice A l.length c, .bool true]) ∧ l.length ≤ c ∧ Kd.C Kd.bool w' A l.length l ∧ Below w.heap.size w w'
set_option maxRecDepth 100000 in
set_option maxHeartbeats 2000000 in
theorem bitList_fn (A : Option Addr) (nb c f n : Nat) (bs : List Int) (w : World) (h : Kd.C (Kd.int .u8) w A nb bs) (hs : nb ≤ 1048576) (hf : f + n ≤ 8 * nb) :
    Calls Tryd.prog 19 #[.slice A nb c, .int .i64 f, .int .i64 n] w (RetBits ((List.range n).map (fun i => bitAt bs (f + i))) w) := by
  have H0 := Aside0.mk h
  clear h
  have hmk := print_make_of (P := Tryd.prog) 66 4 (.bool false) 1 Tryd.underlying66 info4 rfl (by omega) n (by omega)
  have h1 : decide ((f : Int) < 0) = false := by simp
  have h2 : decide ((n : Int) < 0) = false := by simp
  have h3 : decide (8 * (nb : Int) - n < f) = false := by simp; omega
  have h3b : ¬ (8 * (nb : Int) - n < f) := by omega
  have hn8 : n ≤ 8388608 := by omega
  have hf8 : f ≤ 8388608 := by omega
  go_enter Tryd.func19, Tryd.ntmps19
  go_wp2_with fail
  have HM := Aside0.mk (WBl.made w n)
  have HB0 := Aside0.mk ((Below.refl w.heap.size w).alloc (Nat.le_refl _) (.cells (madeCells #[.bool false] n) 4))
  clear hmk h1 h2 h3
  generalize w.alloc (.cells (madeCells #[.bool false] n) 4) = w1 at HM HB0 ⊢
  go_loopw [29] (fun i wr => ∃ (x : Nat), x ≤ n ∧ i = .int .i64 x ∧ Aside0 (WBl wr w.heap.size (bl bs f n x)) ∧ Aside0 (Below w.heap.size w wr)) (fun i _ => n - (intOf i).toNat)
  case atStart => exact ⟨0, Nat.zero_le _, rfl, ⟨by rw [bl_zero]; exact HM.out⟩, HB0⟩
  case round =>
    obtain ⟨x, hx, rfl, HW, HB⟩ := hrel
    by_cases hlt : x < n
    · have HBit := Aside0.mk (fun (W : World) (hb : Below w.heap.size w W) => bit_fn A nb c (f + x) bs W (Kd.C_below H0.out hb) (by omega) hs)
      have c0 := HW.out.cell x (by rw [bl_len]; exact hlt)
      have f0 : wr.frozen? ⟨w.heap.size, x, none⟩ = false := blk_frozen HW.out x
      have hxI : (x : Int) < n := by omega
      have hxf : (f : Int) + x = ((f + x : Nat) : Int) := by omega
      have HXF := Aside0.mk hxf
      clear hxf
      go_wp2_with (go_at_call 27; (first | rw [HXF.out] | skip); refine (HBit.out wr HB.out).mono ?_; rintro e w9 ⟨rfl, rfl⟩)
      exact ⟨⟨x + 1, by omega, by go_num, ⟨by rw [← bl_succ]; exact HW.out.put x _⟩, ⟨below_set HB.out (p := ⟨w.heap.size, x, none⟩) (Nat.le_refl _) _⟩⟩, by simp [intOf]; omega⟩
    · obtain rfl : x = n := by omega
      go_wp2_with fail
      go_ret2
      have hlen : ((List.range x).map (fun i => bitAt bs (f + i))).length = x := by simp
      exact ⟨some ⟨w.heap.size, 0, none⟩, x, by rw [hlen]; rfl, by rw [hlen]; exact Nat.le_refl _, (by have := HW.out.C (bl_len bs f x x) (by unfold maxLen; omega); rw [bl_all] at this; simpa using this), HB.out⟩

end Go.Proofs.YtcjobencclihdaaDoor.Lv
