/- Numbers as bytes, the lowest first: read, and written in place. -/
import Derived.Test.YtldkpgjpfhoekaaJrW
namespace Go.Proofs.Ytldkpgjpfhoekaa.Join
open Go.RowKit Go.Proofs.YtldkpgjpfhoekaaW.PrintWords Go.Proofs.YtldkpgjpfhoekaaW.PrintLast Go.Proofs.YtldkpgjpfhoekaaW.PrintMore
set_option linter.unusedVariables false
set_option linter.unusedSimpArgs false

theorem cell_lt {w : World} {p : Addr} {v : Value} (h : w.cell? p = some v) : p.block < w.heap.size := by
  rcases Nat.lt_or_ge p.block w.heap.size with hlt | hge
  · exact hlt
  · simp [World.cell?, Array.getElem?_eq_none hge] at h
/-- A row of bytes in a block; rest: what stands behind it. -/
def W8 (w : World) (g : Nat) (T : TypeId) (rest : List Value) (bs : List Int) : Prop := w.heap[g]? = some (.cells (bs.map (Value.int .u8) ++ rest).toArray T (0, 0))
theorem W8.cell {w : World} {g : Nat} {T : TypeId} {rest : List Value} {bs : List Int} (h : W8 w g T rest bs) (i : Nat) (hi : i < bs.length) : w.cell? ⟨g, i, none⟩ = some (.int .u8 (bs.getD i 0)) := by
  rw [blk_cell h]
  rw [List.getElem?_toArray, List.getElem?_append_left (by simpa using hi)]
  simp [List.getD_eq_getElem?_getD, List.getElem?_eq_getElem hi]
theorem W8.frozen {w : World} {g : Nat} {T : TypeId} {rest : List Value} {bs : List Int} (h : W8 w g T rest bs) (i : Nat) : w.frozen? ⟨g, i, none⟩ = false := blk_frozen h i
theorem W8.put {w : World} {g : Nat} {T : TypeId} {rest : List Value} {bs : List Int} (h : W8 w g T rest bs) (i : Nat) (hi : i < bs.length) (x : Int) : W8 (w.setCell ⟨g, i, none⟩ (.int .u8 x)) g T rest (bs.set i x) := by
  unfold W8
  rw [blk_set h]
  simp [List.set_append_left, hi]
theorem cutA {P : Program} (t e : TypeId) (kl : IntKind) {i : TypeInfo} (ht : P.underlying t = some (.slice e)) (hi : P.info? e = some i) (hsz : i.size = 1) (A : Option Addr) (g p n c m : Nat) (hA : 0 < n → A = some ⟨g, p, none⟩) (hm : m ≤ n) (hc : n ≤ c) :
    ∃ A' : Option Addr, (∀ W : World, (Instr.slice t (.slice A n c) (some (.int kl (m : Int))) none none).run P W = .ok (.slice A' (n - m) (c - m)) W) ∧ (0 < n - m → A' = some ⟨g, p + m, none⟩) := by
  refine ⟨if c = m then A else A.map (·.add m), fun W => ?_, fun h => ?_⟩
  · have hel : P.elem t = e := by simp [Program.elem, ht]
    have hu : P.underlying t = some (.slice (P.elem t)) := by rw [hel]; exact ht
    rw [run_slice_l W t A n c hu kl (m : Int) (Int.natCast_nonneg _) (by omega), hel]
    simp [sizeOf, typeInfo, hi, hsz, sliced, Result.andThen]
  · rw [if_neg (by omega), hA (by omega)]
    simp [Addr.add]
theorem info5p : ∃ i, Try.prog.info? 5 = some i ∧ i.size = 1 := by
  obtain ⟨i, hi, h⟩ := Option.map_eq_some_iff.1 info5
  simp only [Prod.mk.injEq] at h
  exact ⟨i, hi, h.2.1⟩
/-- out[1:], out[4:] of a row of bytes. -/
theorem cut8 (A : Option Addr) (g p n c m : Nat) (hA : 0 < n → A = some ⟨g, p, none⟩) (hm : m ≤ n) (hc : n ≤ c) :
    ∃ A' : Option Addr, (∀ W : World, (Instr.slice 24 (.slice A n c) (some (.int .i64 (m : Int))) none none).run Try.prog W = .ok (.slice A' (n - m) (c - m)) W) ∧ (0 < n - m → A' = some ⟨g, p + m, none⟩) := by
  obtain ⟨i, hi, hs⟩ := info5p
  exact cutA 24 5 .i64 Try.underlying24 hi hs A g p n c m hA hm hc
theorem ret_u16 {a b : Int} (h : a = b) : Ending.returned (.int .u16 a) = Ending.returned (.int .u16 b) := by rw [h]
theorem wraps_u16 (n : Int) (h0 : 0 ≤ n) (h1 : n < 2 ^ IntKind.u16.bits) : IntKind.u16.wrap n = n := by
  have e : (2 : Int) ^ IntKind.u16.bits = 65536 := rfl
  rw [IntKind.wrap_u16]; omega
theorem or_words2 (a b : Int) (ha : 0 ≤ a ∧ a ≤ 255) (hb : 0 ≤ b ∧ b ≤ 255) : Go.bits .or .u16 a (b * 256) = a + 256 * b := by
  have h1 := or_add .u16 wraps_u16 8 a b (by omega) hb.1 (by have e : (2 : Int) ^ IntKind.u16.bits = 65536 := rfl; omega)
  rw [show (2 : Int) ^ 8 = 256 from rfl] at h1
  rw [h1]
  omega
theorem le2 (x : Int) (h0 : 0 ≤ x) (h1 : x < 65536) : byteAt x 0 + 256 * byteAt x 1 = x := by
  simp [byteAt]
  omega
set_option maxRecDepth 100000 in
set_option maxHeartbeats 4000000 in
theorem uint16_le (A : Option Addr) (n c : Nat) (xs : List Int) (x : Int) (w : World) (h : ReadsOf (Value.int .u8) (0 : Int) w A n xs) (hn : 2 ≤ n) (hx : xs.take 2 = le x 2) (h0 : 0 ≤ x) (h1 : x < 65536) :
    Calls Try.prog 50 #[.agg #[], .slice A n c] w fun e w' => e = .returned (.int .u16 x) ∧ Below w.heap.size w w' := by
  obtain ⟨hl, _, hc⟩ := h
  obtain ⟨ad, rfl, hcell⟩ := hc (by omega)
  have hg : ∀ j, j < 2 → xs.getD j 0 = byteAt x j := by
    intro j hj
    have e : xs[j]? = (le x 2)[j]? := by rw [← hx, List.getElem?_take, if_pos hj]
    rw [List.getD_eq_getElem?_getD, e]
    simp [le, hj]
  have c0 := hcell 0 (by omega)
  rw [hg 0 (by omega)] at c0
  have c0' : w.cell? ad = some (.int .u8 (byteAt x 0)) := by simpa [Addr.add] using c0
  have c1 := hcell 1 (by omega)
  rw [hg 1 (by omega)] at c1
  simp [Addr.add] at c1
  have hlt : ad.block < w.heap.size := by have := World.block_lt_of_cell? w _ c0'; exact this
  have HV := Aside0.mk (or_words2 _ _ (byte_range x 0) (byte_range x 1))
  have HX := Aside0.mk (le2 x h0 h1)
  obtain ⟨b00, b01⟩ := byte_range x 0
  obtain ⟨b10, b11⟩ := byte_range x 1
  generalize byteAt x 0 = y0 at c0 c0' b00 b01 HV HX
  generalize byteAt x 1 = y1 at c1 b10 b11 HV HX
  clear hc hcell hg hx h0 h1
  go_enter Try.func50, Try.ntmps50
  go_wp2_with fail
  go_quiet (fail)
  go_wp2_with fail
  go_ret
  exact ⟨ret_u16 (HV.out.trans HX.out), pw_below_drewN ((Below.refl _ _).alloc (Nat.le_refl _) _) _⟩
set_option maxRecDepth 100000 in
set_option maxHeartbeats 4000000 in
theorem uint32_le (A : Option Addr) (n c : Nat) (xs : List Int) (x : Int) (w : World) (h : ReadsOf (Value.int .u8) (0 : Int) w A n xs) (hn : 4 ≤ n) (hx : xs.take 4 = le x 4) (h0 : 0 ≤ x) (h1 : x < 4294967296) :
    Calls Try.prog 52 #[.agg #[], .slice A n c] w fun e w' => e = .returned (.int .u32 x) ∧ Below w.heap.size w w' := by
  obtain ⟨hl, _, hc⟩ := h
  obtain ⟨ad, rfl, hcell⟩ := hc (by omega)
  have hg : ∀ j, j < 4 → xs.getD j 0 = byteAt x j := by
    intro j hj
    have e : xs[j]? = (le x 4)[j]? := by rw [← hx, List.getElem?_take, if_pos hj]
    rw [List.getD_eq_getElem?_getD, e]
    simp [le, hj]
  have c0 := hcell 0 (by omega)
  rw [hg 0 (by omega)] at c0
  have c0' : w.cell? ad = some (.int .u8 (byteAt x 0)) := by simpa [Addr.add] using c0
  have c1 := hcell 1 (by omega)
  rw [hg 1 (by omega)] at c1
  simp [Addr.add] at c1
  have c2 := hcell 2 (by omega)
  rw [hg 2 (by omega)] at c2
  simp [Addr.add] at c2
  have c3 := hcell 3 (by omega)
  rw [hg 3 (by omega)] at c3
  simp [Addr.add] at c3
  have hlt : ad.block < w.heap.size := by have := World.block_lt_of_cell? w _ c0'; exact this
  have HV := Aside0.mk (or_words _ _ _ _ (byte_range x 0) (byte_range x 1) (byte_range x 2) (byte_range x 3))
  have HX := Aside0.mk (le4 x h0 h1)
  obtain ⟨b00, b01⟩ := byte_range x 0
  obtain ⟨b10, b11⟩ := byte_range x 1
  obtain ⟨b20, b21⟩ := byte_range x 2
  obtain ⟨b30, b31⟩ := byte_range x 3
  generalize byteAt x 0 = y0 at c0 c0' b00 b01 HV HX
  generalize byteAt x 1 = y1 at c1 b10 b11 HV HX
  generalize byteAt x 2 = y2 at c2 b20 b21 HV HX
  generalize byteAt x 3 = y3 at c3 b30 b31 HV HX
  clear hc hcell hg hx h0 h1
  go_enter Try.func52, Try.ntmps52
  go_wp2_with fail
  go_quiet (fail)
  go_wp2_with fail
  go_ret
  exact ⟨ret_u32 (HV.out.trans HX.out), pw_below_drewN ((Below.refl _ _).alloc (Nat.le_refl _) _) _⟩
set_option maxRecDepth 100000 in
set_option maxHeartbeats 4000000 in
theorem uint64_le (A : Option Addr) (n c : Nat) (xs : List Int) (x : Int) (w : World) (h : ReadsOf (Value.int .u8) (0 : Int) w A n xs) (hn : 8 ≤ n) (hx : xs.take 8 = le x 8) (h0 : 0 ≤ x) (h1 : x < 18446744073709551616) :
    Calls Try.prog 54 #[.agg #[], .slice A n c] w fun e w' => e = .returned (.int .u64 x) ∧ Below w.heap.size w w' := by
  obtain ⟨hl, _, hc⟩ := h
  obtain ⟨ad, rfl, hcell⟩ := hc (by omega)
  have hg : ∀ j, j < 8 → xs.getD j 0 = byteAt x j := by
    intro j hj
    have e : xs[j]? = (le x 8)[j]? := by rw [← hx, List.getElem?_take, if_pos hj]
    rw [List.getD_eq_getElem?_getD, e]
    simp [le, hj]
  have c0 := hcell 0 (by omega)
  rw [hg 0 (by omega)] at c0
  have c0' : w.cell? ad = some (.int .u8 (byteAt x 0)) := by simpa [Addr.add] using c0
  have c1 := hcell 1 (by omega)
  rw [hg 1 (by omega)] at c1
  simp [Addr.add] at c1
  have c2 := hcell 2 (by omega)
  rw [hg 2 (by omega)] at c2
  simp [Addr.add] at c2
  have c3 := hcell 3 (by omega)
  rw [hg 3 (by omega)] at c3
  simp [Addr.add] at c3
  have c4 := hcell 4 (by omega)
  rw [hg 4 (by omega)] at c4
  simp [Addr.add] at c4
  have c5 := hcell 5 (by omega)
  rw [hg 5 (by omega)] at c5
  simp [Addr.add] at c5
  have c6 := hcell 6 (by omega)
  rw [hg 6 (by omega)] at c6
  simp [Addr.add] at c6
  have c7 := hcell 7 (by omega)
  rw [hg 7 (by omega)] at c7
  simp [Addr.add] at c7
  have hlt : ad.block < w.heap.size := by have := World.block_lt_of_cell? w _ c0'; exact this
  have HV := Aside0.mk (or_words8 _ _ _ _ _ _ _ _ (byte_range x 0) (byte_range x 1) (byte_range x 2) (byte_range x 3) (byte_range x 4) (byte_range x 5) (byte_range x 6) (byte_range x 7))
  have HX := Aside0.mk (le8 x h0 h1)
  obtain ⟨b00, b01⟩ := byte_range x 0
  obtain ⟨b10, b11⟩ := byte_range x 1
  obtain ⟨b20, b21⟩ := byte_range x 2
  obtain ⟨b30, b31⟩ := byte_range x 3
  obtain ⟨b40, b41⟩ := byte_range x 4
  obtain ⟨b50, b51⟩ := byte_range x 5
  obtain ⟨b60, b61⟩ := byte_range x 6
  obtain ⟨b70, b71⟩ := byte_range x 7
  generalize byteAt x 0 = y0 at c0 c0' b00 b01 HV HX
  generalize byteAt x 1 = y1 at c1 b10 b11 HV HX
  generalize byteAt x 2 = y2 at c2 b20 b21 HV HX
  generalize byteAt x 3 = y3 at c3 b30 b31 HV HX
  generalize byteAt x 4 = y4 at c4 b40 b41 HV HX
  generalize byteAt x 5 = y5 at c5 b50 b51 HV HX
  generalize byteAt x 6 = y6 at c6 b60 b61 HV HX
  generalize byteAt x 7 = y7 at c7 b70 b71 HV HX
  clear hc hcell hg hx h0 h1
  go_enter Try.func54, Try.ntmps54
  go_wp2_with fail
  go_quiet (fail)
  go_wp2_with fail
  go_ret
  exact ⟨ret_u64 (HV.out.trans HX.out), pw_below_drewN ((Below.refl _ _).alloc (Nat.le_refl _) _) _⟩
/-- Several numbers of a row are set, one behind the other. -/
def setL : List Int → Nat → List Int → List Int
  | bs, _, [] => bs
  | bs, o, y :: ys => setL (bs.set o y) (o + 1) ys
theorem setL_fill : ∀ (ys xs : List Int) (N : Nat), xs.length + ys.length ≤ N → setL (fill xs 0 N) xs.length ys = fill (xs ++ ys) 0 N
  | [], xs, N, h => by rw [List.append_nil]; rfl
  | y :: ys, xs, N, h => by
    simp only [List.length_cons] at h
    rw [setL, fill_set xs 0 y N (by omega)]
    have := setL_fill ys (xs ++ [y]) N (by rw [List.length_append]; simp; omega)
    rw [List.length_append] at this
    simp only [List.length_cons, List.length_nil, Nat.zero_add] at this
    rw [this, List.append_assoc]
    rfl
/-- Some bytes of a row are written. -/
def PutL (w : World) (g : Nat) (bs : List Int) (o : Nat) (ys : List Int) (e : Ending) (w' : World) : Prop :=
  e = .returned (.tuple #[]) ∧ w.grownBy w' (some g) ∧ W8 w' g 5 [] (setL bs o ys)
theorem W8.put0 {w : World} {g o : Nat} {bs : List Int} (h : W8 w g 5 [] bs) (x : Int) : W8 (w.setCell ⟨g, o, none⟩ (.int .u8 x)) g 5 [] (bs.set o x) := by
  unfold W8 at h ⊢
  rw [blk_set h]
  simp
theorem gb_cell {w w' : World} {g i o : Nat} {v : Value} (hg : w.grownBy w' (some g)) (hi : i ≠ g) (hc : w.cell? ⟨i, o, none⟩ = some v) : w'.cell? ⟨i, o, none⟩ = some v := by
  have hb := hg.block i (cell_lt hc) (fun e => hi (Option.some.inj e))
  rw [← hc]
  simp [World.cell?, hb]
theorem W8.eq {w : World} {g : Nat} {T : TypeId} {rest : List Value} {l l' : List Int} (h : W8 w g T rest l) (e : l = l') : W8 w g T rest l' := e ▸ h
theorem W8.alloc {w : World} {g : Nat} {T : TypeId} {rest : List Value} {l : List Int} (h : W8 w g T rest l) (o : Obj) : W8 (w.alloc o) g T rest l := (Below.heap_alloc _ _ _ (block_lt h)).trans h
set_option maxRecDepth 100000 in
set_option maxHeartbeats 4000000 in
theorem putU16 (g o c : Nat) (x : Int) (bs : List Int) (w : World) (hw : W8 w g 5 [] bs) (hn : o + 2 ≤ bs.length) (h0 : 0 ≤ x) (h1 : x < 65536) :
    Calls Try.prog 58 #[.agg #[], .slice (some ⟨g, o, none⟩) 2 c, .int .u16 x] w (PutL w g bs o (le x 2)) := by
  have f0 := hw.cell (o) (by omega)
  have z0 := hw.frozen (o)
  have f1 := hw.cell (o + 1) (by omega)
  have z1 := hw.frozen (o + 1)
  have hgl : g < w.heap.size := block_lt hw
  have HW := Aside0.mk hw
  clear hw
  go_enter Try.func58, Try.ntmps58
  go_wp2
  go_end0
  refine ⟨rfl, gb_below (gb_set (p := ⟨g, o + 1, none⟩) (gb_set (p := ⟨g, o, none⟩) (World.grownBy.refl _ _) (.inl rfl) _) (.inl rfl) _) ((Below.refl _ _).alloc (Nat.le_refl _) _), (W8.eq (W8.put0 (W8.put0 (HW.out) _) _) ?_).alloc _⟩
  rw [show le x 2 = [byteAt x 0, byteAt x 1] from by simp [le, List.range_succ]]
  simp only [setL, Nat.add_assoc, Nat.reduceAdd]
  rw [show byteAt x 0 = x % 256 from by simp [byteAt], show byteAt x 1 = x / 256 from by simp [byteAt]; omega]
set_option maxRecDepth 100000 in
set_option maxHeartbeats 4000000 in
theorem putU32 (g o c : Nat) (x : Int) (bs : List Int) (w : World) (hw : W8 w g 5 [] bs) (hn : o + 4 ≤ bs.length) (h0 : 0 ≤ x) (h1 : x < 4294967296) :
    Calls Try.prog 60 #[.agg #[], .slice (some ⟨g, o, none⟩) 4 c, .int .u32 x] w (PutL w g bs o (le x 4)) := by
  have f0 := hw.cell (o) (by omega)
  have z0 := hw.frozen (o)
  have f1 := hw.cell (o + 1) (by omega)
  have z1 := hw.frozen (o + 1)
  have f2 := hw.cell (o + 2) (by omega)
  have z2 := hw.frozen (o + 2)
  have f3 := hw.cell (o + 3) (by omega)
  have z3 := hw.frozen (o + 3)
  have hgl : g < w.heap.size := block_lt hw
  have HW := Aside0.mk hw
  clear hw
  go_enter Try.func60, Try.ntmps60
  go_wp2
  go_end0
  refine ⟨rfl, gb_below (gb_set (p := ⟨g, o + 3, none⟩) (gb_set (p := ⟨g, o + 2, none⟩) (gb_set (p := ⟨g, o + 1, none⟩) (gb_set (p := ⟨g, o, none⟩) (World.grownBy.refl _ _) (.inl rfl) _) (.inl rfl) _) (.inl rfl) _) (.inl rfl) _) ((Below.refl _ _).alloc (Nat.le_refl _) _), (W8.eq (W8.put0 (W8.put0 (W8.put0 (W8.put0 (HW.out) _) _) _) _) ?_).alloc _⟩
  rw [show le x 4 = [byteAt x 0, byteAt x 1, byteAt x 2, byteAt x 3] from by simp [le, List.range_succ]]
  simp only [setL, Nat.add_assoc, Nat.reduceAdd]
  rw [show byteAt x 0 = x % 256 from by simp [byteAt], show byteAt x 1 = x / 256 % 256 from by simp [byteAt], show byteAt x 2 = x / 65536 % 256 from by simp [byteAt], show byteAt x 3 = x / 16777216 from by simp [byteAt]; omega]
set_option maxRecDepth 100000 in
set_option maxHeartbeats 4000000 in
theorem putU64 (g o c : Nat) (x : Int) (bs : List Int) (w : World) (hw : W8 w g 5 [] bs) (hn : o + 8 ≤ bs.length) (h0 : 0 ≤ x) (h1 : x < 18446744073709551616) :
    Calls Try.prog 62 #[.agg #[], .slice (some ⟨g, o, none⟩) 8 c, .int .u64 x] w (PutL w g bs o (le x 8)) := by
  have f0 := hw.cell (o) (by omega)
  have z0 := hw.frozen (o)
  have f1 := hw.cell (o + 1) (by omega)
  have z1 := hw.frozen (o + 1)
  have f2 := hw.cell (o + 2) (by omega)
  have z2 := hw.frozen (o + 2)
  have f3 := hw.cell (o + 3) (by omega)
  have z3 := hw.frozen (o + 3)
  have f4 := hw.cell (o + 4) (by omega)
  have z4 := hw.frozen (o + 4)
  have f5 := hw.cell (o + 5) (by omega)
  have z5 := hw.frozen (o + 5)
  have f6 := hw.cell (o + 6) (by omega)
  have z6 := hw.frozen (o + 6)
  have f7 := hw.cell (o + 7) (by omega)
  have z7 := hw.frozen (o + 7)
  have hgl : g < w.heap.size := block_lt hw
  have HW := Aside0.mk hw
  clear hw
  go_enter Try.func62, Try.ntmps62
  go_wp2
  go_end0
  refine ⟨rfl, gb_below (gb_set (p := ⟨g, o + 7, none⟩) (gb_set (p := ⟨g, o + 6, none⟩) (gb_set (p := ⟨g, o + 5, none⟩) (gb_set (p := ⟨g, o + 4, none⟩) (gb_set (p := ⟨g, o + 3, none⟩) (gb_set (p := ⟨g, o + 2, none⟩) (gb_set (p := ⟨g, o + 1, none⟩) (gb_set (p := ⟨g, o, none⟩) (World.grownBy.refl _ _) (.inl rfl) _) (.inl rfl) _) (.inl rfl) _) (.inl rfl) _) (.inl rfl) _) (.inl rfl) _) (.inl rfl) _) (.inl rfl) _) ((Below.refl _ _).alloc (Nat.le_refl _) _), (W8.eq (W8.put0 (W8.put0 (W8.put0 (W8.put0 (W8.put0 (W8.put0 (W8.put0 (W8.put0 (HW.out) _) _) _) _) _) _) _) _) ?_).alloc _⟩
  rw [show le x 8 = [byteAt x 0, byteAt x 1, byteAt x 2, byteAt x 3, byteAt x 4, byteAt x 5, byteAt x 6, byteAt x 7] from by simp [le, List.range_succ]]
  simp only [setL, Nat.add_assoc, Nat.reduceAdd]
  rw [show byteAt x 0 = x % 256 from by simp [byteAt], show byteAt x 1 = x / 256 % 256 from by simp [byteAt], show byteAt x 2 = x / 65536 % 256 from by simp [byteAt], show byteAt x 3 = x / 16777216 % 256 from by simp [byteAt], show byteAt x 4 = x / 4294967296 % 256 from by simp [byteAt], show byteAt x 5 = x / 1099511627776 % 256 from by simp [byteAt], show byteAt x 6 = x / 281474976710656 % 256 from by simp [byteAt], show byteAt x 7 = x / 72057594037927936 from by simp [byteAt]; omega]
theorem made_fill {α : Type} (f : α → Value) (z : α) (n : Nat) : madeCells #[f z] n = ((fill [] z n).map f).toArray := by
  apply Array.toList_inj.1
  apply List.ext_getElem
  · simp [fill, madeCells]
  · intro i h1 h2
    simp [fill, madeCells, Nat.mod_one]
theorem fill_cell {α : Type} (f : α → Value) (xs : List α) (z : α) (n : Nat) (h : xs.length < n) : (((fill xs z n).map f).toArray)[xs.length]? = some (f z) := by
  simp [fill_get xs z n h]
theorem fill_put {α : Type} (f : α → Value) (xs : List α) (z x : α) (n : Nat) (h : xs.length < n) : (((fill xs z n).map f).toArray).setIfInBounds xs.length (f x) = ((fill (xs ++ [x]) z n).map f).toArray := by
  rw [← fill_set xs z x n h]
  simp [List.map_set]
theorem cell_twice {w : World} {i j : Nat} {u x y : Value} (h : w.cell? ⟨j, 0, none⟩ = some x) : ((w.setCell ⟨i, 0, none⟩ u).setCell ⟨j, 0, none⟩ y).cell? ⟨j, 0, none⟩ = some y := by
  by_cases e : i = j
  · subst e
    exact World.cell?_setCell_same _ _ _ (World.cell?_setCell_same _ _ _ h)
  · refine World.cell?_setCell_same _ _ _ (u := x) ?_
    rw [World.cell?_setCell_other _ _ _ _ (fun h => e (by injection h))]
    exact h
theorem take_one (l : List Int) (k : Nat) (h : k < l.length) : l.take (k + 1) = l.take k ++ [l.getD k 0] := by
  rw [List.take_succ_eq_append_getElem h]
  simp [List.getD_eq_getElem?_getD, List.getElem?_eq_getElem h]
/-- All numbers of a list, each as its bytes. -/
def bytesL (b : Nat) (l : List Int) : List Int := l.flatMap (fun x => le x b)
theorem bytesL_len (b : Nat) : ∀ l : List Int, (bytesL b l).length = l.length * b
  | [] => by simp [bytesL]
  | x :: l => by
    have := bytesL_len b l
    unfold bytesL at this ⊢
    rw [List.flatMap_cons, List.length_append, this, le_len, List.length_cons, Nat.succ_mul]
    omega
theorem bytesL_snoc (b : Nat) (l : List Int) (k : Nat) (h : k < l.length) : bytesL b (l.take (k + 1)) = bytesL b (l.take k) ++ le (l.getD k 0) b := by
  rw [take_one l k h]
  simp [bytesL]
theorem bytesL_at (b : Nat) (l : List Int) (k : Nat) (h : k < l.length) : ((bytesL b l).drop (b * k)).take b = le (l.getD k 0) b := by
  have e1 : bytesL b l = bytesL b (l.take k) ++ bytesL b (l.drop k) := by unfold bytesL; rw [← List.flatMap_append, List.take_append_drop]
  have e2 : (bytesL b (l.take k)).length = b * k := by rw [bytesL_len, List.length_take, Nat.min_eq_left (by omega), Nat.mul_comm]
  rw [e1, ← e2, List.drop_left, List.drop_eq_getElem_cons h]
  unfold bytesL
  rw [List.flatMap_cons]
  have e3 : l[k] = l.getD k 0 := by simp [List.getD_eq_getElem?_getD, List.getElem?_eq_getElem h]
  rw [e3]
  have := @List.take_left _ (le (l.getD k 0) b) (List.flatMap (fun x => le x b) (l.drop (k + 1)))
  rwa [le_len] at this
/-- b[i*n:i*n+n] of a row of bytes that are read. -/
theorem mid_at {w : World} {A : Option Addr} {n : Nat} {xs : List Int} (h : ReadsOf (Value.int .u8) (0 : Int) w A n xs) (c p z : Nat) (hj : p + z ≤ n) (hc : n ≤ c) :
    ∃ A', (∀ W : World, (Instr.slice 24 (.slice A n c) (some (.int .i64 (p : Int))) (some (.int .i64 ((p : Int) + z))) none).run Try.prog W = .ok (.slice A' z (c - p)) W) ∧ ∀ w1, Below w.heap.size w w1 → ReadsOf (Value.int .u8) (0 : Int) w1 A' z ((xs.drop p).take z) := by
  obtain ⟨i, hi, hs⟩ := info5p
  obtain ⟨rfl, _⟩ : xs.length = n ∧ True := ⟨h.1, trivial⟩
  obtain ⟨A', h1, h2, h3⟩ := print_mid_of (P := Try.prog) (Value.int .u8) 0 24 5 .i64 .i64 Try.underlying24 hi hs A c xs (p : Int) ((p : Int) + z) (by omega) (by omega) (by omega) hc
  have e1 : ((p : Int) + z).toNat = p + z := by omega
  have e2 : (xs.take (p + z)).drop p = (xs.drop p).take z := by rw [List.drop_take, Nat.add_sub_cancel_left]
  have e3 : ((xs.drop p).take z).length = z := by rw [List.length_take, List.length_drop]; omega
  rw [Int.toNat_natCast, e1, e2, e3] at h1 h2
  exact ⟨A', h1, fun w1 hb => h2 w1 (ReadsOf.below h hb)⟩
/-- b[i*n:i*n+n] of a row of bytes that are written. -/
theorem mid8 (g n p z : Nat) (hj : p + z ≤ n) (hz : 0 < z) (W : World) : (Instr.slice 24 (.slice (some ⟨g, 0, none⟩) n n) (some (.int .i64 (p : Int))) (some (.int .i64 ((p : Int) + z))) none).run Try.prog W = .ok (.slice (some ⟨g, p, none⟩) z (n - p)) W := by
  obtain ⟨i, hi, hs⟩ := info5p
  have hel : Try.prog.elem 24 = 5 := by simp [Program.elem, Try.underlying24]
  have hu : Try.prog.underlying 24 = some (.slice (Try.prog.elem 24)) := by rw [hel]; exact Try.underlying24
  rw [run_slice_lh W 24 (some ⟨g, 0, none⟩) n n hu .i64 .i64 (p : Int) ((p : Int) + z) (by omega) (by omega) (by omega), hel]
  have e1 : ((p : Int) + z).toNat = p + z := by omega
  rw [e1, Int.toNat_natCast]
  simp [sizeOf, typeInfo, hi, hs, sliced, Result.andThen, Addr.add]
  rw [if_neg (by omega)]
  by_cases h0 : p = 0
  · subst h0; simp
  · simp [h0]
theorem getD_mid {α : Type} (xs : List α) (d : α) (p z j : Nat) (hj : j < z) : ((xs.drop p).take z).getD j d = xs.getD (p + j) d := by
  simp only [List.getD_eq_getElem?_getD, List.getElem?_take, if_pos hj, List.getElem?_drop]
theorem reads_mid {α : Type} {enc : α → Value} {d : α} {w : World} {a : Addr} {n : Nat} {xs : List α} (h : ReadsOf enc d w (some a) n xs) (p z : Nat) (hpz : p + z ≤ n) : ReadsOf enc d w (some (a.add p)) z ((xs.drop p).take z) := by
  obtain ⟨h1, h2, h3⟩ := h
  refine ⟨by rw [List.length_take, List.length_drop]; omega, by omega, fun hz => ⟨_, rfl, fun j hj => ?_⟩⟩
  obtain ⟨a', e, hc⟩ := h3 (by omega)
  cases e
  rw [add_add, hc (p + j) (by omega), getD_mid _ _ _ _ _ hj]
/-- A row of the call's own is handed back, whole. -/
def Fresh (enc : Int → Value) (ET : TypeId) (l : List Int) (m : Nat) (w : World) (e : Ending) (w' : World) : Prop :=
  ∃ q, w.heap.size ≤ q ∧ e = .returned (.slice (some ⟨q, 0, none⟩) m m) ∧ w'.heap[q]? = some (.cells (l.map enc).toArray ET (0, 0)) ∧ Below w.heap.size w w'
theorem below_undrew {B : Nat} {w w1 : World} (h : Below B w.drew w1) : Below B w w1 := (Below.refl B w).drew.trans h
theorem full_at {w : World} {p n k z : Nat} {xs : List Int} (h : W8 w p 5 [] (fill (bytesL z (xs.take k)) 0 n)) (hk : xs.length ≤ k) (hn : n = xs.length * z) : W8 w p 5 [] (bytesL z xs) := by
  rw [List.take_of_length_le hk] at h
  have e2 : n = (bytesL z xs).length := by rw [bytesL_len, hn]
  rw [e2, fill_all] at h
  exact h
/-- All is written. -/
def Written (p : Nat) (bs : List Int) (w : World) (e : Ending) (w' : World) : Prop := e = .returned (.tuple #[]) ∧ w.grownBy w' (some p) ∧ W8 w' p 5 [] bs

end Go.Proofs.Ytldkpgjpfhoekaa.Join
