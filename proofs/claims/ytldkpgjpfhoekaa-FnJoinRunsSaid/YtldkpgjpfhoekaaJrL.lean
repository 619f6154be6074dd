/- The parts as data. -/
import Derived.Test.YtldkpgjpfhoekaaJrK
namespace Go.Proofs.Ytldkpgjpfhoekaa.Join
open Go.RowKit Go.Proofs.YtldkpgjpfhoekaaW.PrintWords Go.Proofs.YtldkpgjpfhoekaaW.PrintLast Go.Proofs.YtldkpgjpfhoekaaW.PrintMore
set_option linter.unusedVariables false
set_option linter.unusedSimpArgs false

/-- The parts' bytes stand. -/
def Bts (w : World) (ps : List Pt) (bs : List (List Int)) : Prop := bs.length = ps.length ∧ ∀ j, j < ps.length → ReadsOf (Value.int .u8) (0 : Int) w (gp ps j).A (gp ps j).n (bs.getD j []) ∧ (gp ps j).n ≤ (gp ps j).c ∧ (gp ps j).n ≤ 100000
theorem Bts.below {w w1 : World} {ps : List Pt} {bs : List (List Int)} (h : Bts w ps bs) (hb : Below w.heap.size w w1) : Bts w1 ps bs :=
  ⟨h.1, fun j hj => ⟨(h.2 j hj).1.below hb, (h.2 j hj).2⟩⟩
theorem up3 {w w2 : World} {o1 o2 o3 : Obj} (h : Below (((w.alloc o1).alloc o2).alloc o3).heap.size (((w.alloc o1).alloc o2).alloc o3) w2) : Below w.heap.size w w2 :=
  ((((Below.refl _ _).alloc (Nat.le_refl _) _).alloc (by simp) _).alloc (by simp; omega) _).trans (h.mono (by simp; omega))
theorem up3_le (w : World) (o1 o2 o3 : Obj) : w.heap.size ≤ (((w.alloc o1).alloc o2).alloc o3).heap.size := by simp; omega
theorem last3 (w : World) (o1 o2 : Obj) (v : Value) (T : TypeId) : (((w.alloc o1).alloc o2).alloc (.cells #[v] T)).cell? ⟨w.heap.size + 1 + 1, 0, none⟩ = some v := by
  have h := blk_cell (heap_alloc_new ((w.alloc o1).alloc o2) (.cells #[v] T)) 0
  simpa using h
theorem first3 (w : World) (o1 o2 o3 : Obj) : (((w.alloc o1).alloc o2).alloc o3).heap[w.heap.size]? = some o1 := by
  have h := (Below.heap_alloc ((w.alloc o1).alloc o2) o3 w.heap.size (by simp; omega)).trans ((Below.heap_alloc (w.alloc o1) o2 w.heap.size (by simp)).trans (heap_alloc_new w o1))
  exact h
theorem one_up {w : World} {g : Nat} {o o1 : Obj} (h : w.heap[g]? = some o) : (w.alloc o1).heap[g]? = some o := (Below.heap_alloc w o1 g (block_lt h)).trans h
theorem two_up {w : World} {g : Nat} {o o1 o2 : Obj} (h : w.heap[g]? = some o) : ((w.alloc o1).alloc o2).heap[g]? = some o := one_up (one_up h)
def Stop (G : Prop) : Prop := G
theorem stopHere {G : Prop} (h : Stop G) : G := h
def offLen (p : Pt) : Int × Int := (p.off, p.len)
def RetD (ps : List Pt) (w : World) (e : Ending) (w' : World) : Prop := ∃ v, e = .returned v ∧ Kd.R kD 68 w' w.heap.size (fun _ => True) v (ps.map offLen) ∧ Below w.heap.size w w'
theorem map_snoc {α β : Type} (f : α → β) (ps : List α) (k : Nat) (z : α) (h : k < ps.length) : (ps.take (k + 1)).map f = (ps.take k).map f ++ [f (ps.getD k z)] := by
  rw [List.take_add_one, List.getElem?_eq_getElem h, List.getD_eq_getElem?_getD, List.getElem?_eq_getElem h, List.map_append]
  rfl
section
variable {P : Program} {ops : Array Oper} {rest : List Oper} {o : Oper} {a : Act} {Q : Exit → Act → World → Prop}
theorem appD {w0 W : World} (base : Nat) (hgd : o.guard = none) (s x : Operand)
    (ho : o.op = .call { callee := .builtin .append, args := #[s, x], argTypes := #[45, 45] })
    (v : Value) (xs : List (Int × Int)) (d : Nat) (off len : Int) (hs : a.eval s = v) (hx : a.eval x = .slice (some ⟨W.heap.size, 0, none⟩) 1 1) (hd : IsData W d off len) (hbd : base ≤ d)
    (HO : Kd.R kD 68 W base (fun _ => True) v xs) (HB : Below base w0 W) (hbase : base ≤ W.heap.size) (hl : xs.length ≤ 1000)
    (h : ∀ v1 w1, Kd.R kD 68 w1 base (fun _ => True) v1 (xs ++ [(off, len)]) → Below base w0 w1 → wpList Try.prog ops Q rest (a.put o.dst v1) w1) :
    wpList Try.prog ops Q (o :: rest) a (W.alloc (.cells #[.iface 58 (.pointer (some ⟨d, 0, none⟩))] 68)) := by
  obtain ⟨T, b, hh⟩ := hd
  have hne := Kd.R_ne HO hh (by decide)
  exact Kd.R_append kD base hgd s x 45 68 .nilIface 16 ho Try.underlying45 info68 rfl (by decide) (by omega) v xs (off, len) [ifc d] (fun _ => True) (fun k => k = d) hs hx ⟨d, rfl, ⟨T, b, hh⟩, rfl, hbd⟩ (fun k hk => ⟨trivial, by rw [hk]; exact hne⟩) (fun _ _ => trivial) HO HB hbase (by omega) (fun v1 w1 h1 h2 _ _ => h v1 w1 h1 h2)
theorem appB {w0 W : World} (base : Nat) (hgd : o.guard = none) (s x : Operand)
    (ho : o.op = .call { callee := .builtin .append, args := #[s, x], argTypes := #[38, 38] })
    (v : Value) (xs : List (List Int)) (b : Nat) (B : Option Addr) (c : Nat) (y : List Int) (hs : a.eval s = v) (hx : a.eval x = .slice (some ⟨W.heap.size, 0, none⟩) 1 1) (hb : IsBuf W b B y.length c) (hbb : base ≤ b)
    (hr : Kd.R (Kd.int .u8) 5 W base (fun _ => True) (.slice B y.length c) y)
    (HO : Kd.R kB 39 W base (fun _ => True) v xs) (HB : Below base w0 W) (hbase : base ≤ W.heap.size) (hl : xs.length ≤ 1000)
    (h : ∀ v1 w1, Kd.R kB 39 w1 base (fun _ => True) v1 (xs ++ [y]) → Below base w0 w1 → wpList Try.prog ops Q rest (a.put o.dst v1) w1) :
    wpList Try.prog ops Q (o :: rest) a (W.alloc (.cells #[.pointer (some ⟨b, 0, none⟩)] 39)) := by
  have hne := Kd.R_ne HO hb (by decide)
  refine Kd.R_append kB base hgd s x 38 39 (.pointer none) 8 ho Try.underlying38 info39 rfl (by decide) (by omega) v xs y [.pointer (some ⟨b, 0, none⟩)] (fun _ => True) (fun k => some k ≠ v.ownBlock) hs hx ⟨b, B, c, rfl, hb, hne, hbb, Kd.R_mono (Kd.R_bound hr) ?_⟩ (fun k hk => ⟨trivial, hk⟩) (fun _ _ => trivial) HO HB hbase (by omega) (fun v1 w1 h1 h2 _ _ => h v1 w1 h1 h2)
  rintro k ⟨_, _, _, q, hq, cells, hc⟩
  have hq5 : q = 5 := by simpa [Kd.int, Kd.scalar] using hq
  subst hq5
  exact Kd.R_ne HO hc (by decide)
end
set_option maxRecDepth 100000 in
set_option maxHeartbeats 4000000 in
theorem partsOf (A : Option Addr) (n c : Nat) (ps : List Pt) (bs : List (List Int)) (w : World) (h : Kd.C kP w A n ps) (hb : Bts w ps bs) (hn : n ≤ 1000) :
    Calls Try.prog 14 #[.slice A n c] w (RetD ps w) := by
  have hpl : ps.length = n := h.1
  have HP := Aside0.mk h
  have HT := Aside0.mk hb
  clear h hb
  go_enter Try.func14, Try.ntmps14
  go_wp2_with fail
  go_loopw [3, 9] (fun o i wr => ∃ k : Nat, k ≤ n ∧ i = .int .i64 k ∧ Aside0 (Kd.R kD 68 wr w.heap.size (fun _ => True) o ((ps.take k).map offLen)) ∧ Aside0 (Below w.heap.size w wr)) (fun _ i _ => n - (intOf i).toNat)
  case atStart => exact ⟨0, Nat.zero_le _, rfl, ⟨by simpa using Kd.R_nil _ _ _ _ _⟩, ⟨Below.refl _ _⟩⟩
  case round =>
    obtain ⟨k, hk, rfl, HO, HB⟩ := hrel
    by_cases hlt : k < n
    · obtain ⟨ad, rfl, c0, c1, c2, c3⟩ := at_P (Kd.C_below HP.out HB.out) k hlt
      have hk' : k < ps.length := by omega
      have HS := Aside0.mk (map_snoc offLen ps k pt0 hk')
      rw [show ps.getD k pt0 = gp ps k from rfl] at HS
      obtain ⟨r1, r2, r3⟩ := HT.out.2 k hk'
      have HR := Aside0.mk (r1.below HB.out)
      have hmn := r2
      have hmx := r3
      clear r1 r2 r3
      generalize gp ps k = p at c0 c1 c2 c3 HS HR hmn hmx
      rcases p with ⟨has, pA, pn, pc, off, len⟩
      dsimp only at c0 c1 c2 c3 HR hmn hmx
      have HL := Aside0.mk (show ((ps.take k).map offLen).length ≤ 1000 by rw [List.length_map, List.length_take]; omega)
      cases has with
      | false =>
        go_wp2_with (first
          | (go_at_call 17
             refine (newData (some ⟨wr.heap.size + 1, 0, none⟩) len off ⟨wr.heap.size + 1 + 1, 0, none⟩ none (((wr.alloc (.cells #[.bool false, .slice pA pn pc, .int .i64 off, .int .i64 len] 28)).alloc (.cells #[] 61)).alloc (.cells #[.pointer none] 39)) (last3 _ _ _ _ _) (.inl rfl)).mono ?_
             rintro e w2 ⟨rfl, hd, hb2⟩
             have HD := Aside0.mk (show IsData w2 (wr.heap.size + 1 + 1 + 1) off len by simpa using hd)
             have HB2 := Aside0.mk (up3 hb2)
             clear hd hb2)
          | (have hg := HB2.out; clear hg; (with_reducible refine gate_builtin (b := .append) (xs := #[.tmp 19, .tmp 31]) rfl ?_); at_builtin
             refine appD (w0 := w) w.heap.size rfl (.tmp 19) (.tmp 31) rfl _ ((ps.take k).map offLen) (wr.heap.size + 1 + 1 + 1) off len rfl rfl HD.out (by have := HB.out.size; omega) (Kd.R_below HO.out HB2.out) (HB.out.trans (HB2.out.mono HB.out.size)) (Nat.le_trans HB.out.size HB2.out.size) HL.out ?_
             intro v4 w4 ho4 hb4
             have HO4 := Aside0.mk ho4
             have HB4 := Aside0.mk hb4
             clear ho4 hb4))
        go_roundw
        case rel => exact ⟨k + 1, by omega, by go_num, by rw [HS.out]; exact HO4, HB4⟩
        case measure => simp [intOf]; omega
      | true =>
        generalize bs.getD k [] = y at HR
        go_wp2_with (first
          | (go_at_call 12
             refine (copied_any pA pn pc y (wr.alloc (.cells #[.bool true, .slice pA pn pc, .int .i64 off, .int .i64 len] 28)) (Kd.C_of_reads (d := 0) (HR.out.below ((Below.refl _ _).alloc (Nat.le_refl _) _))) (by omega)).mono ?_
             rintro e w1 ⟨v1, rfl, hr1, hb1⟩
             obtain ⟨A1, c1, rfl, hc1, _⟩ := Kd.R_reads hr1
             have HB1 := Aside0.mk (((Below.refl _ _).alloc (Nat.le_refl wr.heap.size) _).trans (hb1.mono (by simp)))
             have hbk := (hb1.block wr.heap.size (by simp)).trans (heap_alloc_new wr (.cells #[.bool true, .slice pA pn pc, .int .i64 off, .int .i64 len] 28))
             have q3 : ((w1.alloc (.cells (bufCells A1 y.length c1) 57)).alloc (.cells #[] 61)).cell? ⟨wr.heap.size, 3, none⟩ = some (.int .i64 len) := (blk_cell (two_up hbk) 3)
             have q2 : (((w1.alloc (.cells (bufCells A1 y.length c1) 57)).alloc (.cells #[] 61)).alloc (.cells #[.pointer (some ⟨w1.heap.size, 0, none⟩)] 39)).cell? ⟨wr.heap.size, 2, none⟩ = some (.int .i64 off) := (blk_cell (one_up (two_up hbk)) 2)
             clear hr1 hb1 hbk)
          | (have hg := HB1.out; clear hg; go_at_call 11
             refine (newBuf A1 y.length c1 w1).mono ?_
             rintro e w2 ⟨rfl, rfl⟩)
          | (have hg := HB1.out; clear hg; go_at_call 17
             refine (newData (some ⟨w1.heap.size + 1, 0, none⟩) len off ⟨w1.heap.size + 1 + 1, 0, none⟩ (some ⟨w1.heap.size, 0, none⟩) (((w1.alloc (.cells (bufCells A1 y.length c1) 57)).alloc (.cells #[] 61)).alloc (.cells #[.pointer (some ⟨w1.heap.size, 0, none⟩)] 39)) (last3 _ _ _ _ _) (.inr ⟨_, _, _, _, rfl, first3 _ _ _ _⟩)).mono ?_
             rintro e w2 ⟨rfl, hd, hb2⟩
             have HD := Aside0.mk (show IsData w2 (w1.heap.size + 1 + 1 + 1) off len by simpa using hd)
             have HB2 := Aside0.mk (HB1.out.trans ((up3 hb2).mono HB1.out.size))
             have hsz := HB1.out.size
             clear hd hb2)
          | (have hg := HB2.out; clear hg; (with_reducible refine gate_builtin (b := .append) (xs := #[.tmp 19, .tmp 31]) rfl ?_); at_builtin
             refine appD (w0 := w) w.heap.size rfl (.tmp 19) (.tmp 31) rfl _ ((ps.take k).map offLen) (w1.heap.size + 1 + 1 + 1) off len rfl rfl HD.out (by have := HB.out.size; omega) (Kd.R_below HO.out HB2.out) (HB.out.trans (HB2.out.mono HB.out.size)) (Nat.le_trans HB.out.size HB2.out.size) HL.out ?_
             intro v4 w4 ho4 hb4
             have HO4 := Aside0.mk ho4
             have HB4 := Aside0.mk hb4
             clear ho4 hb4))
        show Stop _
        go_roundw
        case rel => exact ⟨k + 1, by omega, by go_num, by rw [HS.out]; exact HO4, HB4⟩
        case measure => simp [intOf]; omega
    · obtain rfl : k = n := by omega
      go_wp2_with fail
      go_ret
      refine ⟨_, rfl, ?_, HB.out⟩
      have := HO.out
      rwa [List.take_of_length_le (by omega)] at this

end Go.Proofs.Ytldkpgjpfhoekaa.Join
