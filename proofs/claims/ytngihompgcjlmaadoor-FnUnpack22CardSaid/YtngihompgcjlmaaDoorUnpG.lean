/- Statements that tell a number, over a frame of which few slots are known: what each makes of memory. -/
import Derived.Test.YtngihompgcjlmaaDoorUnpS
import Derived.StillTailTactics
namespace Go.Proofs.YtngihompgcjlmaaDoor.Unp
open Go.RowKit Go.Proofs.YtngihompgcjlmaaDoorW.PrintWords Go.Proofs.YtngihompgcjlmaaDoorW.PrintLast Go.Proofs.YtngihompgcjlmaaDoorW.PrintMore
set_option linter.unusedVariables false
set_option linter.unusedSimpArgs false

structure Fr (N g p o : Nat) (a : Act) : Prop where
  size : a.tmps.size = N
  t0 : a.tmps.getD 0 undef = .iface 34 (.pointer (some ⟨g, 0, none⟩))
  t1 : a.tmps.getD 1 undef = .slice (some ⟨o, 0, none⟩) 32 32
  t4 : a.tmps.getD 4 undef = .pointer (some ⟨p, 0, none⟩)
  df : a.defers = []
theorem get_same (a : Act) (s : Nat) (v : Value) (h : s < a.tmps.size) : (a.put (some s) v).tmps.getD s undef = v := by
  simp [Act.put, Array.getD_eq_getD_getElem?, h]
theorem get_other (a : Act) (s t : Nat) (v : Value) (h : s ≠ t) : (a.put (some s) v).tmps.getD t undef = a.tmps.getD t undef := by
  simp [Act.put, Array.getD_eq_getD_getElem?, Array.getElem?_setIfInBounds, h]
theorem Fr.put {N g p o : Nat} {a : Act} (h : Fr N g p o a) (s : Nat) (v : Value) (hs : 5 ≤ s) : Fr N g p o (a.put (some s) v) :=
  ⟨by simp [Act.put, h.size], by rw [get_other _ _ _ _ (by omega)]; exact h.t0, by rw [get_other _ _ _ _ (by omega)]; exact h.t1, by rw [get_other _ _ _ _ (by omega)]; exact h.t4, h.df⟩
theorem st_value {P : Program} {ops : Array Oper} {Q : Exit → Act → World → Prop} {a : Act} {w w' : World} {rest : List Oper} {o : Oper} {v : Value} (hg : o.guard = none) (hr : (execOp a.eval o).run P w = .ok (.value v) w') (h : wpList P ops Q rest (a.put o.dst v) w') : wpList P ops Q (o :: rest) a w :=
  wpList_plain hg fun K hK => by
    unfold Oper.wp
    rw [hr]
    exact hK _ _ h
theorem st_skip {P : Program} {ops : Array Oper} {Q : Exit → Act → World → Prop} {a : Act} {w w' : World} {rest : List Oper} {o : Oper} (hg : o.guard = none) (hr : (execOp a.eval o).run P w = .ok .skip w') (h : wpList P ops Q rest (a.put o.dst undef) w') : wpList P ops Q (o :: rest) a w :=
  wpList_plain hg fun K hK => by
    unfold Oper.wp
    rw [hr]
    exact hK _ _ h
theorem sl_value {P : Program} {ops : Array Oper} {Q : Act → Prop} {a : Act} {w : World} {rest : List Oper} {o : Oper} {v : Value} (hg : o.guard = none) (hr : (execOp a.eval o).run P w = .ok (.value v) w) (h : wpStill P ops w Q rest (a.put o.dst v)) : wpStill P ops w Q (o :: rest) a :=
  wpStill_step fun K hK => by
    simp only [Region.wanted, hg, if_true, Oper.still, hr, Oper.stillUpon]
    exact ⟨trivial, hK _ h⟩
section
variable {a : Act} {W : World}
theorem run_move' {s t : Nat} {T : TypeId} {pos : String} {af : Array Edge} {v : Value} (hv : a.tmps.getD t undef = v) : (execOp a.eval ⟨some s, .move (.tmp t), T, pos, af, none⟩).run Tryd.prog W = .ok (.value v) W := by
  subst hv; simp [execOp, go_sem, Act.eval]
theorem run_load' {s t : Nat} {T : TypeId} {pos : String} {af : Array Edge} {b k : Nat} {x : Int} (hv : a.tmps.getD t undef = .pointer (some ⟨b, k, none⟩)) (hc : W.cell? ⟨b, k, none⟩ = some (.int .u32 x)) : (execOp a.eval ⟨some s, .load 30 (.tmp t), T, pos, af, none⟩).run Tryd.prog W = .ok (.value (.int .u32 x)) W := by
  simp [execOp, go_sem, Act.eval, hv, hc]
theorem run_shr' {s t : Nat} {T : TypeId} {pos : String} {af : Array Edge} {x : Int} {k : Nat} (hk : k ≤ 32) (hv : a.tmps.getD t undef = .int .u32 x) : (execOp a.eval ⟨some s, .binOp .shr 30 (.tmp t) (.const (.int .u64 k)) 46, T, pos, af, none⟩).run Tryd.prog W = .ok (.value (.int .u32 (x / 2 ^ k))) W := by
  simp [execOp, go_sem, Act.eval, hv]
  try (unfold shr; simp [IntKind.bits, Nat.min_eq_left hk])
theorem run_rem' {s t : Nat} {T : TypeId} {pos : String} {af : Array Edge} {x M : Int} (hM : 0 < M) (hx : 0 ≤ x) (hv : a.tmps.getD t undef = .int .u32 x) : (execOp a.eval ⟨some s, .binOp .rem 30 (.tmp t) (.const (.int .u32 M)) 30, T, pos, af, none⟩).run Tryd.prog W = .ok (.value (.int .u32 (x % M))) W := by
  have h0 : ¬ M = 0 := by omega
  simp [execOp, go_sem, Act.eval, hv, h0, Int.tmod_eq_emod_of_nonneg hx]
theorem run_shl' {s t : Nat} {T : TypeId} {pos : String} {af : Array Edge} {x : Int} {k : Nat} (hk : k ≤ 32) (hx : 0 ≤ x) (hlt : x * 2 ^ k < 4294967296) (hv : a.tmps.getD t undef = .int .u32 x) : (execOp a.eval ⟨some s, .binOp .shl 30 (.tmp t) (.const (.int .u64 k)) 46, T, pos, af, none⟩).run Tryd.prog W = .ok (.value (.int .u32 (x * 2 ^ k))) W := by
  have hp := p2_pos k
  have h0 : 0 ≤ x * 2 ^ k := Int.mul_nonneg hx (by omega)
  have hw : IntKind.u32.wrap (x * 2 ^ k) = x * 2 ^ k := by rw [IntKind.wrap_u32]; exact Int.emod_eq_of_lt h0 hlt
  simp [execOp, go_sem, Act.eval, hv]
  first | done | (unfold shl; simp [IntKind.bits, Nat.min_eq_left hk, hw]) | (simp [hw]) | (rw [Int.emod_eq_of_lt h0 hlt]) | (exfalso; omega)
theorem run_or' {s t u : Nat} {T : TypeId} {pos : String} {af : Array Edge} {x y : Int} (hv : a.tmps.getD t undef = .int .u32 x) (hu : a.tmps.getD u undef = .int .u32 y) : (execOp a.eval ⟨some s, .binOp .or 30 (.tmp t) (.tmp u) 30, T, pos, af, none⟩).run Tryd.prog W = .ok (.value (.int .u32 (Go.bits .or .u32 x y))) W := by
  simp [execOp, go_sem, Act.eval, hv, hu]
theorem run_index' {s t : Nat} {T : TypeId} {pos : String} {af : Array Edge} {o : Nat} {j : Nat} (hj : j < 32) (hv : a.tmps.getD t undef = .slice (some ⟨o, 0, none⟩) 32 32) : (execOp a.eval ⟨some s, .indexAddr 23 (.tmp t) (.const (.int .i64 j)), T, pos, af, none⟩).run Tryd.prog W = .ok (.value (.pointer (some ⟨o, j, none⟩))) W := by
  simp [execOp, go_sem, Act.eval, hv]
  try (intro h; omega)
theorem run_store' {t u : Nat} {T : TypeId} {pos : String} {af : Array Edge} {b k : Nat} {v : Int} {z : Value} (ht : a.tmps.getD t undef = .pointer (some ⟨b, k, none⟩)) (hu : a.tmps.getD u undef = .int .u32 v) (hc : W.cell? ⟨b, k, none⟩ = some z) (hf : W.frozen? ⟨b, k, none⟩ = false) : (execOp a.eval ⟨none, .store 30 (.tmp t) (.tmp u), T, pos, af, none⟩).run Tryd.prog W = .ok .skip (W.setCell ⟨b, k, none⟩ (.int .u32 v)) := by
  simp [execOp, go_sem, Act.eval, ht, hu, hc, hf]
end
theorem run_call' {a : Act} {W : World} {s : Nat} {T2 : TypeId} {p2 : String} {f2 : Array Edge} {x y : Value} (e1 : a.tmps.getD s undef = x) (e2 : a.tmps.getD 4 undef = y) : (execOp a.eval ⟨some (s + 1), .call { callee := .value (.func 40), args := #[.tmp s, .tmp 4], argTypes := #[41, 45] }, T2, p2, f2, none⟩).run Tryd.prog W = .ok (.enter 40 #[x, y]) W := by
  simp [execOp, go_sem, Act.eval, e1, e2]
/-! statements -/
theorem frStart (N g p o : Nat) (hN : 5 ≤ N) : Fr N g p o (Act.put { tmps := #[.iface 34 (.pointer (some ⟨g, 0, none⟩)), .slice (some ⟨o, 0, none⟩) 32 32] ++ Array.replicate (N - 2) undef, defers := [] } (some 4) (.pointer (some ⟨p, 0, none⟩))) := by
  refine ⟨?_, ?_, ?_, ?_, rfl⟩
  · simp [Act.put]; omega
  · rw [get_other _ _ _ _ (by omega), Array.getD_eq_getD_getElem?, Array.getElem?_append_left (by simp)]; rfl
  · rw [get_other _ _ _ _ (by omega), Array.getD_eq_getD_getElem?, Array.getElem?_append_left (by simp)]; rfl
  · rw [get_same _ _ _ (by simp; omega)]
section
variable {w0 : World} {N g o p : Nat} {A : Addr} {n c : Nat} {l : List Int} {w m j : Nat} {q x half : Int} {W : World} {a : Act} {Q : Exit → Act → World → Prop} {id : Nat} {T1 T2 T3 T4 T5 T6 T7 T8 T9 : TypeId} {p1 p2 p3 p4 p5 p6 p7 p8 p9 : String} {f1 f2 f3 f4 f5 f6 f7 f8 f9 : Array Edge} {s k0 : Nat}
theorem st_alloc (hF : ∀ a' : Act, a' = a.put (some 4) (.pointer (some ⟨W.heap.size, 0, none⟩)) → Q .normal a' (W.alloc (.cells #[.int .u32 0] 30))) :
    (Code.region id #[⟨some 4, .alloc 30, T1, p1, f1, none⟩] false).wp Tryd.prog Q a W := by
  refine wp_region_lit (st_value (v := .pointer (some ⟨W.heap.size, 0, none⟩)) (w' := W.alloc (.cells #[.int .u32 0] 30)) rfl (by simp [execOp, go_sem]) (wpList_nil (hF _ rfl)))
theorem st_call (hF : Fr N g p o a) (hs : 5 ≤ s) (hsN : s < N) (hS : St w0 g o p A n c l w m j q x half W) (HC : (Kd.int .u8).C w0 (some A) n l) (HL : l.length = n) (HT : Byt l) (hn : 4 * m + 4 ≤ n) (hc : n ≤ c) (hcm : c ≤ 9223372036854775807) (hg : w0.heap.size ≤ g) (hp : w0.heap.size ≤ p) (hgp : g ≠ p) (hgo : g ≠ o) (hpo : p ≠ o)
    (h : ∀ a' W', Fr N g p o a' → St w0 g o p A n c l w (m + 1) j (-1) (word (num l) m) half W' → Q .normal a' W') :
    (Code.region id #[⟨some s, .move (.tmp 0), T1, p1, f1, none⟩, ⟨some (s + 1), .call { callee := .value (.func 40), args := #[.tmp s, .tmp 4], argTypes := #[41, 45] }, T2, p2, f2, none⟩] false).wp Tryd.prog Q a W := by
  have hF1 := hF.put s (.iface 34 (.pointer (some ⟨g, 0, none⟩))) hs
  have e1 := get_same a s (.iface 34 (.pointer (some ⟨g, 0, none⟩))) (by rw [hF.size]; exact hsN)
  refine wp_region_lit (st_value rfl (run_move' hF.t0) (wpList_plain rfl fun K hK => ?_))
  unfold Oper.wp
  rw [run_call' e1 hF1.t4, Oper.upon_enter]
  refine (St.next (m := m) hS HC HL HT hn hc hcm hg hp hgp hgo hpo).mono ?_
  rintro e W' ⟨rfl, hs'⟩
  exact hK _ _ (wpList_nil (h _ _ (hF1.put (s + 1) _ (by omega)) hs'))
theorem st_in (hF : Fr N g p o a) (hs : 5 ≤ s) (hsN : s + 4 < N) (hS : St w0 g o p A n c l w (m + 1) j q (word (num l) m) half W) (hgo : g ≠ o) (hpo : p ≠ o) (ho : w0.heap.size ≤ o) (k : Nat) (kk jj M : Int) (hkk : kk = (k : Int)) (hjj : jj = (j : Int)) (hM : M = 2 ^ w) (hj : j < 32) (hkj : w * j = 32 * m + k) (hle : k + w ≤ 32)
    (h : ∀ a' W', Fr N g p o a' → St w0 g o p A n c l w (m + 1) (j + 1) q (word (num l) m) 0 W' → Q .normal a' W') :
    (Code.region id #[⟨some s, .move (.tmp 1), T1, p1, f1, none⟩, ⟨some (s + 1), .load 30 (.tmp 4), T2, p2, f2, none⟩, ⟨some (s + 2), .binOp .shr 30 (.tmp (s + 1)) (.const (.int .u64 kk)) 46, T3, p3, f3, none⟩,
      ⟨some (s + 3), .binOp .rem 30 (.tmp (s + 2)) (.const (.int .u32 M)) 30, T4, p4, f4, none⟩, ⟨some (s + 4), .indexAddr 23 (.tmp s) (.const (.int .i64 jj)), T5, p5, f5, none⟩, ⟨none, .store 30 (.tmp (s + 4)) (.tmp (s + 3)), T6, p6, f6, none⟩] false).wp Tryd.prog Q a W := by
  subst hkk
  subst hjj
  subst hM
  have hz := hF.size
  have hw := word_bd (num l) m
  have hp2 := p2_pos k
  have hp3 := p2_pos w
  refine wp_region_lit (st_value rfl (run_move' hF.t1) ?_)
  have F1 := hF.put s (.slice (some ⟨o, 0, none⟩) 32 32) hs
  have d1 := get_same a s (.slice (some ⟨o, 0, none⟩) 32 32) (by omega)
  generalize a.put (some s) (.slice (some ⟨o, 0, none⟩) 32 32) = a1 at F1 d1
  refine st_value rfl (run_load' F1.t4 hS.wd.cell.1) ?_
  have F2 := F1.put (s + 1) (.int .u32 (word (num l) m)) (by omega)
  have d2 := get_same a1 (s + 1) (.int .u32 (word (num l) m)) (by rw [F1.size]; omega)
  have d21 := (get_other a1 (s + 1) s (.int .u32 (word (num l) m)) (by omega)).trans d1
  generalize a1.put (some (s + 1)) (.int .u32 (word (num l) m)) = a2 at F2 d2 d21
  refine st_value rfl (run_shr' (k := k) (by omega) d2) ?_
  have F3 := F2.put (s + 2) (.int .u32 (word (num l) m / 2 ^ k)) (by omega)
  have d3 := get_same a2 (s + 2) (.int .u32 (word (num l) m / 2 ^ k)) (by rw [F2.size]; omega)
  have d31 := (get_other a2 (s + 2) s (.int .u32 (word (num l) m / 2 ^ k)) (by omega)).trans d21
  generalize a2.put (some (s + 2)) (.int .u32 (word (num l) m / 2 ^ k)) = a3 at F3 d3 d31
  refine st_value rfl (run_rem' (M := 2 ^ w) (by omega) (Int.ediv_nonneg hw.1 (by omega)) d3) ?_
  have F4 := F3.put (s + 3) (.int .u32 (word (num l) m / 2 ^ k % 2 ^ w)) (by omega)
  have d4 := get_same a3 (s + 3) (.int .u32 (word (num l) m / 2 ^ k % 2 ^ w)) (by rw [F3.size]; omega)
  have d41 := (get_other a3 (s + 3) s (.int .u32 (word (num l) m / 2 ^ k % 2 ^ w)) (by omega)).trans d31
  generalize a3.put (some (s + 3)) (.int .u32 (word (num l) m / 2 ^ k % 2 ^ w)) = a4 at F4 d4 d41
  refine st_value rfl (run_index' hj d41) ?_
  have F5 := F4.put (s + 4) (.pointer (some ⟨o, j, none⟩)) (by omega)
  have d5 := get_same a4 (s + 4) (.pointer (some ⟨o, j, none⟩)) (by rw [F4.size]; omega)
  have d51 := (get_other a4 (s + 4) (s + 3) (.pointer (some ⟨o, j, none⟩)) (by omega)).trans d4
  generalize a4.put (some (s + 4)) (.pointer (some ⟨o, j, none⟩)) = a5 at F5 d5 d51
  refine st_skip rfl (run_store' d5 d51 (hS.out.cell j hj) (hS.out.frozen j)) (wpList_nil ?_)
  exact h _ _ F5 (hS.full hgo hpo ho _ (in_word (num l) _ m k w hkj hle).symm)
theorem st_shr (hF : Fr N g p o a) (hs : 5 ≤ s) (hsN : s + 3 < N) (hS : St w0 g o p A n c l w (m + 1) j q (word (num l) m) half W) (k : Nat) (kk jj : Int) (hkk : kk = (k : Int)) (hjj : jj = (j : Int)) (hj : j < 32) (hle : k ≤ 32)
    (h : ∀ a', Fr N g p o a' → Q .normal a' (W.setCell ⟨o, j, none⟩ (.int .u32 (word (num l) m / 2 ^ k)))) :
    (Code.region id #[⟨some s, .move (.tmp 1), T1, p1, f1, none⟩, ⟨some (s + 1), .load 30 (.tmp 4), T2, p2, f2, none⟩, ⟨some (s + 2), .binOp .shr 30 (.tmp (s + 1)) (.const (.int .u64 kk)) 46, T3, p3, f3, none⟩,
      ⟨some (s + 3), .indexAddr 23 (.tmp s) (.const (.int .i64 jj)), T5, p5, f5, none⟩, ⟨none, .store 30 (.tmp (s + 3)) (.tmp (s + 2)), T6, p6, f6, none⟩] false).wp Tryd.prog Q a W := by
  subst hkk
  subst hjj
  have hz := hF.size
  refine wp_region_lit (st_value rfl (run_move' hF.t1) ?_)
  have F1 := hF.put s (.slice (some ⟨o, 0, none⟩) 32 32) hs
  have d1 := get_same a s (.slice (some ⟨o, 0, none⟩) 32 32) (by omega)
  generalize a.put (some s) (.slice (some ⟨o, 0, none⟩) 32 32) = a1 at F1 d1
  refine st_value rfl (run_load' F1.t4 hS.wd.cell.1) ?_
  have F2 := F1.put (s + 1) (.int .u32 (word (num l) m)) (by omega)
  have d2 := get_same a1 (s + 1) (.int .u32 (word (num l) m)) (by rw [F1.size]; omega)
  have d21 := (get_other a1 (s + 1) s (.int .u32 (word (num l) m)) (by omega)).trans d1
  generalize a1.put (some (s + 1)) (.int .u32 (word (num l) m)) = a2 at F2 d2 d21
  refine st_value rfl (run_shr' (k := k) (by omega) d2) ?_
  have F3 := F2.put (s + 2) (.int .u32 (word (num l) m / 2 ^ k)) (by omega)
  have d3 := get_same a2 (s + 2) (.int .u32 (word (num l) m / 2 ^ k)) (by rw [F2.size]; omega)
  have d31 := (get_other a2 (s + 2) s (.int .u32 (word (num l) m / 2 ^ k)) (by omega)).trans d21
  generalize a2.put (some (s + 2)) (.int .u32 (word (num l) m / 2 ^ k)) = a3 at F3 d3 d31
  refine st_value rfl (run_index' hj d31) ?_
  have F5 := F3.put (s + 3) (.pointer (some ⟨o, j, none⟩)) (by omega)
  have d5 := get_same a3 (s + 3) (.pointer (some ⟨o, j, none⟩)) (by rw [F3.size]; omega)
  have d51 := (get_other a3 (s + 3) (s + 2) (.pointer (some ⟨o, j, none⟩)) (by omega)).trans d3
  generalize a3.put (some (s + 3)) (.pointer (some ⟨o, j, none⟩)) = a5 at F5 d5 d51
  refine st_skip rfl (run_store' d5 d51 (hS.out.cell j hj) (hS.out.frozen j)) (wpList_nil ?_)
  exact h _ F5
theorem st_end (hF : Fr N g p o a) (hs : 5 ≤ s) (hsN : s + 3 < N) (hS : St w0 g o p A n c l w (m + 1) j q (word (num l) m) half W) (hgo : g ≠ o) (hpo : p ≠ o) (ho : w0.heap.size ≤ o) (k : Nat) (kk jj : Int) (hkk : kk = (k : Int)) (hjj : jj = (j : Int)) (hj : j < 32) (hkj : w * j = 32 * m + k) (hle : k + w = 32)
    (h : ∀ a' W', Fr N g p o a' → St w0 g o p A n c l w (m + 1) (j + 1) q (word (num l) m) 0 W' → Q .normal a' W') :
    (Code.region id #[⟨some s, .move (.tmp 1), T1, p1, f1, none⟩, ⟨some (s + 1), .load 30 (.tmp 4), T2, p2, f2, none⟩, ⟨some (s + 2), .binOp .shr 30 (.tmp (s + 1)) (.const (.int .u64 kk)) 46, T3, p3, f3, none⟩,
      ⟨some (s + 3), .indexAddr 23 (.tmp s) (.const (.int .i64 jj)), T5, p5, f5, none⟩, ⟨none, .store 30 (.tmp (s + 3)) (.tmp (s + 2)), T6, p6, f6, none⟩] false).wp Tryd.prog Q a W :=
  st_shr hF hs hsN hS k kk jj hkk hjj hj (by omega) fun a' F' => h a' _ F' (hS.full hgo hpo ho _ (end_word (num l) _ m k w hkj hle).symm)
theorem st_half (hF : Fr N g p o a) (hs : 5 ≤ s) (hsN : s + 3 < N) (hS : St w0 g o p A n c l w (m + 1) j q (word (num l) m) half W) (hgo : g ≠ o) (hpo : p ≠ o) (ho : w0.heap.size ≤ o) (k : Nat) (kk jj : Int) (hkk : kk = (k : Int)) (hjj : jj = (j : Int)) (hj : j < 32) (hle : k ≤ 32)
    (h : ∀ a' W', Fr N g p o a' → St w0 g o p A n c l w (m + 1) j q (word (num l) m) (word (num l) m / 2 ^ k) W' → Q .normal a' W') :
    (Code.region id #[⟨some s, .move (.tmp 1), T1, p1, f1, none⟩, ⟨some (s + 1), .load 30 (.tmp 4), T2, p2, f2, none⟩, ⟨some (s + 2), .binOp .shr 30 (.tmp (s + 1)) (.const (.int .u64 kk)) 46, T3, p3, f3, none⟩,
      ⟨some (s + 3), .indexAddr 23 (.tmp s) (.const (.int .i64 jj)), T5, p5, f5, none⟩, ⟨none, .store 30 (.tmp (s + 3)) (.tmp (s + 2)), T6, p6, f6, none⟩] false).wp Tryd.prog Q a W :=
  st_shr hF hs hsN hS k kk jj hkk hjj hj hle fun a' F' => h a' _ F' (hS.part hgo hpo ho _)
theorem st_or (hF : Fr N g p o a) (hs : 5 ≤ s) (hsN : s + 7 < N) (hS : St w0 g o p A n c l w (m + 1 + 1) j q (word (num l) (m + 1)) (word (num l) m / 2 ^ k0) W) (hgo : g ≠ o) (hpo : p ≠ o) (ho : w0.heap.size ≤ o) (t : Nat) (kk jj M : Int) (hkk : kk = ((32 - k0 : Nat) : Int)) (hjj : jj = (j : Int)) (hM : M = 2 ^ t) (hj : j < 32) (hkj : w * j = 32 * m + k0) (hk0 : k0 < 32) (ht : k0 + w = 32 + t) (hw : w ≤ 32)
    (hB : Region.lexTailB .any (List.toArray [⟨some s, .move (.tmp 1), T1, p1, f1, none⟩, ⟨some (s + 1), .indexAddr 23 (.tmp s) (.const (.int .i64 jj)), T2, p2, f2, none⟩, ⟨some (s + 2), .load 30 (.tmp (s + 1)), T3, p3, f3, none⟩, ⟨some (s + 3), .load 30 (.tmp 4), T4, p4, f4, none⟩,
      ⟨some (s + 4), .binOp .rem 30 (.tmp (s + 3)) (.const (.int .u32 M)) 30, T5, p5, f5, none⟩, ⟨some (s + 5), .binOp .shl 30 (.tmp (s + 4)) (.const (.int .u64 kk)) 46, T6, p6, f6, none⟩, ⟨some (s + 6), .binOp .or 30 (.tmp (s + 2)) (.tmp (s + 5)) 30, T7, p7, f7, none⟩,
      ⟨some (s + 7), .indexAddr 23 (.tmp s) (.const (.int .i64 jj)), T8, p8, f8, none⟩, ⟨none, .store 30 (.tmp (s + 7)) (.tmp (s + 6)), T9, p9, f9, none⟩]) 8 = true)
    (h : ∀ a' W', Fr N g p o a' → St w0 g o p A n c l w (m + 1 + 1) (j + 1) q (word (num l) (m + 1)) 0 W' → Q .normal a' W') :
    (Code.region id #[⟨some s, .move (.tmp 1), T1, p1, f1, none⟩, ⟨some (s + 1), .indexAddr 23 (.tmp s) (.const (.int .i64 jj)), T2, p2, f2, none⟩, ⟨some (s + 2), .load 30 (.tmp (s + 1)), T3, p3, f3, none⟩, ⟨some (s + 3), .load 30 (.tmp 4), T4, p4, f4, none⟩,
      ⟨some (s + 4), .binOp .rem 30 (.tmp (s + 3)) (.const (.int .u32 M)) 30, T5, p5, f5, none⟩, ⟨some (s + 5), .binOp .shl 30 (.tmp (s + 4)) (.const (.int .u64 kk)) 46, T6, p6, f6, none⟩, ⟨some (s + 6), .binOp .or 30 (.tmp (s + 2)) (.tmp (s + 5)) 30, T7, p7, f7, none⟩,
      ⟨some (s + 7), .indexAddr 23 (.tmp s) (.const (.int .i64 jj)), T8, p8, f8, none⟩, ⟨none, .store 30 (.tmp (s + 7)) (.tmp (s + 6)), T9, p9, f9, none⟩] true).wp Tryd.prog Q a W := by
  subst hjj
  subst hM
  subst hkk
  have hz := hF.size
  have hwd := word_bd (num l) (m + 1)
  have hpt := p2_pos t
  have hy : 0 ≤ word (num l) (m + 1) % 2 ^ t ∧ word (num l) (m + 1) % 2 ^ t < 2 ^ t := ⟨Int.emod_nonneg _ (by omega), Int.emod_lt_of_pos _ (by omega)⟩
  have hlt : word (num l) (m + 1) % 2 ^ t * 2 ^ (32 - k0) < 4294967296 := by
    have h1 : word (num l) (m + 1) % 2 ^ t * 2 ^ (32 - k0) ≤ (2 ^ t - 1) * 2 ^ (32 - k0) := Int.mul_le_mul_of_nonneg_right (by omega) (by have := p2_pos (32 - k0); omega)
    have e2 : (2 : Int) ^ t * 2 ^ (32 - k0) = 2 ^ w := by rw [← p2_add, show t + (32 - k0) = w by omega]
    rw [Int.sub_mul, e2, Int.one_mul] at h1
    have e3 : (2 : Int) ^ w * 2 ^ (32 - w) = 4294967296 := by rw [← p2_add, show w + (32 - w) = 32 by omega]; rfl
    have h2 : (2 : Int) ^ w * 1 ≤ 2 ^ w * 2 ^ (32 - w) := Int.mul_le_mul_of_nonneg_left (p2_pos _) (by have := p2_pos w; omega)
    have h3 := p2_pos (32 - k0)
    omega
  refine wp_region_still_tail 8 (by kernel_rfl) hB ?_
  simp only [List.take_succ_cons, List.take_zero, List.drop_succ_cons, List.drop_zero]
  have hD := hS.drew
  refine sl_value rfl (run_move' hF.t1) ?_
  have F1 := hF.put s (.slice (some ⟨o, 0, none⟩) 32 32) hs
  have d1 := get_same a s (.slice (some ⟨o, 0, none⟩) 32 32) (by omega)
  generalize a.put (some s) (.slice (some ⟨o, 0, none⟩) 32 32) = a1 at F1 d1
  refine sl_value rfl (run_index' hj d1) ?_
  have F2 := F1.put (s + 1) (.pointer (some ⟨o, j, none⟩)) (by omega)
  have d2 := get_same a1 (s + 1) (.pointer (some ⟨o, j, none⟩)) (by rw [F1.size]; omega)
  have d21 := (get_other a1 (s + 1) s (.pointer (some ⟨o, j, none⟩)) (by omega)).trans d1
  generalize a1.put (some (s + 1)) (.pointer (some ⟨o, j, none⟩)) = a2 at F2 d2 d21
  refine sl_value rfl (run_load' d2 (hD.out.cell j hj)) ?_
  generalize hP : placeV (num l) w j (word (num l) m / 2 ^ k0) j = P0
  have F3 := F2.put (s + 2) (.int .u32 P0) (by omega)
  have d3 := get_same a2 (s + 2) (.int .u32 P0) (by rw [F2.size]; omega)
  have d31 := (get_other a2 (s + 2) s (.int .u32 P0) (by omega)).trans d21
  generalize a2.put (some (s + 2)) (.int .u32 P0) = a3 at F3 d3 d31
  refine sl_value rfl (run_load' F3.t4 hD.wd.cell.1) ?_
  have F4 := F3.put (s + 3) (.int .u32 (word (num l) (m + 1))) (by omega)
  have d4 := get_same a3 (s + 3) (.int .u32 (word (num l) (m + 1))) (by rw [F3.size]; omega)
  have d41 := (get_other a3 (s + 3) s (.int .u32 (word (num l) (m + 1))) (by omega)).trans d31
  have d42 := (get_other a3 (s + 3) (s + 2) (.int .u32 (word (num l) (m + 1))) (by omega)).trans d3
  generalize a3.put (some (s + 3)) (.int .u32 (word (num l) (m + 1))) = a4 at F4 d4 d41 d42
  refine sl_value rfl (run_rem' (M := 2 ^ t) (by omega) hwd.1 d4) ?_
  generalize hY : word (num l) (m + 1) % 2 ^ t = y at hy hlt
  have F5 := F4.put (s + 4) (.int .u32 y) (by omega)
  have d5 := get_same a4 (s + 4) (.int .u32 y) (by rw [F4.size]; omega)
  have d51 := (get_other a4 (s + 4) s (.int .u32 y) (by omega)).trans d41
  have d52 := (get_other a4 (s + 4) (s + 2) (.int .u32 y) (by omega)).trans d42
  generalize a4.put (some (s + 4)) (.int .u32 y) = a5 at F5 d5 d51 d52
  refine sl_value rfl (run_shl' (k := 32 - k0) (by omega) hy.1 hlt d5) ?_
  have F6 := F5.put (s + 5) (.int .u32 (y * 2 ^ (32 - k0))) (by omega)
  have d6 := get_same a5 (s + 5) (.int .u32 (y * 2 ^ (32 - k0))) (by rw [F5.size]; omega)
  have d61 := (get_other a5 (s + 5) s (.int .u32 (y * 2 ^ (32 - k0))) (by omega)).trans d51
  have d62 := (get_other a5 (s + 5) (s + 2) (.int .u32 (y * 2 ^ (32 - k0))) (by omega)).trans d52
  generalize a5.put (some (s + 5)) (.int .u32 (y * 2 ^ (32 - k0))) = a6 at F6 d6 d61 d62
  refine sl_value rfl (run_or' d62 d6) ?_
  have F7 := F6.put (s + 6) (.int .u32 (Go.bits .or .u32 P0 (y * 2 ^ (32 - k0)))) (by omega)
  have d7 := get_same a6 (s + 6) (.int .u32 (Go.bits .or .u32 P0 (y * 2 ^ (32 - k0)))) (by rw [F6.size]; omega)
  have d71 := (get_other a6 (s + 6) s (.int .u32 (Go.bits .or .u32 P0 (y * 2 ^ (32 - k0)))) (by omega)).trans d61
  generalize a6.put (some (s + 6)) (.int .u32 (Go.bits .or .u32 P0 (y * 2 ^ (32 - k0)))) = a7 at F7 d7 d71
  refine sl_value rfl (run_index' hj d71) ?_
  have F8 := F7.put (s + 7) (.pointer (some ⟨o, j, none⟩)) (by omega)
  have d8 := get_same a7 (s + 7) (.pointer (some ⟨o, j, none⟩)) (by rw [F7.size]; omega)
  have d81 := (get_other a7 (s + 7) (s + 6) (.pointer (some ⟨o, j, none⟩)) (by omega)).trans d7
  generalize a7.put (some (s + 7)) (.pointer (some ⟨o, j, none⟩)) = a8 at F8 d8 d81
  refine wpStill_nil ?_
  refine st_skip rfl (run_store' (W := W.drew) d8 d81 (hD.out.cell j hj) (hD.out.frozen j)) (wpList_nil ?_)
  refine h _ _ F8 (hD.full hgo hpo ho _ ?_)
  rw [← hP, ← hY]
  exact half_or (num l) w j m k0 t hkj hk0 ht (by omega) hw
end

end Go.Proofs.YtngihompgcjlmaaDoor.Unp
