/- Arrays of twelve bytes: in a row, in a block, stored and copied. -/
import Derived.Test.YtbghkoalmjfpiaaR4W
import Derived.Test.YtbghkoalmjfpiaaR4I
import Derived.Deep.MidRow
import Derived.Laws.CopyOwn
import Derived.Laws.CopyRow
namespace Go.Proofs.Ytbghkoalmjfpiaa.Plain
open Go.RowKit Go.Proofs.YtbghkoalmjfpiaaW.PrintWords Go.Proofs.YtbghkoalmjfpiaaW.PrintLast Go.Proofs.YtbghkoalmjfpiaaW.PrintMore Go.Proofs.Ytbghkoalmjfpiaa.PBatchedValues
set_option linter.unusedVariables false
set_option linter.unusedSimpArgs false

def cellsA (x : List Int) : List Value := x.map (Value.int .u8)
theorem cellsA_len (x : List Int) : (cellsA x).length = x.length := by simp [cellsA]
theorem cellsA_one (x : List Int) : ∀ u ∈ cellsA x, u.oneCell' = true := fun u hu => by
  obtain ⟨b, _, rfl⟩ := List.mem_map.1 hu
  rfl
def zA : List Int := List.replicate 12 0
def kA : Kd (List Int) where
  sz := 12
  E := []
  K := fun _ x cs => cs = cellsA x ∧ x.length = 12
  M := fun _ _ _ x cs => cs = cellsA x ∧ x.length = 12
  K_len := fun h => by rw [h.1, cellsA_len, h.2]
  K_one := fun h u hu => by
    rw [h.1] at hu
    exact cellsA_one _ u hu
  K_below := fun _ h => h
  K_of_M := fun h => h
  M_mono := fun _ h => h
  M_bound := fun h => h
  M_move := fun _ h => h
  M_lower := fun _ h => h
/-- All arrays of a list have twelve bytes. -/
def TwA (ys : List (List Int)) : Prop := ∀ y ∈ ys, y.length = 12
theorem flatA_len : ∀ ys : List (List Int), TwA ys → (ys.flatMap cellsA).length = ys.length * 12
  | [], _ => rfl
  | y :: ys, h => by
    rw [List.flatMap_cons, List.length_append, cellsA_len, h y (by simp), flatA_len ys (fun u hu => h u (by simp [hu])), List.length_cons]
    omega
theorem flatA_split (ys : List (List Int)) (j : Nat) (h : j < ys.length) : ys.flatMap cellsA = (ys.take j).flatMap cellsA ++ (cellsA ys[j] ++ (ys.drop (j + 1)).flatMap cellsA) := by
  conv => lhs; rw [← List.take_append_drop j ys, List.flatMap_append, List.drop_eq_getElem_cons h, List.flatMap_cons]
theorem flatA_get {ys : List (List Int)} (ht : TwA ys) (j i : Nat) (h : j < ys.length) (hi : i < 12) : (ys.flatMap cellsA)[j * 12 + i]? = (cellsA ys[j])[i]? := by
  have hl : ((ys.take j).flatMap cellsA).length = j * 12 := by
    rw [flatA_len _ (fun y hy => ht y (List.mem_of_mem_take hy)), List.length_take, Nat.min_eq_left (by omega)]
  rw [flatA_split ys j h, List.getElem?_append_right (by omega), hl, List.getElem?_append_left (by rw [cellsA_len, ht _ (List.getElem_mem h)]; omega)]
  congr 1
  omega
theorem c_blkA {w : World} {q n : Nat} {T : TypeId} {ys : List (List Int)} (h : w.heap[q]? = some (.cells (ys.flatMap cellsA).toArray T (0, 0))) (ht : TwA ys) (hn : ys.length = n) (hs : n ≤ 1000000) : Kd.C kA w (some ⟨q, 0, none⟩) n ys := by
  refine ⟨hn, by omega, fun _ => ⟨_, rfl, fun j p hp => ?_⟩⟩
  obtain ⟨hj, rfl⟩ := List.getElem?_eq_some_iff.1 hp
  have h12 := ht _ (List.getElem_mem hj)
  refine ⟨cellsA ys[j], by rw [cellsA_len, h12]; rfl, ⟨rfl, h12⟩, fun i u hu => ?_⟩
  have hi : i < 12 := by
    have := (List.getElem?_eq_some_iff.1 hu).1
    rwa [cellsA_len, h12] at this
  rw [add_plain, cell_of_row w q _ _ T (0, 0) h]
  show (ys.flatMap cellsA).toArray[j * 12 + i]? = some u
  rw [List.getElem?_toArray, flatA_get ht j i hj hi]
  exact hu
/-! ### a block in which several cells are stored -/
theorem sets_blk {g : Nat} {T : TypeId} : ∀ (vs : List Value) (o : Nat) (cur : List Value) (w : World), w.heap[g]? = some (.cells cur.toArray T (0, 0)) → o + vs.length ≤ cur.length → (w.setCells g o vs).heap[g]? = some (.cells (cur.take o ++ (vs ++ cur.drop (o + vs.length))).toArray T (0, 0))
  | [], o, cur, w, h, _ => by
    simp only [World.setCells, List.length_nil, Nat.add_zero, List.nil_append, List.take_append_drop]
    exact h
  | v :: r, o, cur, w, h, hf => by
    simp only [List.length_cons] at hf
    have h1 := blk_set h o v
    have e1 : (cur.toArray.setIfInBounds o v) = (cur.set o v).toArray := by simp
    rw [e1] at h1
    have h2 := sets_blk r (o + 1) (cur.set o v) (w.setCell ⟨g, o, none⟩ v) h1 (by rw [List.length_set]; omega)
    have e2 : (cur.set o v).take (o + 1) = cur.take o ++ [v] := by
      rw [List.take_succ_eq_append_getElem (by rw [List.length_set]; omega), List.take_set_of_le (Nat.le_refl _)]
      simp
    have e3 : (cur.set o v).drop (o + 1 + r.length) = cur.drop (o + 1 + r.length) := by rw [List.drop_set_of_lt (by omega)]
    rw [e2, e3] at h2
    rw [World.setCells]
    simp only [List.length_cons]
    rw [show o + (r.length + 1) = o + 1 + r.length by omega]
    simpa using h2
theorem sets_other {g k : Nat} (hk : k ≠ g) : ∀ (vs : List Value) (o : Nat) (w : World), (w.setCells g o vs).heap[k]? = w.heap[k]?
  | [], _, _ => rfl
  | v :: r, o, w => by
    rw [World.setCells, sets_other hk r (o + 1) _]
    exact Below.heap_setCell w ⟨g, o, none⟩ v k hk
theorem sets_below {B g : Nat} (hB : B ≤ g) : ∀ (vs : List Value) (o : Nat) (w0 w : World), Below B w0 w → Below B w0 (w.setCells g o vs)
  | [], _, _, _, h => h
  | v :: r, o, w0, w, h => by
    rw [World.setCells]
    exact sets_below hB r (o + 1) w0 _ (h.setCell (p := ⟨g, o, none⟩) hB v)
theorem fill_sets (ys : List (List Int)) (y : List Int) (m : Nat) (ht : TwA ys) (h : ys.length < m) (hy : y.length = 12) :
    (((fill ys zA m).flatMap cellsA).take (ys.length * 12) ++ (cellsA y ++ ((fill ys zA m).flatMap cellsA).drop (ys.length * 12 + (cellsA y).length))) = (fill (ys ++ [y]) zA m).flatMap cellsA := by
  have hl := flatA_len ys ht
  have e1 : (fill ys zA m).flatMap cellsA = ys.flatMap cellsA ++ (cellsA zA ++ (List.replicate (m - (ys.length + 1)) zA).flatMap cellsA) := by
    unfold fill
    rw [List.flatMap_append, show m - ys.length = (m - (ys.length + 1)) + 1 by omega, List.replicate_succ, List.flatMap_cons]
  have e2 : (fill (ys ++ [y]) zA m).flatMap cellsA = ys.flatMap cellsA ++ (cellsA y ++ (List.replicate (m - (ys.length + 1)) zA).flatMap cellsA) := by
    unfold fill
    rw [List.flatMap_append, List.flatMap_append, List.length_append, List.append_assoc]
    simp
  have hz : (cellsA zA).length = 12 := rfl
  have hy' : (cellsA y).length = 12 := by rw [cellsA_len, hy]
  rw [e1, e2, hy', List.take_left' (by omega)]
  congr 2
  rw [← List.append_assoc, List.drop_left' (by rw [List.length_append, hl, hz])]
theorem TwA.fills {ys : List (List Int)} (h : TwA ys) (m : Nat) : TwA (fill ys zA m) := fun y hy => by
  unfold fill at hy
  rcases List.mem_append.1 hy with hy | hy
  · exact h y hy
  · rw [List.eq_of_mem_replicate hy]; rfl
theorem madeA (m : Nat) : madeCells (cellsA zA).toArray (m * 12) = ((fill ([] : List (List Int)) zA m).flatMap cellsA).toArray := by
  apply Array.toList_inj.1
  have hz : cellsA zA = List.replicate 12 (Value.int .u8 0) := by simp [cellsA, zA]
  have hf : (fill ([] : List (List Int)) zA m).flatMap cellsA = List.replicate (m * 12) (Value.int .u8 0) := by
    unfold fill
    simp only [List.nil_append, List.length_nil, Nat.sub_zero]
    induction m with
    | zero => rfl
    | succ m ih =>
      rw [List.replicate_succ, List.flatMap_cons, ih, hz, List.replicate_append_replicate]
      congr 1
      omega
  rw [hf, hz]
  apply List.ext_getElem
  · simp [madeCells]
  · intro i h1 h2
    simp [madeCells]
    have h3 : i % 12 < 12 := Nat.mod_lt _ (by omega)
    generalize i % 12 = k at h3 ⊢
    have h4 : k = 0 ∨ k = 1 ∨ k = 2 ∨ k = 3 ∨ k = 4 ∨ k = 5 ∨ k = 6 ∨ k = 7 ∨ k = 8 ∨ k = 9 ∨ k = 10 ∨ k = 11 := by omega
    rcases h4 with rfl | rfl | rfl | rfl | rfl | rfl | rfl | rfl | rfl | rfl | rfl | rfl <;> rfl
/-- make([]T, n), T of twelve cells. -/
theorem makeA (m : Nat) (hm : m ≤ 1000) : ∀ W : World, (Instr.makeSlice 105 (.int .i64 (m : Int)) (.int .i64 (m : Int))).run Try.prog W = .ok (.slice (some ⟨W.heap.size, 0, none⟩) m m) (W.alloc (.cells (madeCells (cellsA zA).toArray (m * 12)) 103)) := by
  intro W
  have hinfo : (Try.prog.info? 103).map (fun i => (i.zero, i.size, i.bytes)) = some (some (.agg (cellsA zA).toArray), 12, 12) := by kernel_rfl
  obtain ⟨i, hi, hz⟩ := Option.map_eq_some_iff.1 hinfo
  simp only [Prod.mk.injEq] at hz
  obtain ⟨z1, z2, z3⟩ := hz
  have hr := run_make (P := Try.prog) W 105 103 i _ Try.underlying105 hi z1 .i64 .i64 m m (by omega) (by omega) (by rw [z3]; omega) (by omega)
  simp only [Int.toNat_natCast, z2] at hr
  exact hr
/-- copy between rows of elements of several cells. -/
theorem run_copyN {P : Program} (w : World) (dT sT ty elem : TypeId) (g dLen dCap : Nat) (a : Addr) (sLen sCap sz n : Nat) (cur : Array Value) (t : TypeId) (cs : List Value) (hu : P.underlying dT = some (.slice elem)) (hs : (P.info? elem).map (·.size) = some sz)
    (hg : w.heap[g]? = some (.cells cur t (0, 0))) (hn : Nat.min sLen dLen = n) (hcs : cs.length = n * sz) (hsrc : ∀ j v, cs[j]? = some v → w.cell? (a.add j) = some v) (hfit : cs.length ≤ cur.size) (h1 : ∀ v ∈ cs, v.oneCell' = true) :
    (Builtin.copy_ #[dT, sT] ty #[.slice (some ⟨g, 0, none⟩) dLen dCap, .slice (some a) sLen sCap]).run P w = .ok (goInt n) (w.setRow g (cs ++ cur.toList.drop cs.length).toArray) := by
  have hl := run_loadCells_list (P := P) w a cs hsrc
  have hst := run_storeCells_at P g 0 t cs 0 cur w hg (by simpa using hfit) h1
  cases hq : P.info? elem with
  | none => simp [hq] at hs
  | some i =>
    have hi : i.size = sz := by simpa [hq] using hs
    rw [hcs] at hl
    simp [Builtin.copy_, run_underlying hu, Builtin.lenOf, Builtin.firstCells, sizeOf, typeInfo, hq, hi, hn, hl, hst, hcs]
theorem wpList_copyN {P : Program} {w : World} {ops : Array Oper} {rest : List Oper} {o : Oper} {a : Act} {Q : Exit → Act → World → Prop} (hgd : o.guard = none) (d s : Operand) (dT sT : TypeId)
    (ho : o.op = .call { callee := .builtin .copy, args := #[d, s], argTypes := #[dT, sT] }) (elem : TypeId) (hu : P.underlying dT = some (.slice elem)) (sz n : Nat) (hsz : (P.info? elem).map (·.size) = some sz)
    (g dLen dCap : Nat) (ad : Addr) (sLen sCap : Nat) (hd : a.eval d = .slice (some ⟨g, 0, none⟩) dLen dCap) (hs : a.eval s = .slice (some ad) sLen sCap)
    (cur : Array Value) (t : TypeId) (hg : w.heap[g]? = some (.cells cur t (0, 0))) (cs : List Value) (hn : Nat.min sLen dLen = n) (hcs : cs.length = n * sz)
    (hsrc : ∀ j v, cs[j]? = some v → w.cell? (ad.add j) = some v) (hfit : cs.length ≤ cur.size) (h1 : ∀ v ∈ cs, v.oneCell' = true)
    (h : wpList P ops Q rest (a.put o.dst (goInt n)) (w.setRow g (cs ++ cur.toList.drop cs.length).toArray)) : wpList P ops Q (o :: rest) a w := by
  refine wpList_plain hgd fun K hK => ?_
  have hrun := run_copyN (P := P) w dT sT o.type elem g dLen dCap ad sLen sCap sz n cur t cs hu hsz hg hn hcs hsrc hfit h1
  unfold Oper.wp
  simp [execOp, ho, resolve, invoke, builtin, hd, hs, hrun, Result.andThen]
  exact hK _ _ h
theorem row_set {w : World} {g : Nat} {cur c : Array Value} {T : TypeId} (h : w.heap[g]? = some (.cells cur T (0, 0))) : (w.setRow g c).heap[g]? = some (.cells c T (0, 0)) := by
  simp [World.setRow, Array.getElem?_modify, h]
theorem there_row {w : World} {p k m : Nat} {T : TypeId} {ys : List (List Int)} {x : Nat} (h : w.heap[p]? = some (.cells ((fill ys zA m).flatMap cellsA).toArray T (0, 0))) (ht : TwA ys) (hl : ys.length < m) (hk : ys.length = k) (hx : x = 12) : w.there p (k * 12) x := by
  subst hx
  subst hk
  intro j hj
  have hfl : ((fill ys zA m).flatMap cellsA).length = m * 12 := by rw [flatA_len _ (ht.fills m), fill_len _ _ _ (by omega)]
  refine ⟨?_, blk_frozen h _⟩
  rw [blk_cell h]
  have hi : ys.length * 12 + j < ((fill ys zA m).flatMap cellsA).length := by rw [hfl]; omega
  simp [List.getElem?_eq_getElem hi]
theorem range_of {w : World} {q n : Nat} {xs : List (List Int)} (h : Kd.C kA w (some ⟨q, 0, none⟩) n xs) (j : Nat) (hj : j < xs.length) : w.rangeAt q (j * 12) (cellsA xs[j]) := by
  have hn : xs.length = n := h.1
  obtain ⟨ad, he, hc⟩ := h.2.2 (by omega)
  injection he with he
  subst he
  obtain ⟨c, _, hK, hcell⟩ := hc j _ (List.getElem?_eq_getElem hj)
  obtain ⟨rfl, _⟩ : c = cellsA xs[j] ∧ _ := hK
  intro i u hu
  have := hcell i u hu
  rwa [add_plain] at this
/-- Another cell of a block of another type is turned: a row that reads keeps its reading. -/
theorem Kd.reads_setA {α : Type} {d : Kd α} {e base k g c n : Nat} {w3 w4 : World} {A : Option Addr} {xs : List α} (h : d.R e w4 base (fun _ => True) (.slice A n c) xs)
    (hk : w3.heap[k]? = some (.cells #[.bool false] 4 (0, 0))) (hg : w3.grownBy w4 (some g)) (ht : ∀ q, q ∈ e :: d.E → q ≠ 4) (hne : k ≠ g) : d.C (w4.setCell ⟨k, 0, none⟩ (.bool true)) A n xs := by
  have hk4 : w4.heap[k]? = some (.cells #[.bool false] 4 (0, 0)) := (hg.block k (block_lt hk) (fun e => hne (Option.some.inj e))).trans hk
  obtain ⟨A', c', he, _, hc⟩ := Kd.R_reads (Kd.R_set h hk4 ht 0 (.bool true))
  injection he with ha hn _
  subst ha
  subst hn
  exact hc
theorem full_row (cur : Array Value) (cs : List Value) (h : cs.length = cur.size) : (cur.toList.take 0 ++ (cs ++ cur.toList.drop (0 + cs.length))).toArray = cs.toArray := by
  rw [List.take_zero, List.nil_append, Nat.zero_add, List.drop_of_length_le (by rw [Array.length_toList]; omega), List.append_nil]
theorem store_there {P : Program} {w : World} {b o : Nat} {vs : List Value} (ht : w.there b o vs.length) (h1 : ∀ v ∈ vs, v.oneCell' = true) : (storeCells ⟨b, o, none⟩ vs).run P w = .ok () (w.setCells b o vs) := by
  have := run_storeCells_cells (P := P) b o vs 0 w (fun j hj => by simpa using (ht j (by simpa using hj)).1) (fun j hj => by simpa using (ht j (by simpa using hj)).2) h1
  simpa using this

end Go.Proofs.Ytbghkoalmjfpiaa.Plain
