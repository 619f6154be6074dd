/- The thin package's copy of bytes, a decoder's data, the deferred function. -/
import Derived.Test.YtbghkoalmjfpiaaR4F
namespace Go.Proofs.Ytbghkoalmjfpiaa.Plain
open Go.RowKit Go.Proofs.YtbghkoalmjfpiaaW.PrintWords Go.Proofs.YtbghkoalmjfpiaaW.PrintLast Go.Proofs.YtbghkoalmjfpiaaW.PrintMore Go.Proofs.Ytbghkoalmjfpiaa.PBatchedValues
set_option linter.unusedVariables false
set_option linter.unusedSimpArgs false

/-- A row of the call's own is handed back. -/
def RetRow (xs : List Int) (w : World) (e : Ending) (w' : World) : Prop := ∃ v, e = .returned v ∧ Kd.R (Kd.int .u8) 5 w' w.heap.size (fun _ => True) v xs ∧ Below w.heap.size w w'
set_option maxRecDepth 100000 in
theorem copied_any (A : Option Addr) (n c : Nat) (xs : List Int) (w : World) (h : Kd.C (Kd.int .u8) w A n xs) (hn : n ≤ 1000000) : Calls Try.prog 26 #[.slice A n c] w (RetRow xs w) := by
  have HC := Aside0.mk h
  clear h
  go_enter Try.func26, Try.ntmps26
  go_wp2_with (((with_reducible refine gate_builtin (b := .append) (xs := #[.tmp 3, .tmp 4]) rfl ?_); at_builtin; refine appN (Kd.int .u8) (w0 := w) w.heap.size (fun _ _ _ _ h => h) rfl (.tmp 3) (.tmp 4) 26 5 (.int .u8 0) 1 rfl Try.underlying26 info5 rfl (by decide) (by omega) _ [] xs A n c rfl rfl (Kd.R_of_own (h1 := fun _ => rfl) (enc := Value.int .u8) (own_lit w _ 5 .u8 [] (Nat.le_refl _) (by simp)) (fun _ _ => trivial)) (Kd.C_below HC.out ((Below.refl _ _).alloc (Nat.le_refl _) _)) ((Below.refl _ _).alloc (Nat.le_refl _) _) (by simp) (by simp; omega) ?_; intro v1 w2 ho hb))
  go_ret
  exact ⟨v1, rfl, ho, hb⟩
set_option maxRecDepth 100000 in
theorem setData_any (g nv n c : Nat) (A : Option Addr) (cs : Array Value) (T : TypeId) (x y : Value) (w : World) (h : w.heap[g]? = some (.cells cs T (0, 0))) (h0 : cs[0]? = some (.int .i64 0)) (h1 : cs[1]? = some (.slice none 0 0)) :
    Calls Try.prog 25 #[.pointer (some ⟨g, 0, none⟩), .int .i64 nv, .slice A n c] w fun e w' => e = .returned .nilIface ∧ w' = (w.setCell ⟨g, 1, none⟩ (.slice A n c)).setCell ⟨g, 0, none⟩ (.int .i64 nv) := by
  have f0 : w.cell? ⟨g, 0, none⟩ = some (.int .i64 0) := by rw [blk_cell h 0, h0]
  have f1 : w.cell? ⟨g, 1, none⟩ = some (.slice none 0 0) := by rw [blk_cell h 1, h1]
  have z0 := blk_frozen h 0
  have z1 := blk_frozen h 1
  clear h h0 h1
  go_enter Try.func25, Try.ntmps25
  go_wp2
  go_ret
  exact ⟨rfl, rfl⟩
/-- A new decoder's block. -/
def NewD (T : TypeId) (cs : Array Value) (w : World) (e : Ending) (w' : World) : Prop := ∃ g, e = .returned (.pointer (some ⟨g, 0, none⟩)) ∧ w.heap.size ≤ g ∧ w'.heap[g]? = some (.cells cs T (0, 0)) ∧ Below w.heap.size w w'
set_option maxRecDepth 100000 in
theorem base_any (w : World) : Calls Try.prog 72 #[] w fun e w' => e = .returned (.agg #[.int .i64 0, .slice none 0 0, .int .i64 0]) ∧ Below w.heap.size w w' := by
  go_enter Try.func72, Try.ntmps72
  go_wp2
  exact bodyPost_ret (v := .agg #[.int .i64 0, .slice none 0 0, .int .i64 0]) (by simp [results, Try.results72, go_sem]) rfl ⟨rfl, by go_grown⟩
set_option maxRecDepth 100000 in
theorem newF (wd : Int) (w : World) : Calls Try.prog 24 #[.int .i64 wd] w (NewD 53 #[.int .i64 0, .slice none 0 0, .int .i64 wd] w) := by
  go_enter Try.func24, Try.ntmps24
  go_wp2_with (go_at_call 72; (with_reducible refine (base_any _).mono ?_); rintro e w1 ⟨rfl, hb⟩)
  go_ret
  exact ⟨_, rfl, hb.size, heap_alloc_new _ _, hb.alloc hb.size _⟩
/-! ### the world in which a decoder has its data -/
/-- The decoder's block behind SetData, the bytes in a row of the call's own. -/
theorem db_of {T : TypeId} {cs : Array Value} {mk : Nat → Value → Array Value} {g nv base : Nat} {v : Value} {bs : List Int} {w : World} (hT : T ≠ 5) (h : w.heap[g]? = some (.cells cs T (0, 0)))
    (hr : Kd.R (Kd.int .u8) 5 w base (fun _ => True) v bs) (hs : bs.length ≤ 1000000) (hmk : ∀ s, (cs.setIfInBounds 1 s).setIfInBounds 0 (.int .i64 nv) = mk nv s) :
    ∃ A c, v = .slice A bs.length c ∧ DB T mk ((w.setCell ⟨g, 1, none⟩ v).setCell ⟨g, 0, none⟩ (.int .i64 nv)) g ((w.setCell ⟨g, 1, none⟩ v).setCell ⟨g, 0, none⟩ (.int .i64 nv)) nv bs A c := by
  obtain ⟨A, c, rfl, hl, _⟩ := Kd.R_reads hr
  have h1 := blk_set h 1 (.slice A bs.length c)
  have h2 := blk_set h1 0 (.int .i64 nv)
  rw [hmk] at h2
  have hr2 := Kd.R_set (Kd.R_set hr h (fun q hq => by simp [Kd.int, Kd.scalar] at hq; rw [hq]; exact hT.symm) 1 (.slice A bs.length c)) h1 (fun q hq => by simp [Kd.int, Kd.scalar] at hq; rw [hq]; exact hT.symm) 0 (.int .i64 nv)
  have hr3 := Kd.R_types hr2 h2 (fun q hq => by simp [Kd.int, Kd.scalar] at hq; rw [hq]; exact hT.symm)
  refine ⟨A, c, rfl, World.grownBy.refl _ _, ?_, h2, fun wr hg => ?_, hl, hs⟩
  · rcases Nat.lt_or_ge g (((w.setCell ⟨g, 1, none⟩ (.slice A bs.length c)).setCell ⟨g, 0, none⟩ (.int .i64 nv))).heap.size with hlt | hge
    · exact hlt
    · rw [Array.getElem?_eq_none hge] at h2; cases h2
  · obtain ⟨A', c', he, _, hc⟩ := Kd.R_reads (Kd.R_grown hr3 hg (fun k hk he => hk.2 (Option.some.inj he)))
    injection he with he
    subst he
    exact Kd.reads_of_C (enc := Value.int .u8) (d := (0 : Int)) (h1 := fun _ => rfl) hc
theorem All2.imp {α β : Type} {R R' : α → β → Prop} {xs : List α} {ys : List β} (h : All2 R xs ys) (hi : ∀ x y, R x y → R' x y) : All2 R' xs ys := ⟨h.1, fun j x y hx hy => hi x y (h.2 j x y hx hy)⟩
/-- A bool of the call's own is turned: what is read of bytes stays. -/
theorem rd_ok {w3 w4 : World} {g k : Nat} {A : Option Addr} {xs : List Int} (hk : w3.heap[k]? = some (.cells #[.bool false] 4 (0, 0))) (hg : w3.grownBy w4 (some g)) (hne : k ≠ g) (h : RdD w3 g A xs) : RdD (w4.setCell ⟨k, 0, none⟩ (.bool true)) g A xs := by
  intro wr hr
  have hk3 : k < w3.heap.size := by
    rcases Nat.lt_or_ge k w3.heap.size with hlt | hge
    · exact hlt
    · rw [Array.getElem?_eq_none hge] at hk; cases hk
  have hk4 : w4.heap[k]? = some (.cells #[.bool false] 4 (0, 0)) := (hg.block k hk3 (fun e => hne (Option.some.inj e))).trans hk
  have hk5 := blk_set hk4 0 (.bool true)
  have hs5 : (w4.setCell ⟨k, 0, none⟩ (.bool true)).heap.size = w4.heap.size := by simp [World.setCell]
  have hkr : wr.heap[k]? = some (.cells #[.bool true] 4 (0, 0)) := (hr.block k (by rw [hs5]; have := hg.size; omega) (fun e => hne (Option.some.inj e))).trans hk5
  have hg' : w3.grownBy (wr.setCell ⟨k, 0, none⟩ (.bool false)) (some g) := by
    refine ⟨hr.os.trans hg.os, hr.tape.trans hg.tape, hr.output.trans hg.output, ?_, fun i hi hne' => ?_⟩
    · have h1 := hr.size
      rw [hs5] at h1
      have h2 : (wr.setCell ⟨k, 0, none⟩ (.bool false)).heap.size = wr.heap.size := by simp [World.setCell]
      have := hg.size
      omega
    · by_cases e : i = k
      · subst e
        rw [blk_set hkr 0 (.bool false), hk]
        rfl
      · rw [Below.heap_setCell wr ⟨k, 0, none⟩ _ i e, hr.block i (by rw [hs5]; have := hg.size; omega) hne', Below.heap_setCell w4 ⟨k, 0, none⟩ _ i e, hg.block i hi hne']
  obtain ⟨h1, h2, h3⟩ := h _ hg'
  refine ⟨h1, h2, fun hn => ?_⟩
  obtain ⟨ad, he, hc⟩ := h3 hn
  refine ⟨ad, he, fun j hj => ?_⟩
  have hcj := hc j hj
  by_cases e : ad.add j = ⟨k, 0, none⟩
  · rw [e, blk_cell (blk_set hkr 0 (.bool false)) 0] at hcj
    cases hcj
  · rwa [World.cell?_setCell_other _ _ _ _ (fun h => e h.symm)] at hcj
theorem block_lt {w : World} {g : Nat} {o : Obj} (h : w.heap[g]? = some o) : g < w.heap.size := by
  rcases Nat.lt_or_ge g w.heap.size with hlt | hge
  · exact hlt
  · rw [Array.getElem?_eq_none hge] at h; cases h
theorem two_blocks (w : World) (o1 o2 : Obj) : ((w.alloc o1).alloc o2).heap[w.heap.size]? = some o1 ∧ ((w.alloc o1).alloc o2).heap[w.heap.size + 1]? = some o2 := by
  have h1 := heap_alloc_new w o1
  have h2 := heap_alloc_new (w.alloc o1) o2
  have e1 := Below.heap_alloc (w.alloc o1) o2 w.heap.size (by simp)
  exact ⟨e1.trans h1, by simpa using h2⟩
/-- What an old row reads, while behind the call's begin nothing old has turned but what lies at g. -/
theorem below_gb {w w3 wr : World} {g : Nat} (hb : Below w.heap.size w w3) (hg : w3.grownBy wr (some g)) (hlt : w.heap.size ≤ g) : Below w.heap.size w wr :=
  ⟨hg.os.trans hb.os, hg.tape.trans hb.tape, hg.output.trans hb.output, Nat.le_trans hb.size hg.size, fun i hi => (hg.block i (Nat.lt_of_lt_of_le hi hb.size) (fun e => by have := Option.some.inj e; omega)).trans (hb.block i hi)⟩
/-- The call's two results' cells lie untouched ahead of the decoder. -/
theorem kept_two {w w1 w2 w3 : World} {o1 o2 : Obj} {g : Nat} {u v : Value} (h1 : Below (w.heap.size + 2) ((w.alloc o1).alloc o2) w1) (h2 : Below w1.heap.size w1 w2) (h3 : w3 = (w2.setCell ⟨g, 1, none⟩ u).setCell ⟨g, 0, none⟩ v) (hg : w.heap.size + 2 ≤ g) :
    w3.heap[w.heap.size]? = some o1 ∧ w3.heap[w.heap.size + 1]? = some o2 := by
  obtain ⟨a1, a2⟩ := two_blocks w o1 o2
  have hs := h1.size
  simp at hs
  subst h3
  exact ⟨(Below.heap_setCell _ ⟨g, 0, none⟩ _ _ (by show w.heap.size ≠ g; omega)).trans ((Below.heap_setCell _ ⟨g, 1, none⟩ _ _ (by show w.heap.size ≠ g; omega)).trans ((h2.block _ (by omega)).trans ((h1.block _ (by omega)).trans a1))),
    (Below.heap_setCell _ ⟨g, 0, none⟩ _ _ (by show w.heap.size + 1 ≠ g; omega)).trans ((Below.heap_setCell _ ⟨g, 1, none⟩ _ _ (by show w.heap.size + 1 ≠ g; omega)).trans ((h2.block _ (by omega)).trans ((h1.block _ (by omega)).trans a2)))⟩
theorem cells_two {w3 w4 : World} {g i j : Nat} {x y : Value} {S T : TypeId} (h0 : w3.heap[i]? = some (.cells #[x] S (0, 0))) (h1 : w3.heap[j]? = some (.cells #[y] T (0, 0))) (hg : w3.grownBy w4 (some g)) (hi : i ≠ g) (hj : j ≠ g) :
    w4.cell? ⟨i, 0, none⟩ = some x ∧ w4.frozen? ⟨i, 0, none⟩ = false ∧ w4.cell? ⟨j, 0, none⟩ = some y ∧ w4.frozen? ⟨j, 0, none⟩ = false := by
  have e0 := (hg.block i (block_lt h0) (fun e => hi (Option.some.inj e))).trans h0
  have e1 := (hg.block j (block_lt h1) (fun e => hj (Option.some.inj e))).trans h1
  exact ⟨blk_cell e0 0, blk_frozen e0 0, blk_cell e1 0, blk_frozen e1 0⟩
/-- Another cell of a block of another type is turned: a row that reads keeps its reading. -/
theorem Kd.reads_set {α : Type} {enc : α → Value} {h1 : ∀ x : α, (enc x).oneCell' = true} {e base k g c n : Nat} {w3 w4 : World} {A : Option Addr} {xs : List α} (h : (Kd.scalar enc h1).R e w4 base (fun _ => True) (.slice A n c) xs)
    (hk : w3.heap[k]? = some (.cells #[.bool false] 4 (0, 0))) (hg : w3.grownBy w4 (some g)) (ht : e ≠ 4) (hne : k ≠ g) : (Kd.scalar enc h1).C (w4.setCell ⟨k, 0, none⟩ (.bool true)) A n xs := by
  have hk4 : w4.heap[k]? = some (.cells #[.bool false] 4 (0, 0)) := (hg.block k (block_lt hk) (fun e => hne (Option.some.inj e))).trans hk
  obtain ⟨A', c', he, _, hc⟩ := Kd.R_reads (Kd.R_set h hk4 (fun q hq => by simp [Kd.scalar] at hq; rw [hq]; exact ht) 0 (.bool true))
  injection he with ha hn _
  subst ha
  subst hn
  exact hc
theorem relT_ok {w3 w4 : World} {g k : Nat} {s : Slc} {v : V} (hk : w3.heap[k]? = some (.cells #[.bool false] 4 (0, 0))) (hg : w3.grownBy w4 (some g)) (hne : k ≠ g) (h : RelT w3 g s v) : RelT (w4.setCell ⟨k, 0, none⟩ (.bool true)) g s v := ⟨h.1, rd_ok hk hg hne h.2⟩
theorem gb_refl (g : Nat) (w : World) : w.grownBy w (some g) := World.grownBy.refl _ _
theorem cells_after {w5 w6 : World} {i j : Nat} {x y : Value} (hb : Below w5.heap.size w5 w6) (e0 : w5.cell? ⟨i, 0, none⟩ = some x) (y0 : w5.frozen? ⟨i, 0, none⟩ = false) (e1 : w5.cell? ⟨j, 0, none⟩ = some y) (y1 : w5.frozen? ⟨j, 0, none⟩ = false) (hi : i < w5.heap.size) (hj : j < w5.heap.size) :
    w6.cell? ⟨i, 0, none⟩ = some x ∧ w6.cell? ⟨j, 0, none⟩ = some y ∧ w6.frozen? ⟨i, 0, none⟩ = false ∧ w6.frozen? ⟨j, 0, none⟩ = false :=
  ⟨(hb.cell (p := ⟨i, 0, none⟩) hi).trans e0, (hb.cell (p := ⟨j, 0, none⟩) hj).trans e1, (hb.frozen (p := ⟨i, 0, none⟩) hi).trans y0, (hb.frozen (p := ⟨j, 0, none⟩) hj).trans y1⟩
theorem cell_twice {w : World} {i j : Nat} {u x y : Value} (h : w.cell? ⟨j, 0, none⟩ = some x) : ((w.setCell ⟨i, 0, none⟩ u).setCell ⟨j, 0, none⟩ y).cell? ⟨j, 0, none⟩ = some y := by
  by_cases e : i = j
  · subst e
    exact World.cell?_setCell_same _ _ _ (World.cell?_setCell_same _ _ _ h)
  · refine World.cell?_setCell_same _ _ _ (u := x) ?_
    rw [World.cell?_setCell_other _ _ _ _ (fun h => e (by injection h))]
    exact h
theorem Kd.R_old {α : Type} {d : Kd α} {e base : Nat} {w : World} {v : Value} {xs : List α} (h : d.R e w base (fun _ => True) v xs) {p : Addr} (hp : p.block < base) (u : Value) : d.R e (w.setCell p u) base (fun _ => True) v xs :=
  Kd.R_mono (Kd.R_far (Kd.R_bound h) (fun k hk he => by obtain ⟨_, h1, _⟩ := hk; omega) u) (fun _ _ => trivial)

end Go.Proofs.Ytbghkoalmjfpiaa.Plain
