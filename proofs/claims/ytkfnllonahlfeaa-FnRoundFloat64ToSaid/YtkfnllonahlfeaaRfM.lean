/- Rounding to a multiple: the package's door, the thin package. -/
import Derived.Test.YtkfnllonahlfeaaRfL
import Derived.Laws.EntriesVeiled
namespace Go.Proofs.Ytkfnllonahlfeaa.Rf
open Go.RowKit Ieee
set_option linter.unusedVariables false
set_option linter.unusedSimpArgs false

theorem run_store_float (P : Program) (w : World) (a : Addr) (m : Mode) (k : FloatKind) (b : Nat) : (store a (.float k b) m).run P w = stored P w a (.float k b) m := run_store P w a _ m rfl
attribute [local go_sem] run_store_float
theorem pw_below_drewN {B : Nat} {w W : World} (h : Below B w W) (n : Nat) : Below B w (W.drewN n) := ⟨h.os, h.tape, h.output, h.size, h.block⟩
theorem blk_cell {w : World} {g : Nat} {cs : Array Value} {T : TypeId} (h : w.heap[g]? = some (.cells cs T (0, 0))) (i : Nat) : w.cell? ⟨g, i, none⟩ = cs[i]? := cell_of_row w g i cs T (0, 0) h
theorem blk_frozen {w : World} {g : Nat} {cs : Array Value} {T : TypeId} (h : w.heap[g]? = some (.cells cs T (0, 0))) (i : Nat) : w.frozen? ⟨g, i, none⟩ = false := by simp [World.frozen?, h]
theorem two_blocks (w : World) (o1 o2 : Obj) : ((w.alloc o1).alloc o2).heap[w.heap.size]? = some o1 ∧ ((w.alloc o1).alloc o2).heap[w.heap.size + 1]? = some o2 := by
  have h1 := heap_alloc_new w o1
  have h2 := heap_alloc_new (w.alloc o1) o2
  have e1 := Below.heap_alloc (w.alloc o1) o2 w.heap.size (by simp)
  exact ⟨e1.trans h1, by simpa using h2⟩
theorem block_lt {w : World} {g : Nat} {o : Obj} (h : w.heap[g]? = some o) : g < w.heap.size := by
  rcases Nat.lt_or_ge g w.heap.size with hlt | hge
  · exact hlt
  · rw [Array.getElem?_eq_none hge] at h; cases h
theorem gb_up {w w2 w' : World} {g : Nat} (hb : Below w.heap.size w w2) (hg : w2.grownBy w' (some g)) (h : w.heap.size ≤ g) : Below w.heap.size w w' :=
  ⟨hg.os.trans hb.os, hg.tape.trans hb.tape, hg.output.trans hb.output, Nat.le_trans hb.size hg.size, fun i hi => (hg.block i (Nat.lt_of_lt_of_le hi hb.size) (fun e => by injection e; omega)).trans (hb.block i hi)⟩
set_option maxRecDepth 100000 in
theorem to_same (x mu q m : Nat) (hm : m ≤ 9) (w : World) (hx : Fin x) (hq : D.div x mu = some q) (hqf : Fin q) (hr : Re q = 0) :
    Calls Try.prog 10 #[.float .f64 x, .float .f64 mu, .int .i8 m] w (fun e w' => e = .returned (.tuple #[.float .f64 x, .nilIface]) ∧ Below w.heap.size w w') := by
  obtain ⟨k0, k1⟩ := two_blocks w (.cells #[.float .f64 mu, .int .i8 m, .func (.func (fnN m)) #[] #[]] 45) (.cells #[.nilIface] 35)
  have HC := Aside0.mk (call_same x mu q w.heap.size (.pointer (some ⟨w.heap.size + 1, 0, none⟩)) _ hx hq hqf hr (blk_cell k0 0))
  have HI := Aside0.mk (fun W => impl_fn m hm W)
  have ce : ((w.alloc (.cells #[.float .f64 mu, .int .i8 m, .func (.func (fnN m)) #[] #[]] 45)).alloc (.cells #[.nilIface] 35)).cell? ⟨w.heap.size + 1, 0, none⟩ = some .nilIface := blk_cell k1 0
  have HB := Aside0.mk (show Below w.heap.size w ((w.alloc (.cells #[.float .f64 mu, .int .i8 m, .func (.func (fnN m)) #[] #[]] 45)).alloc (.cells #[.nilIface] 35)) from ((Below.refl _ _).alloc (Nat.le_refl _) _).alloc (by simp) _)
  clear hx hq hqf hr k0 k1 hm
  generalize fnN m = N at HC HI ce HB
  go_enter Try.func10, Try.ntmps10
  go_wp2_with (go_at_call 15; refine (HI.out _).mono ?_; rintro e w' ⟨rfl, rfl⟩)
  generalize (w.alloc (.cells #[.float .f64 mu, .int .i8 m, .func (.func N) #[] #[]] 45)).alloc (.cells #[.nilIface] 35) = w2 at HC ce HB ⊢
  refine (HC.out).mono ?_
  rintro e w' ⟨rfl, rfl⟩
  go_wp2
  go_quiet (fail)
  go_wp2
  go_ret2
  exact ⟨rfl, pw_below_drewN HB.out _⟩
/-- What the package's door hands back. -/
def ToR (m q d x mu : Nat) (w : World) (e : Ending) (w' : World) : Prop := ∃ rv p, Fin rv ∧ U rv = (if upQ m q d then Lo q + 1 else Lo q) * ONE ∧ D.mul rv mu = some p ∧ Num p ∧ Below w.heap.size w w' ∧
  ((rg p = 9218868437227405312 ∧ ∃ v, e = .returned (.tuple #[.float .f64 x, .iface 57 v])) ∨ (rg p ≠ 9218868437227405312 ∧ e = .returned (.tuple #[.float .f64 p, .nilIface])))
set_option maxRecDepth 100000 in
theorem to_round (x mu q d m : Nat) (hm : m ≤ 9) (w : World) (hx : Fin x) (hmu : Fin mu) (hq : D.div x mu = some q) (hqf : Fin q) (hr : Re q ≠ 0) (hd : Rest q d) :
    Calls Try.prog 10 #[.float .f64 x, .float .f64 mu, .int .i8 m] w (ToR m q d x mu w) := by
  obtain ⟨k0, k1⟩ := two_blocks w (.cells #[.float .f64 mu, .int .i8 m, .func (.func (fnN m)) #[] #[]] 45) (.cells #[.nilIface] 35)
  have HC := Aside0.mk (call_round m q d x mu w.heap.size (w.heap.size + 1) hm _ hx hmu hq hqf hr hd (blk_cell k0 0) (blk_cell k0 1) (blk_cell k0 2) (blk_cell k1 0) (blk_frozen k1 0))
  have HI := Aside0.mk (fun W => impl_fn m hm W)
  have ce : ((w.alloc (.cells #[.float .f64 mu, .int .i8 m, .func (.func (fnN m)) #[] #[]] 45)).alloc (.cells #[.nilIface] 35)).cell? ⟨w.heap.size + 1, 0, none⟩ = some .nilIface := blk_cell k1 0
  have HB := Aside0.mk (show Below w.heap.size w ((w.alloc (.cells #[.float .f64 mu, .int .i8 m, .func (.func (fnN m)) #[] #[]] 45)).alloc (.cells #[.nilIface] 35)) from ((Below.refl _ _).alloc (Nat.le_refl _) _).alloc (by simp) _)
  clear hx hq hqf hr k0 k1 hm hmu hd
  generalize fnN m = N at HC HI ce HB
  go_enter Try.func10, Try.ntmps10
  go_wp2_with (go_at_call 15; refine (HI.out _).mono ?_; rintro e w' ⟨rfl, rfl⟩)
  generalize (w.alloc (.cells #[.float .f64 mu, .int .i8 m, .func (.func N) #[] #[]] 45)).alloc (.cells #[.nilIface] 35) = w2 at HC ce HB ⊢
  refine (HC.out).mono ?_
  rintro e w' ⟨rv, p, h1, h2, h3, h4, ⟨h5, rfl, ⟨v, h6⟩, h7⟩ | ⟨h5, rfl, rfl⟩⟩
  · have H := Aside0.mk (And.intro (And.intro h1 h2) (And.intro (And.intro h3 h4) (And.intro h5 h7)))
    clear h1 h2 h3 h4 h5 h7 ce
    go_wp2
    go_quiet (fail)
    go_wp2
    go_ret2
    obtain ⟨⟨a1, a2⟩, ⟨a3, a4⟩, a5, a6⟩ := H.out
    exact ⟨rv, p, a1, a2, a3, a4, pw_below_drewN (gb_up HB.out a6 (Nat.le_succ _)) _, .inl ⟨a5, v, rfl⟩⟩
  · have H := Aside0.mk (And.intro (And.intro h1 h2) (And.intro (And.intro h3 h4) h5))
    clear h1 h2 h3 h4 h5
    go_wp2
    go_quiet (fail)
    go_wp2
    go_ret2
    obtain ⟨⟨a1, a2⟩, ⟨a3, a4⟩, a5⟩ := H.out
    exact ⟨rv, p, a1, a2, a3, a4, pw_below_drewN HB.out _, .inr ⟨a5, rfl⟩⟩
/-! ### the thin package -/
theorem idle (pl po : Addr) (w : World) :
    CallsD Try.prog 9 #[.pointer (some pl), .pointer (some po)] .returning w fun e u' w' => e = .returned (.tuple #[]) ∧ u' = .returning ∧ w' = w := by
  refine callsD_of_wpS Try.func9 rfl fun c₀ cs hu => ?_
  apply wpS_seq
  apply wpS_region
  simp [wpOpsS, go_sem, recoverD, hu, Try.ntmps9, Exit.thenS]
  refine wpS_cond (t := false) (by simp [Act.eval, Array.replicate]) ?_
  simp only [Bool.false_eq_true, if_false]
  refine wpS_of_wp (wp_skip ?_)
  cases c₀
  simp_all [bodyPostS, results, Try.results9]
/-- The call's two results' cells, and what was there at its begin. -/
structure Fra (w W : World) : Prop where
  c0 : W.heap[w.heap.size]? = some (.cells #[.int .u64 0] 22 (0, 0))
  c1 : W.heap[w.heap.size + 1]? = some (.cells #[.bool false] 4 (0, 0))
  bel : Below w.heap.size w W
theorem Fra.step {w W W' : World} (h : Fra w W) (hb : Below W.heap.size W W') : Fra w W' := ⟨(hb.block _ (block_lt h.c0)).trans h.c0, (hb.block _ (block_lt h.c1)).trans h.c1, h.bel.trans (hb.mono h.bel.size)⟩
theorem fra0 (w : World) : Fra w ((w.alloc (.cells #[.int .u64 0] 22)).alloc (.cells #[.bool false] 4)) :=
  ⟨(two_blocks w _ _).1, (two_blocks w _ _).2, ((Below.refl _ _).alloc (Nat.le_refl _) _).alloc (by simp) _⟩
theorem cell_twice {w : World} {p q : Addr} {v u : Value} (h : w.cell? p = some u) (hne : q ≠ p) (v2 : Value) : ((w.setCell p v).setCell q v2).cell? p = some v := by
  rw [World.cell?_setCell_other _ _ _ _ hne]
  exact World.cell?_setCell_same _ _ _ h
theorem cell_last {w : World} {p q : Addr} {v u v2 : Value} (h : w.cell? q = some u) (hne : q ≠ p) : ((w.setCell p v).setCell q v2).cell? q = some v2 :=
  World.cell?_setCell_same _ _ _ (by rw [World.cell?_setCell_other _ _ _ _ (Ne.symm hne)]; exact h)
set_option maxRecDepth 100000 in
theorem impl_same (v mu q m : Nat) (hm : m ≤ 9) (w : World) (hx : Fin v) (hq : D.div v mu = some q) (hqf : Fin q) (hr : Re q = 0) :
    Calls Try.prog 4 #[.int .u64 v, .int .u64 mu, .int .i64 m] w (fun e w' => e = .returned (.tuple #[.int .u64 v, .bool true]) ∧ Below w.heap.size w w') := by
  have f1 := from64 (v : Int)
  have f2 := from64 (mu : Int)
  rw [Int.toNat_natCast] at f1 f2
  have b1 := bits64 v
  have ew : IntKind.i8.wrap (m : Int) = m := by simp [IntKind.wrap, IntKind.bits, IntKind.signed]; omega
  have HF0 := Aside0.mk (fra0 w)
  have HC := Aside0.mk (fun W => to_same v mu q m hm W hx hq hqf hr)
  clear hx hq hqf hr hm
  go_enter_defers Try.func4, Try.ntmps4
  go_upto_region 2 with fail
  have hsz : ((w.alloc (.cells #[.int .u64 0] 22)).alloc (.cells #[.bool false] 4)).heap.size = w.heap.size + 2 := by simp
  generalize (w.alloc (.cells #[.int .u64 0] 22)).alloc (.cells #[.bool false] 4) = ws at HF0 hsz ⊢
  go_wp2_with (go_at_call 10; refine (HC.out _).mono ?_; rintro e w1 ⟨rfl, hb1⟩; have HF1 := Aside0.mk (HF0.out.step hb1); have d0 : w1.cell? ⟨w.heap.size, 0, none⟩ = some (.int .u64 0) := blk_cell HF1.out.c0 0; have z0 := blk_frozen HF1.out.c0 0; have d1 : w1.cell? ⟨w.heap.size + 1, 0, none⟩ = some (.bool false) := blk_cell HF1.out.c1 0; have z1 := blk_frozen HF1.out.c1 0; clear hb1)
  go_region_held3 (fun w' => True) (trivial) (fail)
  go_wp2
  have q0 : ((w1.setCell ⟨w.heap.size, 0, none⟩ (.int .u64 v)).setCell ⟨w.heap.size + 1, 0, none⟩ (.bool true)).cell? ⟨w.heap.size, 0, none⟩ = some (.int .u64 v) := cell_twice d0 (by simp) _
  have q1 : ((w1.setCell ⟨w.heap.size, 0, none⟩ (.int .u64 v)).setCell ⟨w.heap.size + 1, 0, none⟩ (.bool true)).cell? ⟨w.heap.size + 1, 0, none⟩ = some (.bool true) := cell_last d1 (by simp)
  refine leaves_cons (f := 9) (args := #[.pointer (some ⟨w.heap.size, 0, none⟩), .pointer (some ⟨w.heap.size + 1, 0, none⟩)]) (by simp) (by simp [go_sem]) ?_
  refine (idle _ _ _).mono ?_
  rintro e u' w'' ⟨rfl, rfl, rfl⟩
  simp [Leaves, settle, results, Try.results4, go_sem, q0, q1]
  exact ((HF1.out.bel.setCell (p := ⟨w.heap.size, 0, none⟩) (Nat.le_refl _) _).setCell (p := ⟨w.heap.size + 1, 0, none⟩) (Nat.le_succ _) _).drew
def ImplR (m q d v mu : Nat) (w : World) (e : Ending) (w' : World) : Prop := ∃ rv p, Fin rv ∧ U rv = (if upQ m q d then Lo q + 1 else Lo q) * ONE ∧ D.mul rv mu = some p ∧ Num p ∧ Below w.heap.size w w' ∧
  ((rg p = 9218868437227405312 ∧ e = .returned (.tuple #[.int .u64 v, .bool false])) ∨ (rg p ≠ 9218868437227405312 ∧ e = .returned (.tuple #[.int .u64 p, .bool true])))
set_option maxRecDepth 100000 in
theorem impl_round (v mu q d m : Nat) (hm : m ≤ 9) (w : World) (hx : Fin v) (hmu : Fin mu) (hq : D.div v mu = some q) (hqf : Fin q) (hr : Re q ≠ 0) (hd : Rest q d) :
    Calls Try.prog 4 #[.int .u64 v, .int .u64 mu, .int .i64 m] w (ImplR m q d v mu w) := by
  have f1 := from64 (v : Int)
  have f2 := from64 (mu : Int)
  rw [Int.toNat_natCast] at f1 f2
  have b1 := bits64 v
  have ew : IntKind.i8.wrap (m : Int) = m := by simp [IntKind.wrap, IntKind.bits, IntKind.signed]; omega
  have HF0 := Aside0.mk (fra0 w)
  have HC := Aside0.mk (fun W => to_round v mu q d m hm W hx hmu hq hqf hr hd)
  clear hx hq hqf hr hm hmu hd
  go_enter_defers Try.func4, Try.ntmps4
  go_upto_region 2 with fail
  have hsz : ((w.alloc (.cells #[.int .u64 0] 22)).alloc (.cells #[.bool false] 4)).heap.size = w.heap.size + 2 := by simp
  generalize (w.alloc (.cells #[.int .u64 0] 22)).alloc (.cells #[.bool false] 4) = ws at HF0 hsz ⊢
  go_wp2_with fail
  refine (HC.out _).mono ?_
  rintro e w1 ⟨rv, p, h1, h2, h3, h4, hb1, ⟨h5, ev, rfl⟩ | ⟨h5, rfl⟩⟩
  · have H := Aside0.mk (And.intro (And.intro h1 h2) (And.intro (And.intro h3 h4) h5))
    have HF1 := Aside0.mk (HF0.out.step hb1)
    have d0 : w1.cell? ⟨w.heap.size, 0, none⟩ = some (.int .u64 0) := blk_cell HF1.out.c0 0
    have z0 := blk_frozen HF1.out.c0 0
    have d1 : w1.cell? ⟨w.heap.size + 1, 0, none⟩ = some (.bool false) := blk_cell HF1.out.c1 0
    have z1 := blk_frozen HF1.out.c1 0
    clear hb1 h1 h2 h3 h4 h5
    go_wp2
    go_region_held3 (fun w' => True) (trivial) (fail)
    go_wp2
    have q0 : ((w1.setCell ⟨w.heap.size, 0, none⟩ (.int .u64 v)).setCell ⟨w.heap.size + 1, 0, none⟩ (.bool false)).cell? ⟨w.heap.size, 0, none⟩ = some (.int .u64 v) := cell_twice d0 (by simp) _
    have q1 : ((w1.setCell ⟨w.heap.size, 0, none⟩ (.int .u64 v)).setCell ⟨w.heap.size + 1, 0, none⟩ (.bool false)).cell? ⟨w.heap.size + 1, 0, none⟩ = some (.bool false) := cell_last d1 (by simp)
    refine leaves_cons (f := 9) (args := #[.pointer (some ⟨w.heap.size, 0, none⟩), .pointer (some ⟨w.heap.size + 1, 0, none⟩)]) (by simp) (by simp [go_sem]) ?_
    refine (idle _ _ _).mono ?_
    rintro e u' w'' ⟨rfl, rfl, rfl⟩
    simp [Leaves, settle, results, Try.results4, go_sem, q0, q1]
    obtain ⟨⟨a1, a2⟩, ⟨a3, a4⟩, a5⟩ := H.out
    exact ⟨rv, p, a1, a2, a3, a4, ((HF1.out.bel.setCell (p := ⟨w.heap.size, 0, none⟩) (Nat.le_refl _) _).setCell (p := ⟨w.heap.size + 1, 0, none⟩) (Nat.le_succ _) _).drew, .inl ⟨a5, rfl⟩⟩
  · have H := Aside0.mk (And.intro (And.intro h1 h2) (And.intro (And.intro h3 h4) h5))
    have b2 := bits64 p
    have HF1 := Aside0.mk (HF0.out.step hb1)
    have d0 : w1.cell? ⟨w.heap.size, 0, none⟩ = some (.int .u64 0) := blk_cell HF1.out.c0 0
    have z0 := blk_frozen HF1.out.c0 0
    have d1 : w1.cell? ⟨w.heap.size + 1, 0, none⟩ = some (.bool false) := blk_cell HF1.out.c1 0
    have z1 := blk_frozen HF1.out.c1 0
    clear hb1 h1 h2 h3 h4 h5
    go_wp2
    go_region_held3 (fun w' => True) (trivial) (fail)
    go_wp2
    have q0 : ((w1.setCell ⟨w.heap.size, 0, none⟩ (.int .u64 p)).setCell ⟨w.heap.size + 1, 0, none⟩ (.bool true)).cell? ⟨w.heap.size, 0, none⟩ = some (.int .u64 p) := cell_twice d0 (by simp) _
    have q1 : ((w1.setCell ⟨w.heap.size, 0, none⟩ (.int .u64 p)).setCell ⟨w.heap.size + 1, 0, none⟩ (.bool true)).cell? ⟨w.heap.size + 1, 0, none⟩ = some (.bool true) := cell_last d1 (by simp)
    refine leaves_cons (f := 9) (args := #[.pointer (some ⟨w.heap.size, 0, none⟩), .pointer (some ⟨w.heap.size + 1, 0, none⟩)]) (by simp) (by simp [go_sem]) ?_
    refine (idle _ _ _).mono ?_
    rintro e u' w'' ⟨rfl, rfl, rfl⟩
    simp [Leaves, settle, results, Try.results4, go_sem, q0, q1]
    obtain ⟨⟨a1, a2⟩, ⟨a3, a4⟩, a5⟩ := H.out
    exact ⟨rv, p, a1, a2, a3, a4, ((HF1.out.bel.setCell (p := ⟨w.heap.size, 0, none⟩) (Nat.le_refl _) _).setCell (p := ⟨w.heap.size + 1, 0, none⟩) (Nat.le_succ _) _).drew, .inr ⟨a5, rfl⟩⟩

end Go.Proofs.Ytkfnllonahlfeaa.Rf
