/- What a map has at the numbers of a list (u8 to u8): the thin package's function hands it back, or nothing where a number is no place. No condition beyond the lengths. -/
import Derived.Test.YthbogaokmjjpkaaTrLoopUint8Uint8
namespace Go.Proofs.Ythbogaokmjjpkaa.TrUint8Uint8
open Go.RowKit Go.Proofs.YthbogaokmjjpkaaW.PrintWords
set_option linter.unusedVariables false
set_option linter.unusedSimpArgs false

theorem thin_any (A B : Option Addr) (c d : Nat) (l p : List Int) (g : Nat) (w : World) (hl : ReadsInt w .u8 A l.length l) (hp : ReadsInt w .i32 B p.length p) (hnl : l.length ≤ 2147483647) (hnp : p.length ≤ 2147483647)
    (hA : 0 < l.length → ∀ ad, A = some ad → ad.block ≠ g) (hB : 0 < p.length → ∀ ad, B = some ad → ad.block ≠ g) (hg : w.heap[g]? = some (.cells (nums .u8 (List.replicate l.length 0)).toArray 5 (0, 0))) :
    Calls Try.prog 18 #[.slice A l.length c, .slice (some ⟨g, 0, none⟩) l.length l.length, .slice B p.length d] w (TrPost w g l p) := by
  cases hall : l.all (inR p) with
  | true =>
    have H := Aside0.mk (trans_any A B c d l p g 0 w hl hp hnl hnp hA hB hg)
    have HF := Aside0.mk hall
    clear hl hp hA hB hg hall
    go_enter Try.func18, Try.ntmps18
    go_wp2_with (go_at_call 23; refine H.out.mono ?_; rintro e w1 ⟨hgr, ⟨rfl, ha, hh⟩ | ⟨_, ha⟩⟩; rotate_left; exact absurd HF.out (by rw [ha]; simp); have HGR := Aside0.mk hgr; have HH := Aside0.mk hh; clear hgr hh ha)
    go_end0
    exact ⟨HGR.out, .inl ⟨rfl, HF.out, HH.out⟩⟩
  | false =>
    have H := Aside0.mk (trans_any A B c d l p g 0 w hl hp hnl hnp hA hB hg)
    have HF := Aside0.mk hall
    clear hl hp hA hB hg hall
    go_enter Try.func18, Try.ntmps18
    go_wp2_with (go_at_call 23; refine H.out.mono ?_; rintro e w1 ⟨hgr, ⟨_, ha, _⟩ | ⟨⟨u, pv, rfl⟩, ha⟩⟩; exact absurd HF.out (by rw [ha]; simp); have HGR := Aside0.mk hgr; clear hgr ha)
    exact ⟨rfl, HGR.out, .inr ⟨⟨u, pv, rfl⟩, HF.out⟩⟩

/-! ### the deferred function: a panic is made nothing -/
theorem caught (pl po : Addr) (x : Value) (y : Bool) (u : TypeId) (pv : Value) (older : List PanicEntry) (w : World) (hne : pl ≠ po) (hc : w.cell? pl = some x) (hz : w.frozen? pl = false) (hc2 : w.cell? po = some (.bool y)) (hz2 : w.frozen? po = false) :
    CallsD Try.prog 17 #[.pointer (some pl), .pointer (some po)] (.panicking ({ v := .iface u pv, recovered := false } :: older)) w fun e u' w' =>
      e = .returned (.tuple #[]) ∧ u' = .panicking ({ v := .iface u pv, recovered := true } :: older) ∧ w' = (w.setCell pl (.slice none 0 0)).setCell po (.bool false) := by
  have h2 : (w.setCell pl (.slice none 0 0)).cell? po = some (.bool y) := by rw [World.cell?_setCell_other _ _ _ _ hne]; exact hc2
  refine callsD_of_wpS Try.func17 rfl fun c₀ cs hu => ?_
  apply wpS_seq
  apply wpS_region
  simp [wpOpsS, go_sem, recoverD, hu, Try.ntmps17, Exit.thenS]
  refine wpS_cond (t := true) (by simp [Act.eval, Array.replicate]) ?_
  simp only [if_true]
  apply wpS_region
  simp [wpOpsS, go_sem, hc, hz, hc2, hz2, h2, bodyPostS, results, Try.results17]
theorem idle (pl po : Addr) (w : World) :
    CallsD Try.prog 17 #[.pointer (some pl), .pointer (some po)] .returning w fun e u' w' => e = .returned (.tuple #[]) ∧ u' = .returning ∧ w' = w := by
  refine callsD_of_wpS Try.func17 rfl fun c₀ cs hu => ?_
  apply wpS_seq
  apply wpS_region
  simp [wpOpsS, go_sem, recoverD, hu, Try.ntmps17, Exit.thenS]
  refine wpS_cond (t := false) (by simp [Act.eval, Array.replicate]) ?_
  simp only [Bool.false_eq_true, if_false]
  refine wpS_of_wp (wp_skip ?_)
  cases c₀
  simp_all [bodyPostS, results, Try.results17]

theorem one_at {w : World} {g t : Nat} {a : Value} (h : w.heap[g]? = some (.cells #[a] t (0, 0))) : w.cell? ⟨g, 0, none⟩ = some a ∧ w.frozen? ⟨g, 0, none⟩ = false := by
  refine ⟨?_, by simp [World.frozen?, h]⟩
  rw [cell_of_row w g 0 _ t (0, 0) h]
  rfl
theorem three (w : World) (o1 o2 o3 : Obj) : (((w.alloc o1).alloc o2).alloc o3).heap[w.heap.size]? = some o1 ∧ (((w.alloc o1).alloc o2).alloc o3).heap[w.heap.size + 1]? = some o2 ∧ (((w.alloc o1).alloc o2).alloc o3).heap[w.heap.size + 1 + 1]? = some o3 := by
  have h1 := heap_alloc_new w o1
  have h2 := heap_alloc_new (w.alloc o1) o2
  have h3 := heap_alloc_new ((w.alloc o1).alloc o2) o3
  have e1 := Below.heap_alloc (w.alloc o1) o2 w.heap.size (by simp)
  have e2 := Below.heap_alloc ((w.alloc o1).alloc o2) o3 w.heap.size (by simp; omega)
  have e3 := Below.heap_alloc ((w.alloc o1).alloc o2) o3 (w.heap.size + 1) (by simp)
  refine ⟨e2.trans (e1.trans h1), ?_, ?_⟩
  · rw [e3]; simpa using h2
  · simpa using h3
theorem kept3 {w w1 : World} {o1 o2 o3 : Obj} (h : (((w.alloc o1).alloc o2).alloc o3).grownBy w1 (some (w.heap.size + 1 + 1))) : w1.heap[w.heap.size]? = some o1 ∧ w1.heap[w.heap.size + 1]? = some o2 ∧ w.heap.size + 1 + 1 < w1.heap.size ∧ Below w.heap.size w w1 := by
  obtain ⟨h1, h2, _⟩ := three w o1 o2 o3
  have hs := h.size
  simp only [World.size_alloc] at hs
  refine ⟨(h.block _ (by simp; omega) (by simp; omega)).trans h1, (h.block _ (by simp) (by simp)).trans h2, by omega, ?_⟩
  exact (((((Below.refl _ _).alloc (Nat.le_refl _) _).alloc (by simp) _).alloc (by simp; omega) _).grown h (by simp; omega) (fun k hk => by have := Option.some.inj hk; omega))
theorem made_nums (m : Nat) : madeCells #[Value.int .u8 0] m = (nums .u8 (List.replicate m 0)).toArray := by
  apply Array.toList_inj.1
  apply List.ext_getElem
  · simp [nums, madeCells]
  · intro i h1 h2
    simp [nums, madeCells, Nat.mod_one]
theorem reads_up {k : IntKind} {A : Option Addr} {n : Nat} {xs : List Int} {w w1 : World} (h : ReadsInt w k A n xs) (hb : Below w.heap.size w w1) : ReadsInt w1 k A n xs := h.below hb
theorem thin_ok (A B : Option Addr) (c d : Nat) (l p : List Int) (g : Nat) (w : World) (hl : ReadsInt w .u8 A l.length l) (hp : ReadsInt w .i32 B p.length p) (hnl : l.length ≤ 2147483647) (hnp : p.length ≤ 2147483647)
    (hA : 0 < l.length → ∀ ad, A = some ad → ad.block < g) (hB : 0 < p.length → ∀ ad, B = some ad → ad.block < g) (hg : w.heap[g]? = some (.cells (madeCells #[.int .u8 0] l.length) 5 (0, 0))) (hall : l.all (inR p) = true) :
    Calls Try.prog 18 #[.slice A l.length c, .slice (some ⟨g, 0, none⟩) l.length l.length, .slice B p.length d] w fun e w' =>
      e = .returned (.tuple #[]) ∧ w.grownBy w' (some g) ∧ w'.heap[g]? = some (.cells (nums .u8 (l.map (tr p))).toArray 5 (0, 0)) := by
  refine (thin_any A B c d l p g w hl hp hnl hnp (fun h0 ad h => Nat.ne_of_lt (hA h0 ad h)) (fun h0 ad h => Nat.ne_of_lt (hB h0 ad h)) (by rw [hg, made_nums])).mono ?_
  rintro e w' ⟨h1, ⟨rfl, _, h2⟩ | ⟨_, h2⟩⟩
  · exact ⟨rfl, h1, h2⟩
  · rw [hall] at h2; cases h2
theorem thin_bad (A B : Option Addr) (c d : Nat) (l p : List Int) (g : Nat) (w : World) (hl : ReadsInt w .u8 A l.length l) (hp : ReadsInt w .i32 B p.length p) (hnl : l.length ≤ 2147483647) (hnp : p.length ≤ 2147483647)
    (hA : 0 < l.length → ∀ ad, A = some ad → ad.block < g) (hB : 0 < p.length → ∀ ad, B = some ad → ad.block < g) (hg : w.heap[g]? = some (.cells (madeCells #[.int .u8 0] l.length) 5 (0, 0))) (hall : l.all (inR p) = false) :
    Calls Try.prog 18 #[.slice A l.length c, .slice (some ⟨g, 0, none⟩) l.length l.length, .slice B p.length d] w fun e w' => Died e ∧ w.grownBy w' (some g) := by
  refine (thin_any A B c d l p g w hl hp hnl hnp (fun h0 ad h => Nat.ne_of_lt (hA h0 ad h)) (fun h0 ad h => Nat.ne_of_lt (hB h0 ad h)) (by rw [hg, made_nums])).mono ?_
  rintro e w' ⟨h1, ⟨_, h2, _⟩ | ⟨h2, _⟩⟩
  · rw [hall] at h2; cases h2
  · exact ⟨h2, h1⟩

def OkPost (w : World) (l p : List Int) (e : Ending) (w' : World) : Prop := e = .returned (.tuple #[.slice (some ⟨w.heap.size + 1 + 1, 0, none⟩) l.length l.length, .bool true]) ∧
  w'.heap[w.heap.size + 1 + 1]? = some (.cells (nums .u8 (l.map (tr p))).toArray 5 (0, 0)) ∧ Below w.heap.size w w'
def BadPost (w : World) (e : Ending) (w' : World) : Prop := e = .returned (.tuple #[.slice none 0 0, .bool false]) ∧ Below w.heap.size w w'
set_option maxRecDepth 100000 in
theorem impl_ok (A B : Option Addr) (c d : Nat) (l p : List Int) (w : World) (hl : ReadsInt w .u8 A l.length l) (hp : ReadsInt w .i32 B p.length p) (hnl : l.length ≤ 2147483647) (hnp : p.length ≤ 2147483647)
    (hA : 0 < l.length → ∀ ad, A = some ad → ad.block < w.heap.size) (hB : 0 < p.length → ∀ ad, B = some ad → ad.block < w.heap.size) (hall : l.all (inR p) = true) :
    Calls Try.prog 10 #[.slice A l.length c, .slice B p.length d] w (OkPost w l p) := by
  have hmk := print_make (P := Try.prog) 33 5 .u8 1 Try.underlying33 (by kernel_rfl) (by omega) l.length (by omega)
  have HL := Aside0.mk hl
  have HP := Aside0.mk hp
  have HA := Aside0.mk hA
  have HB := Aside0.mk hB
  have HALL := Aside0.mk hall
  clear hl hp hA hB hall
  go_enter_defers Try.func10, Try.ntmps10
  go_wp2_with (go_at_call 18; refine (thin_ok A B c d l p _ _ (HL.out.below ((((Below.refl _ _).alloc (Nat.le_refl _) _).alloc (by simp) _).alloc (by simp; omega) _)) (HP.out.below ((((Below.refl _ _).alloc (Nat.le_refl _) _).alloc (by simp) _).alloc (by simp; omega) _)) hnl hnp (fun h0 ad h => by have := HA.out h0 ad h; omega) (fun h0 ad h => by have := HB.out h0 ad h; omega) (three w _ _ _).2.2 HALL.out).mono ?_; rintro e w1 ⟨rfl, hgr, hh⟩; obtain ⟨k0, k1, hz, hbel⟩ := kept3 hgr; obtain ⟨hc0, hf0⟩ := one_at k0; obtain ⟨hc1, hf1⟩ := one_at k1; have HH := Aside0.mk hh; have HBEL := Aside0.mk hbel; clear hgr hh k0 k1 hbel)
  refine leaves_cons (f := 17) (args := #[.pointer (some ⟨w.heap.size, 0, none⟩), .pointer (some ⟨w.heap.size + 1, 0, none⟩)]) (by simp) (by simp [go_sem]) ?_
  refine (idle _ _ _).mono ?_
  rintro e u' w'' ⟨rfl, rfl, rfl⟩
  simp [Leaves, settle, results, Try.results10, go_sem, hc0, hc1, hz]
  refine ⟨rfl, ?_, ?_⟩
  · rw [Below.heap_setCell _ _ _ _ (by simp), Below.heap_setCell _ _ _ _ (by simp; omega)]; exact HH.out
  · exact (HBEL.out.setCell (Nat.le_refl _) _).setCell (Nat.le_succ _) _
set_option maxRecDepth 100000 in
theorem impl_bad (A B : Option Addr) (c d : Nat) (l p : List Int) (w : World) (hl : ReadsInt w .u8 A l.length l) (hp : ReadsInt w .i32 B p.length p) (hnl : l.length ≤ 2147483647) (hnp : p.length ≤ 2147483647)
    (hA : 0 < l.length → ∀ ad, A = some ad → ad.block < w.heap.size) (hB : 0 < p.length → ∀ ad, B = some ad → ad.block < w.heap.size) (hall : l.all (inR p) = false) :
    Calls Try.prog 10 #[.slice A l.length c, .slice B p.length d] w (BadPost w) := by
  have hmk := print_make (P := Try.prog) 33 5 .u8 1 Try.underlying33 (by kernel_rfl) (by omega) l.length (by omega)
  have HL := Aside0.mk hl
  have HP := Aside0.mk hp
  have HA := Aside0.mk hA
  have HB := Aside0.mk hB
  have HALL := Aside0.mk hall
  clear hl hp hA hB hall
  go_enter_defers Try.func10, Try.ntmps10
  go_wp2_with (go_at_call 18; refine (thin_bad A B c d l p _ _ (HL.out.below ((((Below.refl _ _).alloc (Nat.le_refl _) _).alloc (by simp) _).alloc (by simp; omega) _)) (HP.out.below ((((Below.refl _ _).alloc (Nat.le_refl _) _).alloc (by simp) _).alloc (by simp; omega) _)) hnl hnp (fun h0 ad h => by have := HA.out h0 ad h; omega) (fun h0 ad h => by have := HB.out h0 ad h; omega) (three w _ _ _).2.2 HALL.out).mono ?_; rintro e w1 ⟨⟨u, pv, rfl⟩, hgr⟩; obtain ⟨k0, k1, hz, hbel⟩ := kept3 hgr; obtain ⟨hc0, hf0⟩ := one_at k0; obtain ⟨hc1, hf1⟩ := one_at k1; have HBEL := Aside0.mk hbel; clear hgr k0 k1 hbel)
  refine leaves_cons (f := 17) (args := #[.pointer (some ⟨w.heap.size, 0, none⟩), .pointer (some ⟨w.heap.size + 1, 0, none⟩)]) (by simp) (by simp [go_sem]) ?_
  refine (caught _ _ _ _ _ _ _ _ (by simp) hc0 hf0 hc1 hf1).mono ?_
  rintro e u' w'' ⟨rfl, rfl, rfl⟩
  simp [Leaves, settle, results, Try.results10, go_sem, hc0, hc1, hz]
  exact ⟨rfl, (HBEL.out.setCell (Nat.le_refl _) _).setCell (Nat.le_succ _) _⟩

end Go.Proofs.Ythbogaokmjjpkaa.TrUint8Uint8
