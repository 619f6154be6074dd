/- What the thin package's functions need beside the walk of the numbers: a reader that is made, the deferred function, rows of the call's own as lists. -/
import Derived.Test.YtngihompgcjlmaaDoorUnpL
import Derived.Defers
import Derived.Recover
namespace Go.Proofs.YtngihompgcjlmaaDoor.Unp
open Go.RowKit Go.Proofs.YtngihompgcjlmaaDoorW.PrintWords Go.Proofs.YtngihompgcjlmaaDoorW.PrintLast Go.Proofs.YtngihompgcjlmaaDoorW.PrintMore Go.Proofs.YtngihompgcjlmaaDoor.Plowest
set_option linter.unusedVariables false
set_option linter.unusedSimpArgs false

theorem idle (pl po : Addr) (w : World) :
    CallsD Tryd.prog 21 #[.pointer (some pl), .pointer (some po)] .returning w fun e u' w' => e = .returned (.tuple #[]) ∧ u' = .returning ∧ w' = w := by
  refine callsD_of_wpS Tryd.func21 rfl fun c₀ cs hu => ?_
  apply wpS_seq
  apply wpS_region
  simp [wpOpsS, go_sem, recoverD, hu, Tryd.ntmps21, Exit.thenS]
  refine wpS_cond (t := false) (by simp [Act.eval, Array.replicate]) ?_
  simp only [Bool.false_eq_true, if_false]
  refine wpS_of_wp (wp_skip ?_)
  cases c₀
  simp_all [bodyPostS, results, Tryd.results21]
theorem NewReader_any (A : Option Addr) (n c : Nat) (w : World) :
    Calls Tryd.prog 23 #[.slice A n c] w (fun e w' => e = .returned (.pointer (some ⟨w.heap.size, 0, none⟩)) ∧ w' = w.alloc (.cells #[.slice A n c, .int .i64 0, .int .i64 (-1)] 43)) := by
  go_enter Tryd.func23, Tryd.ntmps23
  go_wp2_with fail
  go_ret
  exact ⟨rfl, rfl⟩
theorem NewReader_at (A : Option Addr) (n c k : Nat) (w : World) (hk : k = w.heap.size) :
    Calls Tryd.prog 23 #[.slice A n c] w (fun e w' => e = .returned (.pointer (some ⟨k, 0, none⟩)) ∧ w' = w.alloc (.cells #[.slice A n c, .int .i64 0, .int .i64 (-1)] 43)) := by
  subst hk
  exact NewReader_any A n c w
theorem out_zero (N : Int) (w : Nat) : madeCells #[Value.int .u32 0] 32 = ((List.range 32).map fun k => Value.int .u32 (placeV N w 0 0 k)).toArray := by
  have e : (fun k => Value.int .u32 (placeV N w 0 0 k)) = fun _ => Value.int .u32 0 := by
    funext k
    unfold placeV
    rw [if_neg (by omega)]
    split <;> rfl
  rw [e]
  apply Array.toList_inj.1
  apply List.ext_getElem
  · simp [madeCells]
  · intro i h1 h2
    simp [madeCells, Nat.mod_one]
theorem one_at {w : World} {g t : Nat} {a : Value} (h : w.heap[g]? = some (.cells #[a] t (0, 0))) : w.cell? ⟨g, 0, none⟩ = some a ∧ w.frozen? ⟨g, 0, none⟩ = false := by
  refine ⟨?_, by simp [World.frozen?, h]⟩
  rw [cell_of_row w g 0 _ t (0, 0) h]
  rfl
theorem three (w : World) (o1 o2 o3 : Obj) : (((w.alloc o1).alloc o2).alloc o3).heap[w.heap.size]? = some o1 ∧ (((w.alloc o1).alloc o2).alloc o3).heap[w.heap.size + 1]? = some o2 ∧ (((w.alloc o1).alloc o2).alloc o3).heap[w.heap.size + 1 + 1]? = some o3 := by
  have h1 := heap_alloc_new w o1
  have h2 := heap_alloc_new (w.alloc o1) o2
  have h3 := heap_alloc_new ((w.alloc o1).alloc o2) o3
  have e1 := Below.heap_alloc (w.alloc o1) o2 w.heap.size (by simp)
  have e2 := Below.heap_alloc ((w.alloc o1).alloc o2) o3 w.heap.size (by simp; omega)
  have e3 := Below.heap_alloc ((w.alloc o1).alloc o2) o3 (w.heap.size + 1) (by simp)
  refine ⟨e2.trans (e1.trans h1), ?_, ?_⟩
  · rw [e3]; simpa using h2
  · simpa using h3
theorem four4 (w : World) (o1 o2 o3 o4 : Obj) : ((((w.alloc o1).alloc o2).alloc o3).alloc o4).heap[w.heap.size]? = some o1 ∧ ((((w.alloc o1).alloc o2).alloc o3).alloc o4).heap[w.heap.size + 1]? = some o2 ∧ ((((w.alloc o1).alloc o2).alloc o3).alloc o4).heap[w.heap.size + 1 + 1]? = some o3 ∧ ((((w.alloc o1).alloc o2).alloc o3).alloc o4).heap[w.heap.size + 1 + 1 + 1]? = some o4 := by
  obtain ⟨h1, h2, h3⟩ := three w o1 o2 o3
  have h4 := heap_alloc_new (((w.alloc o1).alloc o2).alloc o3) o4
  have e1 := Below.heap_alloc (((w.alloc o1).alloc o2).alloc o3) o4 w.heap.size (by simp <;> omega)
  have e2 := Below.heap_alloc (((w.alloc o1).alloc o2).alloc o3) o4 (w.heap.size + 1) (by simp <;> omega)
  have e3 := Below.heap_alloc (((w.alloc o1).alloc o2).alloc o3) o4 (w.heap.size + 1 + 1) (by simp)
  exact ⟨e1.trans h1, e2.trans h2, e3.trans h3, by simpa using h4⟩
/-- The call's own variables, the made row, the reader: as they lie at the first word. -/
def O1 (n : Nat) : Obj := .cells #[.slice (some ⟨n + 1 + 1, 0, none⟩) 32 32] 23
def O2 : Obj := .cells #[.bool false] 4
structure AtStart (w : World) (A : Addr) (n c : Nat) (N : Int) (b : Nat) (w4 : World) : Prop where
  var : w4.heap[w.heap.size]? = some (O1 w.heap.size)
  fin : w4.heap[w.heap.size + 1]? = some O2
  out : OutAt w4 (w.heap.size + 1 + 1) N b 0 0
  rdr : RdAt w4 (w.heap.size + 1 + 1 + 1) (some A) n c 0 (-1)
  bel : Below ((w.alloc (O1 w.heap.size)).alloc O2).heap.size ((w.alloc (O1 w.heap.size)).alloc O2) w4
theorem atStart (w : World) (A : Addr) (n c : Nat) (N : Int) (b : Nat) (w4 : World) (h : w4 = ((((w.alloc (O1 w.heap.size)).alloc O2).alloc (.cells (madeCells #[.int .u32 0] 32) 30)).drew).alloc (.cells #[.slice (some A) n c, .int .i64 0, .int .i64 (-1)] 43)) : AtStart w A n c N b w4 := by
  have T := four4 w (O1 w.heap.size) O2 (.cells (madeCells #[.int .u32 0] 32) 30) (.cells #[.slice (some A) n c, .int .i64 0, .int .i64 (-1)] 43)
  subst h
  refine ⟨T.1, T.2.1, ?_, T.2.2.2, ?_⟩
  · refine T.2.2.1.trans ?_
    rw [out_zero N b]
  · exact (((Below.refl _ _).alloc (Nat.le_refl _) _).drew).alloc (by simp) _
theorem own_two {w w5 : World} (hb : Below ((w.alloc (O1 w.heap.size)).alloc O2).heap.size ((w.alloc (O1 w.heap.size)).alloc O2) w5) : w5.heap[w.heap.size]? = some (O1 w.heap.size) ∧ w5.heap[w.heap.size + 1]? = some O2 ∧ w.heap.size + 1 < w5.heap.size ∧ Below w.heap.size w w5 := by
  have h1 := heap_alloc_new w (O1 w.heap.size)
  have h2 := heap_alloc_new (w.alloc (O1 w.heap.size)) O2
  have e1 := Below.heap_alloc (w.alloc (O1 w.heap.size)) O2 w.heap.size (by simp)
  have hs := hb.size
  simp at hs
  refine ⟨(hb.block _ (by simp; omega)).trans (e1.trans h1), (hb.block _ (by simp)).trans (by simpa using h2), by omega, ?_⟩
  exact (((Below.refl w.heap.size w).alloc (Nat.le_refl _) _).alloc (by simp) _).trans (hb.mono (by simp; omega))
/-- A row of the call's own reads as a list. -/
theorem C_blk {w : World} {g t : Nat} {l : List Int} (hg : w.heap[g]? = some (.cells (nums .u32 l).toArray t (0, 0))) (hl : l.length ≤ 1000000) : (Kd.int .u32).C w (some ⟨g, 0, none⟩) l.length l := by
  have h : w.ownsRow 0 t 1 (.slice (some ⟨g, 0, none⟩) l.length l.length) l.length (nums .u32 l) :=
    ⟨by simp [nums], .inr ⟨g, l.length, _, rfl, Nat.zero_le _, hg, Nat.le_refl _, by simp only [maxLen]; omega, by simp [nums], by simp [nums, List.take_of_length_le]⟩⟩
  have hR : Kd.R (Kd.int .u32) t w 0 (fun _ => True) (.slice (some ⟨g, 0, none⟩) l.length l.length) l := by
    refine ⟨fun _ _ => True.intro, nums .u32 l, h, ?_⟩
    refine ⟨by simp [nums, Kd.int, Kd.scalar], fun j p hj => ?_⟩
    have hj' : j < l.length := (List.getElem?_eq_some_iff.1 hj).1
    have hp : l[j] = p := (List.getElem?_eq_some_iff.1 hj).2
    show (List.drop (j * 1) (nums .u32 l)).take 1 = [.int .u32 p]
    rw [Nat.mul_one, List.drop_eq_getElem_cons (by simpa [nums] using hj')]
    simp [nums, hp]
  exact (Kd.R_reads' hR).2.2
theorem OutAt.list {W : World} {o : Nat} {N : Int} {w : Nat} (h : OutAt W o N w 32 0) : (Kd.int .u32).C W (some ⟨o, 0, none⟩) 32 (unpacks N w) := by
  have h' : W.heap[o]? = some (.cells ((List.range 32).map fun k => Value.int .u32 (placeV N w 32 0 k)).toArray 30 (0, 0)) := h
  have e : (List.range 32).map (fun k => Value.int .u32 (placeV N w 32 0 k)) = nums .u32 (unpacks N w) := by
    simp only [nums, unpacks, List.map_map]
    apply List.map_congr_left
    intro k hk
    have hk' : k < 32 := by simpa using hk
    simp [placeV, hk']
  rw [e] at h'
  have hC := C_blk h' (by simp [unpacks])
  rwa [show (unpacks N w).length = 32 by simp [unpacks]] at hC
def ImplPost (w0 : World) (N : Int) (w : Nat) (e : Ending) (w' : World) : Prop := ∃ o, e = .returned (.tuple #[.slice (some ⟨o, 0, none⟩) 32 32, .bool true]) ∧ (Kd.int .u32).C w' (some ⟨o, 0, none⟩) 32 (unpacks N w) ∧ Below w0.heap.size w0 w'

def LowPost (m : Nat) (w : World) (e : Ending) (w' : World) : Prop := ∃ A c, e = .returned (.slice (some A) m c) ∧ (Kd.int .u8).C w' (some A) m (low m) ∧ m ≤ c ∧ c ≤ 9223372036854775807 ∧ Below w.heap.size w w'
theorem lowest_any (m : Nat) (h0 : 0 < m) (hm : m ≤ 1000) (z : Int) (hz : z = (m : Int)) (w : World) : Calls Tryd.prog 12 #[.int .i64 z] w (LowPost m w) := by
  subst hz
  refine (laws_lowest.calls (m : Int) (low m) w (lowest_f m h0 hm)).mono ?_
  rintro e w' ⟨v, rfl, hR, hb⟩
  obtain ⟨A, c, rfl⟩ := Kd.R_slice hR
  obtain ⟨g, cap, he, _⟩ := Kd.R_form hR (by rw [low_len]; exact h0)
  obtain ⟨inner, ho⟩ := Kd.R_own hR
  obtain ⟨h1, h2, h3⟩ := Kd.R_reads' hR
  injection he with e1 e2 e3
  subst e1
  rw [low_len] at h2 h3 ⊢
  refine ⟨_, c, rfl, h3, h2, ?_, hb⟩
  rcases ho.2 with h | ⟨g', cap', cells, e', _, _, _, hmx, _⟩
  · cases h.1
  · injection e' with _ _ e3'
    subst e3'
    exact hmx

end Go.Proofs.YtngihompgcjlmaaDoor.Unp
