/- A reader over bytes: what it reads, four bytes at a time; the walks. -/
import Derived.Test.YtngihompgcjlmaaDoorUnpP
import Derived.Test.YtngihompgcjlmaaDoorPunpackedx1
import Derived.Test.YtngihompgcjlmaaDoorPlowestx1
import Derived.WalkKit
import Derived.WalkSpells
import Derived.Outline
import Derived.RegionTactic
import Derived.BigRegion
import Derived.BigQuiet
import Derived.Deep.RegionLaw
import Derived.Deep.RegionWith
import Derived.Deep.RegionHeld3
import Derived.Laws.CopyOwn
import Derived.Laws.BitsLemmas
namespace Go.Proofs.YtngihompgcjlmaaDoor.Unp
open Go.RowKit Go.Proofs.YtngihompgcjlmaaDoorW.PrintWords Go.Proofs.YtngihompgcjlmaaDoorW.PrintLast Go.Proofs.YtngihompgcjlmaaDoorW.PrintMore
set_option linter.unusedVariables false
set_option linter.unusedSimpArgs false

/-- A reader in memory: its bytes, how far it is, the last letter's place. -/
def RdAt (W : World) (g : Nat) (A : Option Addr) (n c i : Nat) (q : Int) : Prop := W.heap[g]? = some (.cells #[.slice A n c, .int .i64 (i : Int), .int .i64 q] 43 (0, 0))
theorem RdAt.cells {W : World} {g : Nat} {A : Option Addr} {n c i : Nat} {q : Int} (h : RdAt W g A n c i q) :
    W.cell? ⟨g, 0, none⟩ = some (.slice A n c) ∧ W.cell? ⟨g, 1, none⟩ = some (.int .i64 (i : Int)) ∧ W.cell? ⟨g, 2, none⟩ = some (.int .i64 q) ∧ W.frozen? ⟨g, 0, none⟩ = false ∧ W.frozen? ⟨g, 1, none⟩ = false ∧ W.frozen? ⟨g, 2, none⟩ = false := by
  have h' : W.heap[g]? = some (.cells #[.slice A n c, .int .i64 (i : Int), .int .i64 q] 43 (0, 0)) := h
  refine ⟨?_, ?_, ?_, ?_, ?_, ?_⟩
  · rw [cell_of_row W g 0 _ 43 (0, 0) h']; rfl
  · rw [cell_of_row W g 1 _ 43 (0, 0) h']; rfl
  · rw [cell_of_row W g 2 _ 43 (0, 0) h']; rfl
  · simp [World.frozen?, h']
  · simp [World.frozen?, h']
  · simp [World.frozen?, h']
theorem RdAt.set1 {W : World} {g : Nat} {A : Option Addr} {n c i j : Nat} {q : Int} {y : Int} (h : RdAt W g A n c i q) (hy : y = (j : Int)) : RdAt (W.setCell ⟨g, 1, none⟩ (.int .i64 y)) g A n c j q := by
  subst hy
  have h' : W.heap[g]? = some (.cells #[.slice A n c, .int .i64 (i : Int), .int .i64 q] 43 (0, 0)) := h
  show (W.setCell ⟨g, 1, none⟩ (.int .i64 (j : Int))).heap[g]? = _
  simp only [World.setCell, Array.getElem?_modify, if_pos, h']
  simp
theorem RdAt.set2 {W : World} {g : Nat} {A : Option Addr} {n c i : Nat} {q y : Int} (h : RdAt W g A n c i q) : RdAt (W.setCell ⟨g, 2, none⟩ (.int .i64 y)) g A n c i y := by
  have h' : W.heap[g]? = some (.cells #[.slice A n c, .int .i64 (i : Int), .int .i64 q] 43 (0, 0)) := h
  show (W.setCell ⟨g, 2, none⟩ (.int .i64 y)).heap[g]? = _
  simp only [World.setCell, Array.getElem?_modify, if_pos, h']
  simp
/-- Four bytes from a place on, as they lie in memory. -/
def four (l : List Int) (i : Nat) : List Value := [.int .u8 (rd l (i : Int)), .int .u8 (rd l ((i + 1 : Nat) : Int)), .int .u8 (rd l ((i + 2 : Nat) : Int)), .int .u8 (rd l ((i + 3 : Nat) : Int))]
theorem four_src {W : World} {A : Addr} {n : Nat} {l : List Int} (h : (Kd.int .u8).C W (some A) n l) (i : Nat) (hi : i + 4 ≤ n) : ∀ j v, (four l i)[j]? = some v → W.cell? ((A.add i).add j) = some v := by
  have at_ : ∀ k : Nat, k < 4 → W.cell? ((A.add i).add k) = some (.int .u8 (rd l ((i + k : Nat) : Int))) := by
    intro k hk
    obtain ⟨ad, e, hc⟩ := Kd.at_int h ((i + k : Nat) : Int) (by omega) (by omega)
    cases e
    rw [Int.toNat_natCast] at hc
    rw [show (A.add i).add k = A.add (i + k) by simp only [Addr.add]; by_cases h1 : i = 0 <;> by_cases h2 : k = 0 <;> simp [h1, h2, Nat.add_assoc]]
    exact hc
  intro j v hj
  match j, hj with
  | 0, hj => cases hj; exact at_ 0 (by omega)
  | 1, hj => cases hj; exact at_ 1 (by omega)
  | 2, hj => cases hj; exact at_ 2 (by omega)
  | 3, hj => cases hj; exact at_ 3 (by omega)
def ReadPost (w0 : World) (g h : Nat) (A : Addr) (n c i t : Nat) (l : List Int) (w : World) (e : Ending) (w' : World) : Prop :=
  e = .returned (.tuple #[.int .i64 4, .nilIface]) ∧ RdAt w' g (some A) n c (i + 4) (-1) ∧ w'.heap[h]? = some (.cells (four l i).toArray t (0, 0)) ∧ (∀ k, k < h → k ≠ g → w'.heap[k]? = w.heap[k]?) ∧ Below w0.heap.size w0 w' ∧ w.heap.size ≤ w'.heap.size

set_option maxRecDepth 100000 in
set_option maxHeartbeats 4000000 in
theorem Read_any (g h : Nat) (A : Addr) (n c i t : Nat) (q : Int) (l : List Int) (x0 x1 x2 x3 : Value) (w0 w : World) (HC : (Kd.int .u8).C w0 (some A) n l) (HB : Below w0.heap.size w0 w) (hR : RdAt w g (some A) n c i q) (hH : w.heap[h]? = some (.cells #[x0, x1, x2, x3] t (0, 0)))
    (hn : i + 4 ≤ n) (hc : n ≤ c) (hcm : c ≤ 9223372036854775807) (hg : w0.heap.size ≤ g) (hgh : g < h) :
    Calls Tryd.prog 60 #[.pointer (some ⟨g, 0, none⟩), .slice (some ⟨h, 0, none⟩) 4 4] w (ReadPost w0 g h A n c i t l w) := by
  have HCH := Aside0.mk HC
  have HBH := Aside0.mk HB
  have HRH := Aside0.mk hR
  have HHH := Aside0.mk hH
  obtain ⟨c0, c1, c2, f0, f1, f2⟩ := hR.cells
  clear HC HB hR hH
  go_enter Tryd.func60, Tryd.ntmps60
  go_wp2_with fail
  go_region
  go_wp2_with fail
  have hne : h ≠ g := by omega
  have hne' : ¬ g = h := by omega
  have hci : ¬ c = i := by omega
  have hic : i ≤ c := by omega
  have hin : i ≤ n := by omega
  have HR2 := Aside0.mk (show RdAt (w.setCell ⟨g, 2, none⟩ (.int .i64 (-1))).drew g (some A) n c i (-1) from HRH.out.set2)
  have HB2 := Aside0.mk (show Below w0.heap.size w0 (w.setCell ⟨g, 2, none⟩ (.int .i64 (-1))).drew from (HBH.out.setCell hg _).drew)
  have HC2 := Aside0.mk (Kd.C_below HCH.out HB2.out)
  have HH2 := Aside0.mk (show (w.setCell ⟨g, 2, none⟩ (.int .i64 (-1))).drew.heap[h]? = some (.cells [x0, x1, x2, x3].toArray t (0, 0)) from (Below.heap_setCell w _ _ h hne).trans HHH.out)
  have HS2 := Aside0.mk (four_src HC2.out i hn)
  go_region_law (refine step_copy_splice rfl (.tmp 20) (.tmp 29) 22 22 rfl 5 Tryd.underlying22 (by kernel_rfl) (some ⟨h, 0, none⟩) (some (A.add i)) 4 4 (n - i) (c - i) (by simp [Act.eval, Act.put]) (by simp [Act.eval, Act.put]) h 0 [x0, x1, x2, x3] t HH2.out [.int .u8 (rd l (i : Int)), .int .u8 (rd l ((i + 1 : Nat) : Int)), .int .u8 (rd l ((i + 2 : Nat) : Int)), .int .u8 (rd l ((i + 3 : Nat) : Int))] (Nat.min_eq_right (show 4 ≤ n - i by omega)).symm (fun _ => ⟨rfl, _, rfl, HS2.out⟩) (by simp) (by simp [Value.oneCell']) h (w.setCell ⟨g, 2, none⟩ (.int .i64 (-1))).drew (Below.refl _ _).drew (Nat.le_refl _) ?_; intro w2 HG2 HB2b; have HR3 := Aside0.mk (show RdAt w2 g (some A) n c i (-1) from (HB2b.block g hgh).trans HR2.out); have HB3 := Aside0.mk HB2b; have HH3 := Aside0.mk HG2.out; obtain ⟨d0, d1, d2, e0, e1, e2⟩ := HR3.out.cells; clear HG2 HB2b)
  all_goals
    go_wp2_with fail
    go_ret2
    refine ⟨rfl, HR3.out.set1 (by omega), ?_, ?_, ?_, ?_⟩
    · rw [Below.heap_setCell _ _ _ _ hne, HH3.out]
      rfl
    · intro k hk hkg
      rw [Below.heap_setCell _ _ _ _ hkg, HB3.out.block k hk]
      exact Below.heap_setCell w _ _ k hkg
    · exact (HB2.out.trans (HB3.out.mono (by omega))).setCell hg _
    · have := HB3.out.size
      simp at this ⊢
      exact this

end Go.Proofs.YtngihompgcjlmaaDoor.Unp
