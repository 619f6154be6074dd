/- The state of an unpacking: what has been read, what has been told; and what each step makes of it. -/
import Derived.Test.YtngihompgcjlmaaDoorUnpF
namespace Go.Proofs.YtngihompgcjlmaaDoor.Unp
open Go.RowKit Go.Proofs.YtngihompgcjlmaaDoorW.PrintWords Go.Proofs.YtngihompgcjlmaaDoorW.PrintLast Go.Proofs.YtngihompgcjlmaaDoorW.PrintMore
set_option linter.unusedVariables false
set_option linter.unusedSimpArgs false

/-- What stands at a place of the numbers: told, half told, not yet. -/
def placeV (N : Int) (w j : Nat) (half : Int) (k : Nat) : Int := if k < j then bitsAt N (w * k) w else if k = j then half else 0
def OutAt (W : World) (o : Nat) (N : Int) (w j : Nat) (half : Int) : Prop := W.heap[o]? = some (.cells ((List.range 32).map fun k => Value.int .u32 (placeV N w j half k)).toArray 30 (0, 0))
theorem OutAt.cell {W : World} {o : Nat} {N : Int} {w j : Nat} {half : Int} (h : OutAt W o N w j half) (k : Nat) (hk : k < 32) : W.cell? ⟨o, k, none⟩ = some (.int .u32 (placeV N w j half k)) := by
  have h' : W.heap[o]? = some (.cells ((List.range 32).map fun k => Value.int .u32 (placeV N w j half k)).toArray 30 (0, 0)) := h
  rw [cell_of_row W o k _ 30 (0, 0) h']
  simp [List.getElem?_map, List.getElem?_range hk]
theorem OutAt.frozen {W : World} {o : Nat} {N : Int} {w j : Nat} {half : Int} (h : OutAt W o N w j half) (k : Nat) : W.frozen? ⟨o, k, none⟩ = false := by
  have h' : W.heap[o]? = some (.cells ((List.range 32).map fun k => Value.int .u32 (placeV N w j half k)).toArray 30 (0, 0)) := h
  simp [World.frozen?, h']
theorem OutAt.set {W : World} {o : Nat} {N : Int} {w j : Nat} {half : Int} (h : OutAt W o N w j half) (i : Nat) (y : Int) (j' : Nat) (half' : Int) (he : ∀ k, k < 32 → (if k = i then y else placeV N w j half k) = placeV N w j' half' k) :
    OutAt (W.setCell ⟨o, i, none⟩ (.int .u32 y)) o N w j' half' := by
  have h' : W.heap[o]? = some (.cells ((List.range 32).map fun k => Value.int .u32 (placeV N w j half k)).toArray 30 (0, 0)) := h
  show (W.setCell ⟨o, i, none⟩ (.int .u32 y)).heap[o]? = _
  simp only [World.setCell, Array.getElem?_modify, if_pos, h', Option.map_some]
  congr 2
  apply Array.toList_inj.1
  apply List.ext_getElem
  · simp
  · intro k h1 h2
    have hk : k < 32 := by simpa using h2
    have := he k hk
    simp [List.getElem_set]
    rw [← this]
    by_cases e : i = k
    · rw [if_pos e, if_pos e.symm]
    · rw [if_neg e, if_neg (fun e' => e e'.symm)]
theorem OutAt.full {W : World} {o : Nat} {N : Int} {w j : Nat} {half : Int} (h : OutAt W o N w j half) (y : Int) (hy : y = bitsAt N (w * j) w) : OutAt (W.setCell ⟨o, j, none⟩ (.int .u32 y)) o N w (j + 1) 0 := by
  refine h.set j y (j + 1) 0 fun k hk => ?_
  unfold placeV
  by_cases e : k = j
  · subst e; rw [if_pos rfl, if_pos (by omega), hy]
  · rw [if_neg e, if_neg e]
    by_cases e2 : k < j
    · rw [if_pos e2, if_pos (by omega)]
    · rw [if_neg e2, if_neg (by omega)]
      split <;> rfl
theorem OutAt.part {W : World} {o : Nat} {N : Int} {w j : Nat} {half : Int} (h : OutAt W o N w j half) (y : Int) : OutAt (W.setCell ⟨o, j, none⟩ (.int .u32 y)) o N w j y := by
  refine h.set j y j y fun k hk => ?_
  unfold placeV
  by_cases e : k = j
  · subst e; rw [if_pos rfl, if_neg (by omega), if_pos rfl]
  · rw [if_neg e, if_neg e, if_neg e]
theorem placeV_at (N : Int) (w j : Nat) (half : Int) : placeV N w j half j = half := by unfold placeV; rw [if_neg (by omega), if_pos rfl]

structure St (w0 : World) (g o p : Nat) (A : Addr) (n c : Nat) (l : List Int) (w m j : Nat) (q x half : Int) (W : World) : Prop where
  rd : RdAt W g (some A) n c (4 * m) q
  wd : WdAt W p x
  out : OutAt W o (num l) w j half
  bel : Below w0.heap.size w0 W
section
variable {w0 : World} {g o p : Nat} {A : Addr} {n c : Nat} {l : List Int} {w m j : Nat} {q x half : Int} {W : World}
theorem St.drew (h : St w0 g o p A n c l w m j q x half W) : St w0 g o p A n c l w m j q x half W.drew := ⟨h.rd, h.wd, h.out, h.bel.drew⟩
theorem St.full (h : St w0 g o p A n c l w m j q x half W) (hg : g ≠ o) (hp : p ≠ o) (ho : w0.heap.size ≤ o) (y : Int) (hy : y = bitsAt (num l) (w * j) w) : St w0 g o p A n c l w m (j + 1) q x 0 (W.setCell ⟨o, j, none⟩ (.int .u32 y)) :=
  ⟨(Below.heap_setCell W _ _ g hg).trans h.rd, (Below.heap_setCell W _ _ p hp).trans h.wd, h.out.full y hy, h.bel.setCell ho _⟩
theorem St.part (h : St w0 g o p A n c l w m j q x half W) (hg : g ≠ o) (hp : p ≠ o) (ho : w0.heap.size ≤ o) (y : Int) : St w0 g o p A n c l w m j q x y (W.setCell ⟨o, j, none⟩ (.int .u32 y)) :=
  ⟨(Below.heap_setCell W _ _ g hg).trans h.rd, (Below.heap_setCell W _ _ p hp).trans h.wd, h.out.part y, h.bel.setCell ho _⟩
def NextPost (w0 : World) (g o p : Nat) (A : Addr) (n c : Nat) (l : List Int) (w m j : Nat) (half : Int) (e : Ending) (w' : World) : Prop := e = .returned (.tuple #[]) ∧ St w0 g o p A n c l w (m + 1) j (-1) (word (num l) m) half w'
theorem St.next (h : St w0 g o p A n c l w m j q x half W) (HC : (Kd.int .u8).C w0 (some A) n l) (HL : l.length = n) (HT : Byt l) (hn : 4 * m + 4 ≤ n) (hc : n ≤ c) (hcm : c ≤ 9223372036854775807) (hg : w0.heap.size ≤ g) (hp : w0.heap.size ≤ p) (hgp : g ≠ p) (hgo : g ≠ o) (hpo : p ≠ o) :
    Calls Tryd.prog 40 #[.iface 34 (.pointer (some ⟨g, 0, none⟩)), .pointer (some ⟨p, 0, none⟩)] W (NextPost w0 g o p A n c l w m j half) := by
  refine (readLittle_any g p A n c m q x l w0 W HC HL HT h.bel h.rd h.wd hn hc hcm hg hp hgp).mono ?_
  rintro e w' ⟨rfl, h1, h2, h3, h4, h5⟩
  exact ⟨rfl, h1, h2, (h3 o (Array.getElem?_eq_some_iff.1 h.out).1 (Ne.symm hgo) (Ne.symm hpo)).trans h.out, h4⟩
theorem St.cells (h : St w0 g o p A n c l w m j q x half W) : W.cell? ⟨p, 0, none⟩ = some (.int .u32 x) ∧ W.frozen? ⟨p, 0, none⟩ = false ∧ (∀ k, k < 32 → W.cell? ⟨o, k, none⟩ = some (.int .u32 (placeV (num l) w j half k))) ∧ (∀ k, W.frozen? ⟨o, k, none⟩ = false) :=
  ⟨h.wd.cell.1, h.wd.cell.2, h.out.cell, h.out.frozen⟩
end
theorem in_word0 (N : Int) (j m w : Nat) (hj : j = 32 * m) (h : w ≤ 32) : bitsAt N j w = word N m % 2 ^ w := by
  have e := in_word N j m 0 w (by omega) (by omega)
  simpa using e
theorem half_or (N : Int) (w j m s t : Nat) (hj : w * j = 32 * m + s) (hs : s < 32) (ht : s + w = 32 + t) (h : t ≤ 32) (hw : w ≤ 32) :
    Go.bits .or .u32 (placeV N w j (word N m / 2 ^ s) j) (word N (m + 1) % 2 ^ t * 2 ^ (32 - s)) = bitsAt N (w * j) w := by
  have hb := word_bd N m
  have hp := p2_pos s
  have hpt := p2_pos t
  have hx : 0 ≤ word N m / 2 ^ s ∧ word N m / 2 ^ s < 2 ^ (32 - s) := by
    refine ⟨Int.ediv_nonneg hb.1 (by omega), Int.ediv_lt_of_lt_mul (by omega) ?_⟩
    rw [← p2_add, show 32 - s + s = 32 by omega]
    have e : (2 : Int) ^ 32 = 4294967296 := rfl
    omega
  have hy : 0 ≤ word N (m + 1) % 2 ^ t ∧ word N (m + 1) % 2 ^ t < 2 ^ t := ⟨Int.emod_nonneg _ (by omega), Int.emod_lt_of_pos _ (by omega)⟩
  rw [placeV_at, two_words N (w * j) m s w t hj hs ht h]
  refine or_u32 (32 - s) _ _ hx hy.1 ?_
  have h1 : word N (m + 1) % 2 ^ t * 2 ^ (32 - s) ≤ (2 ^ t - 1) * 2 ^ (32 - s) := Int.mul_le_mul_of_nonneg_right (by omega) (by have := p2_pos (32 - s); omega)
  have e2 : (2 : Int) ^ t * 2 ^ (32 - s) = 2 ^ w := by rw [← p2_add, show t + (32 - s) = w by omega]
  rw [Int.sub_mul, e2, Int.one_mul] at h1
  have e3 : (2 : Int) ^ w * 2 ^ (32 - w) = 4294967296 := by rw [← p2_add, show w + (32 - w) = 32 by omega]; rfl
  have h2 : (2 : Int) ^ w * 1 ≤ 2 ^ w * 2 ^ (32 - w) := Int.mul_le_mul_of_nonneg_left (p2_pos _) (by have := p2_pos w; omega)
  omega

end Go.Proofs.YtngihompgcjlmaaDoor.Unp
