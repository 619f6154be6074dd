/- Rows of data and of buffers, with what they point at; the parts. -/
import Derived.Test.YtldkpgjpfhoekaaJrN
namespace Go.Proofs.Ytldkpgjpfhoekaa.Join
open Go.RowKit Go.Proofs.YtldkpgjpfhoekaaW.PrintWords Go.Proofs.YtldkpgjpfhoekaaW.PrintLast Go.Proofs.YtldkpgjpfhoekaaW.PrintMore
set_option linter.unusedVariables false
set_option linter.unusedSimpArgs false

theorem IsData.move {w w1 : World} {d : Nat} {x y : Int} (h : IsData w d x y) (hm : w1.heap[d]? = w.heap[d]?) : IsData w1 d x y := by
  obtain ⟨T, b, h⟩ := h
  exact ⟨T, b, hm.trans h⟩
theorem IsData.lt {w : World} {d : Nat} {x y : Int} (h : IsData w d x y) : d < w.heap.size := by
  obtain ⟨T, b, h⟩ := h
  exact block_lt h
theorem IsBuf.move {w w1 : World} {b : Nat} {A : Option Addr} {n c : Nat} (h : IsBuf w b A n c) (hm : w1.heap[b]? = w.heap[b]?) : IsBuf w1 b A n c := by
  unfold IsBuf at *
  exact hm.trans h
theorem IsBuf.lt {w : World} {b : Nat} {A : Option Addr} {n c : Nat} (h : IsBuf w b A n c) : b < w.heap.size := by
  unfold IsBuf at h
  exact block_lt h
def ifc (d : Nat) : Value := .iface 58 (.pointer (some ⟨d, 0, none⟩))
/-- Data: place and length. -/
def kD : Kd (Int × Int) where
  sz := 1
  E := [70]
  K := fun w x cs => ∃ d, cs = [ifc d] ∧ IsData w d x.1 x.2
  M := fun w base ok x cs => ∃ d, cs = [ifc d] ∧ IsData w d x.1 x.2 ∧ ok d ∧ base ≤ d
  K_len := by
    rintro w x cs ⟨d, rfl, _⟩
    rfl
  K_one := by
    rintro w x cs ⟨d, rfl, _⟩ u hu
    rw [List.mem_singleton.1 hu]
    rfl
  K_below := by
    rintro w w1 x cs hb ⟨d, rfl, h⟩
    exact ⟨d, rfl, h.move (hb.block d h.lt)⟩
  K_of_M := by
    rintro w base ok x cs ⟨d, rfl, h, _⟩
    exact ⟨d, rfl, h⟩
  M_mono := by
    rintro w base ok ok' x cs hok ⟨d, rfl, h, h1, h2⟩
    exact ⟨d, rfl, h, hok d h1, h2⟩
  M_bound := by
    rintro w base ok x cs ⟨d, rfl, h, h1, h2⟩
    have hl := h.lt
    obtain ⟨T, b, hh⟩ := h
    exact ⟨d, rfl, ⟨T, b, hh⟩, ⟨h1, h2, hl, 70, List.mem_singleton.2 rfl, _, hh⟩, h2⟩
  M_move := by
    rintro w w1 base ok x cs hm ⟨d, rfl, h, h1, h2⟩
    exact ⟨d, rfl, h.move (hm d h1), h1, h2⟩
  M_lower := by
    rintro w base base' ok x cs hb ⟨d, rfl, h, h1, h2⟩
    exact ⟨d, rfl, h, h1, Nat.le_trans hb h2⟩
/-- Buffers: their bytes. -/
def kB : Kd (List Int) where
  sz := 1
  E := [57, 5]
  K := fun w xs cs => ∃ b A c, cs = [.pointer (some ⟨b, 0, none⟩)] ∧ IsBuf w b A xs.length c ∧ xs.length ≤ c ∧ ReadsOf (Value.int .u8) (0 : Int) w A xs.length xs
  M := fun w base ok xs cs => ∃ b A c, cs = [.pointer (some ⟨b, 0, none⟩)] ∧ IsBuf w b A xs.length c ∧ ok b ∧ base ≤ b ∧ Kd.R (Kd.int .u8) 5 w base ok (.slice A xs.length c) xs
  K_len := by
    rintro w x cs ⟨b, A, c, rfl, _⟩
    rfl
  K_one := by
    rintro w x cs ⟨b, A, c, rfl, _⟩ u hu
    rw [List.mem_singleton.1 hu]
    rfl
  K_below := by
    rintro w w1 x cs hb ⟨b, A, c, rfl, h, hc, hr⟩
    exact ⟨b, A, c, rfl, h.move (hb.block b h.lt), hc, hr.below hb⟩
  K_of_M := by
    rintro w base ok x cs ⟨b, A, c, rfl, h, h1, h2, hr⟩
    obtain ⟨hn, hc, hC⟩ := Kd.R_reads' hr
    exact ⟨b, A, c, rfl, h, hc, Kd.reads_of_C (d := 0) hC⟩
  M_mono := by
    rintro w base ok ok' x cs hok ⟨b, A, c, rfl, h, h1, h2, hr⟩
    exact ⟨b, A, c, rfl, h, hok b h1, h2, Kd.R_mono hr hok⟩
  M_bound := by
    rintro w base ok x cs ⟨b, A, c, rfl, h, h1, h2, hr⟩
    have hl := h.lt
    refine ⟨b, A, c, rfl, h, ⟨h1, h2, hl, 57, by simp, _, h⟩, h2, Kd.R_mono (Kd.R_bound hr) ?_⟩
    rintro k ⟨k1, k2, k3, q, hq, cells, hc⟩
    have hq5 : q = 5 := by simpa [Kd.int, Kd.scalar] using hq
    exact ⟨k1, k2, k3, q, by rw [hq5]; simp, cells, hc⟩
  M_move := by
    rintro w w1 base ok x cs hm ⟨b, A, c, rfl, h, h1, h2, hr⟩
    exact ⟨b, A, c, rfl, h.move (hm b h1), h1, h2, Kd.R_move hr hm⟩
  M_lower := by
    rintro w base base' ok x cs hb ⟨b, A, c, rfl, h, h1, h2, hr⟩
    exact ⟨b, A, c, rfl, h, h1, Nat.le_trans hb h2, Kd.R_lower hr hb⟩
/-- A part: whether it has bytes, the bytes' place, its place and length. -/
structure Pt where
  has : Bool
  A : Option Addr
  n : Nat
  c : Nat
  off : Int
  len : Int
def Pt.enc (p : Pt) : List Value := [.bool p.has, .slice p.A p.n p.c, .int .i64 p.off, .int .i64 p.len]
def pt0 : Pt := ⟨false, none, 0, 0, 0, 0⟩
def kP : Kd Pt where
  sz := 4
  E := []
  K := fun _ x cs => cs = x.enc
  M := fun _ _ _ x cs => cs = x.enc
  K_len := fun h => by rw [h]; rfl
  K_one := fun h u hu => by
    rw [h] at hu
    simp [Pt.enc] at hu
    rcases hu with rfl | rfl | rfl | rfl <;> rfl
  K_below := fun _ h => h
  K_of_M := fun h => h
  M_mono := fun _ h => h
  M_bound := fun h => h
  M_move := fun _ h => h
  M_lower := fun _ h => h
def gp (l : List Pt) (k : Nat) : Pt := l.getD k pt0
theorem at_P {w : World} {A : Option Addr} {n : Nat} {xs : List Pt} (h : Kd.C kP w A n xs) (k : Nat) (h1 : k < n) :
    ∃ ad, A = some ad ∧ w.cell? (ad.add (k * 4)) = some (.bool (gp xs k).has) ∧ w.cell? ⟨(ad.add (k * 4)).block, (ad.add (k * 4)).off + 1, none⟩ = some (.slice (gp xs k).A (gp xs k).n (gp xs k).c) ∧
      w.cell? ⟨(ad.add (k * 4)).block, (ad.add (k * 4)).off + 2, none⟩ = some (.int .i64 (gp xs k).off) ∧ w.cell? ⟨(ad.add (k * 4)).block, (ad.add (k * 4)).off + 3, none⟩ = some (.int .i64 (gp xs k).len) := by
  obtain ⟨ad, c, e, _, hK, hc0⟩ := Kd.C_get h pt0 (k : Int) (by omega) (by omega)
  have hc : ∀ j u, c[j]? = some u → w.cell? (ad.add (k * 4 + j)) = some u := hc0
  have hK : c = (gp xs k).enc := hK
  subst hK
  exact ⟨ad, e, hc 0 _ rfl, by rw [← add_field _ _ 1 (by omega)]; exact hc 1 _ rfl, by rw [← add_field _ _ 2 (by omega)]; exact hc 2 _ rfl, by rw [← add_field _ _ 3 (by omega)]; exact hc 3 _ rfl⟩
theorem at_D {w : World} {A : Option Addr} {n : Nat} {xs : List (Int × Int)} (h : Kd.C kD w A n xs) (k : Nat) (h1 : k < n) :
    ∃ ad d, A = some ad ∧ w.cell? (ad.add k) = some (ifc d) ∧ IsData w d (xs.getD k (0, 0)).1 (xs.getD k (0, 0)).2 := by
  obtain ⟨ad, c, e, _, hK, hc0⟩ := Kd.C_get h (0, 0) (k : Int) (by omega) (by omega)
  obtain ⟨d, hK, hd⟩ := hK
  subst hK
  refine ⟨ad, d, e, ?_, hd⟩
  have := hc0 0 _ rfl
  simpa [kD] using this
theorem at_B {w : World} {A : Option Addr} {n : Nat} {xs : List (List Int)} (h : Kd.C kB w A n xs) (k : Nat) (h1 : k < n) :
    ∃ ad b B c, A = some ad ∧ w.cell? (ad.add k) = some (.pointer (some ⟨b, 0, none⟩)) ∧ IsBuf w b B (xs.getD k []).length c ∧ (xs.getD k []).length ≤ c ∧ ReadsOf (Value.int .u8) (0 : Int) w B (xs.getD k []).length (xs.getD k []) := by
  obtain ⟨ad, c, e, _, hK, hc0⟩ := Kd.C_get h [] (k : Int) (by omega) (by omega)
  obtain ⟨b, B, c1, hK, hd⟩ := hK
  subst hK
  refine ⟨ad, b, B, c1, e, ?_, hd⟩
  have := hc0 0 _ rfl
  simpa [kB] using this
theorem info68 : (Try.prog.info? 68).map (fun i => (i.zero, i.size, i.bytes)) = some (some .nilIface, 1, 16) := by kernel_rfl
theorem info39 : (Try.prog.info? 39).map (fun i => (i.zero, i.size, i.bytes)) = some (some (.pointer none), 1, 8) := by kernel_rfl

end Go.Proofs.Ytldkpgjpfhoekaa.Join
