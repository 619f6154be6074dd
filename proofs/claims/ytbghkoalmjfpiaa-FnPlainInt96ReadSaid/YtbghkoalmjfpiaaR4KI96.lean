/- The law on texts of one length that are read plainly: its Go text returns true. No condition. -/
import Derived.Test.YtbghkoalmjfpiaaR4JI96
namespace Go.Proofs.Ytbghkoalmjfpiaa.Plain
open Go.RowKit Go.Proofs.YtbghkoalmjfpiaaW.PrintWords Go.Proofs.YtbghkoalmjfpiaaW.PrintLast Go.Proofs.YtbghkoalmjfpiaaW.PrintMore Go.Proofs.Ytbghkoalmjfpiaa.PBatchedValues
set_option linter.unusedVariables false
set_option linter.unusedSimpArgs false

def Fine (w : World) (e : Ending) (w' : World) : Prop := e = .returned (.bool true) ∧ Below w.heap.size w w'
theorem lit_V (w : World) (v : V) : Kd.C kV (w.alloc (.cells v.enc.toArray 34)) (some ⟨w.heap.size, 0, none⟩) 1 [v] := by
  have hb := heap_alloc_new w (.cells v.enc.toArray 34)
  refine ⟨rfl, by omega, fun _ => ⟨_, rfl, fun j p hp => ?_⟩⟩
  match j with
  | 0 =>
    simp at hp
    subst hp
    refine ⟨v.enc, rfl, rfl, fun i u hu => ?_⟩
    rw [Nat.zero_mul, Nat.zero_add, add_plain, cell_of_row _ _ i _ 34 (0, 0) hb]
    simpa using hu
  | j + 1 => simp at hp
theorem row_one {w : World} {base : Nat} {v : Value} {x : V} (h : Kd.R kV 34 w base (fun _ => True) v [x]) :
    ∃ g c, v = .slice (some ⟨g, 0, none⟩) 1 c ∧ w.cell? ⟨g, 0, none⟩ = some (.bool x.nul) ∧ w.cell? ⟨g, 1, none⟩ = some (.int .u64 x.num) ∧ w.cell? ⟨g, 2, none⟩ = some (.string x.txt) ∧ w.cell? ⟨g, 3, none⟩ = some (.slice x.kA x.kn x.kc) := by
  obtain ⟨inner, ho⟩ := Kd.R_own h
  obtain ⟨A, c, he, _, hC⟩ := Kd.R_reads h
  obtain ⟨g, cap, hv, _, _⟩ := ho.form (by simp)
  rw [he] at hv
  injection hv with hA _ hc
  subst hA
  obtain ⟨ad, ea, f0, f1, f2, f3⟩ := at_V hC 0 (by simp)
  injection ea with ea
  subst ea
  have e0 : (⟨g, 0, none⟩ : Addr).add (0 * 4) = ⟨g, 0, none⟩ := by simp [Addr.add]
  rw [e0] at f0 f1 f2 f3
  exact ⟨g, c, he, f0, f1, f2, f3⟩
theorem lit_int (w : World) (x : Int) : Kd.C (Kd.int .i64) (w.alloc (.cells #[.int .i64 x] 3)) (some ⟨w.heap.size, 0, none⟩) 1 [x] := c_blk (enc := Value.int .i64) (h1 := fun _ => rfl) (0 : Int) (heap_alloc_new w _) rfl (by omega)
theorem wroteI96 (l : List V) (hs : ∀ v ∈ l, (bytesOf v.txt).length = 12) : Wrote 15 12 false encI96 l := fun v hv => ⟨by show (bytesOf v.txt).length ≤ 1000; rw [hs v hv]; omega, fun W => bytes_fixed 12 false v W (by omega) (by have := hs v hv; rw [bytesOf_length] at this; omega)⟩
theorem fitsI96_of (l : List V) (hs : ∀ v ∈ l, 0 ≤ v.num ∧ v.num < 18446744073709551616 ∧ v.txt.size ≤ maxLen) : Fits 15 12 false (fitsF 12) l := fun v hv hn W => fits_fixed 12 false v W (by omega) hn (hs v hv).2.2
def v1I96 : V := ⟨false, 0, ⟨#[97, 98, 99, 100, 101, 102, 103, 104, 105, 106, 107, 108]⟩, none, 0, 0⟩
/-! ### the law's own first call -/
theorem plainlyI96_first (w : World) : Calls Try.prog 11 #[tv 15 12 false, .slice (some ⟨w.heap.size, 0, none⟩) 1 1] (w.alloc (.cells #[.bool false, .int .u64 0, .string ⟨#[97, 98, 99, 100, 101, 102, 103, 104, 105, 106, 107, 108]⟩, .slice none 0 0] 34)) fun e w' =>
    ∃ A c, e = .returned (.slice A 12 c) ∧ Kd.C (Kd.int .u8) w' A 12 [97, 98, 99, 100, 101, 102, 103, 104, 105, 106, 107, 108] ∧ Below w.heap.size w w' := by
  refine (plainly_any 15 12 false encI96 _ 1 [v1I96] _ (wroteI96 _ (fun v hv => by simp at hv; subst hv; exact (by decide))) (lit_V w v1I96) (by simp)).mono ?_
  rintro e w' ⟨A, n, c, rfl, hn, _, hC, hb⟩
  have e1 : [v1I96].flatMap encI96 = [97, 98, 99, 100, 101, 102, 103, 104, 105, 106, 107, 108] := by decide
  rw [e1] at hn hC
  obtain rfl : n = 12 := hn
  exact ⟨A, c, rfl, hC, ((Below.refl _ _).alloc (Nat.le_refl _) _).trans (hb.mono (by simp))⟩
theorem readI96_first (A : Option Addr) (c : Nat) (w : World) (h : Kd.C (Kd.int .u8) w A 12 [97, 98, 99, 100, 101, 102, 103, 104, 105, 106, 107, 108]) : Calls Try.prog 20 #[.slice A 12 c, .int .i64 1, .slice (some ⟨w.heap.size, 0, none⟩) 1 1] (w.alloc (.cells #[.int .i64 1] 3)) fun e w' =>
    ∃ g c, e = .returned (.tuple #[.slice (some ⟨g, 0, none⟩) 1 c, .bool true]) ∧ w'.cell? ⟨g, 0, none⟩ = some (.bool false) ∧ w'.cell? ⟨g, 1, none⟩ = some (.int .u64 0) ∧ w'.cell? ⟨g, 2, none⟩ = some (.string ⟨#[97, 98, 99, 100, 101, 102, 103, 104, 105, 106, 107, 108]⟩) ∧ w'.cell? ⟨g, 3, none⟩ = some (.slice none 0 0) ∧ Below w.heap.size w w' := by
  have e1 : [v1I96].flatMap encI96 = [97, 98, 99, 100, 101, 102, 103, 104, 105, 106, 107, 108] := by decide
  refine (readI96 0 c 1 1 A _ [v1I96] [v1I96] [1] _ ⟨rfl, trivial, by simp, fun v hv => by simp at hv; subst hv; exact (by decide)⟩ (by decide) (by rw [e1]; exact Kd.C_below h ((Below.refl _ _).alloc (Nat.le_refl _) _)) (lit_int w 1) rfl (by simp) rfl).mono ?_
  rintro e w' ⟨v, rfl, hr, hb⟩
  obtain ⟨g, c', rfl, f0, f1, f2, f3⟩ := row_one hr
  exact ⟨g, c', rfl, f0, f1, f2, f3, ((Below.refl _ _).alloc (Nat.le_refl _) _).trans (hb.mono (by simp))⟩
/-! ### the law -/
set_option maxRecDepth 100000 in
theorem lawI96_big (cut : Int) (A B : Option Addr) (n nb c d : Nat) (w : World) (h : 2147483647 < n ∨ 2147483647 < nb) : Calls Try.prog 7 #[.slice A n c, .int .i64 cut, .slice B nb d] w (Fine w) := by
  by_cases h1 : 2147483647 < n
  · clear h
    go_enter Try.func7, Try.ntmps7
    go_wp2_with fail
    go_ret
    exact ⟨rfl, Below.refl _ _⟩
  · have h2 : 2147483647 < nb := by omega
    clear h
    go_enter Try.func7, Try.ntmps7
    go_wp2_with fail
    go_ret
    exact ⟨rfl, Below.refl _ _⟩

end Go.Proofs.Ytbghkoalmjfpiaa.Plain
