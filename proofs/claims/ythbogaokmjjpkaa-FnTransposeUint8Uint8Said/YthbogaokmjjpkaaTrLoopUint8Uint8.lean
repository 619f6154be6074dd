/- What a map has at the numbers of a list (u8 to u8): the package's loop writes it, or panics where a number is no place of the map. No condition beyond the lengths. -/
import Derived.Test.YthbogaokmjjpkaaProg
import Derived.Test.YthbogaokmjjpkaaWWords
import Derived.Test.YthbogaokmjjpkaaWMore
import Derived.WalkKit
import Derived.Outline
import Derived.Defers
import Derived.Recover
import Derived.Laws.Panics
import Derived.Deep.QuietTactic
import Derived.BigQuiet
import Derived.Laws.BitsLemmas
import Derived.Laws.BitsAllLaws
namespace Go.Proofs.Ythbogaokmjjpkaa.TrUint8Uint8
open Go.RowKit Go.Proofs.YthbogaokmjjpkaaW.PrintWords
set_option linter.unusedVariables false
set_option linter.unusedSimpArgs false

/-- A number is a place of a map. -/
def inR (p : List Int) (x : Int) : Bool := decide (0 ≤ x ∧ x < (p.length : Int))
def tr (p : List Int) (x : Int) : Int := rd p x % 256
def trs (l p : List Int) (k : Nat) : List Int := (l.take k).map (tr p) ++ List.replicate (l.length - k) 0
theorem trs_zero (l p : List Int) : trs l p 0 = List.replicate l.length 0 := by simp [trs]
theorem trs_all (l p : List Int) : trs l p l.length = l.map (tr p) := by simp [trs]
theorem trs_len (l p : List Int) (k : Nat) (h : k ≤ l.length) : (trs l p k).length = l.length := by simp [trs]; omega
theorem rd_get (l : List Int) (k : Nat) (h : k < l.length) : rd l (k : Int) = l[k] := by
  simp [rd, List.getD_eq_getElem?_getD, List.getElem?_eq_getElem h]
theorem trs_step (l p : List Int) (k : Nat) (h : k < l.length) : (trs l p k).set k (tr p (rd l (k : Int))) = trs l p (k + 1) := by
  unfold trs
  have hl : ((l.take k).map (tr p)).length = k := by simp; omega
  rw [List.set_append_right _ _ (by omega), hl, Nat.sub_self, List.take_succ_eq_append_getElem h, List.map_append, List.append_assoc, rd_get l k h]
  congr 1
  rw [show l.length - k = (l.length - (k + 1)) + 1 by omega, List.replicate_succ]
  rfl
/-- The bounds panic: the world is as it was, but for an answer that may have been drawn. -/
theorem bounds_run {P : Program} (k : IntKind) (x y : Int) (code : BoundsCode) (w : World) :
    ∃ s w', (boundsPanic k x y code : Sem Value).run P w = .halt (.panic (boundsValue P (IntKind.i64.wrap x) y s code.toNat)) w' ∧ (w' = w ∨ w' = w.drew) := by
  unfold boundsPanic boundsValue
  split
  · simp [runtimePanic, goPanic, go_sem]
    generalize (Question.extern "runtime.boundsError.signed" 2).cut (w.tape w.drawn (Question.extern "runtime.boundsError.signed" 2)) = q
    by_cases h : q = 1
    · exact .inr ⟨_, ⟨h, rfl⟩, .inr rfl⟩
    · exact .inl ⟨_, ⟨h, rfl⟩, .inr rfl⟩
  · simp [runtimePanic, goPanic, go_sem]
    by_cases h : k = IntKind.u64
    · exact .inl ⟨_, ⟨h, rfl⟩, .inl rfl⟩
    · exact .inr ⟨_, ⟨h, rfl⟩, .inl rfl⟩
theorem nil_out {P : Program} (t : TypeId) (cap : Nat) (k : IntKind) (i : Int) (w : World) (h : P.underlying t = some (.slice (P.elem t))) :
    ∃ s w', (Instr.indexAt t (.slice none 0 cap) (.int k i)).run P w = .halt (.panic (boundsValue P (IntKind.i64.wrap i) 0 s 0)) w' ∧ (w' = w ∨ w' = w.drew) := by
  have e : (Instr.indexAt t (.slice none 0 cap) (.int k i)).run P w = (boundsPanic k i 0 .index).run P w := by
    simp [Instr.indexAt, run_underlying h, asIntOf]
  rw [e]
  exact bounds_run k i 0 .index w
theorem grown_drew {w wr w' : World} {r : Option Nat} (h : w.grownBy wr r) (hw : w' = wr ∨ w' = wr.drew) : w.grownBy w' r := by
  rcases hw with rfl | rfl
  · exact h
  · exact ⟨h.os, h.tape, h.output, h.size, h.block⟩
def Died (e : Ending) : Prop := ∃ u pv, e = .panicked [{ v := .iface u pv, recovered := false }]
def TrPost (w : World) (g : Nat) (l p : List Int) (e : Ending) (w' : World) : Prop :=
  w.grownBy w' (some g) ∧ ((e = .returned (.tuple #[]) ∧ l.all (inR p) = true ∧ w'.heap[g]? = some (.cells (nums .u8 (l.map (tr p))).toArray 5 (0, 0))) ∨ (Died e ∧ l.all (inR p) = false))
theorem all_take_succ (l p : List Int) (k : Nat) (h : k < l.length) : (l.take (k + 1)).all (inR p) = ((l.take k).all (inR p) && inR p (rd l (k : Int))) := by
  rw [List.take_succ_eq_append_getElem h, List.all_append, rd_get l k h]
  simp
theorem all_false (l p : List Int) (k : Nat) (h : k < l.length) (hn : inR p (rd l (k : Int)) = false) : l.all (inR p) = false := by
  rw [List.all_eq_false]
  exact ⟨l[k], List.getElem_mem h, by rw [← rd_get l k h, hn]; simp⟩
theorem set_block {w : World} {g E k : Nat} {xs : List Int} {y : Int} (h : w.heap[g]? = some (.cells (nums .u8 xs).toArray E (0, 0))) :
    (w.setCell ⟨g, k, none⟩ (.int .u8 y)).heap[g]? = some (.cells (nums .u8 (xs.set k y)).toArray E (0, 0)) := by
  simp only [World.setCell, Array.getElem?_modify, if_pos, h]
  simp [nums, List.map_set]
theorem block_cell {w : World} {g E k : Nat} {xs : List Int} (h : w.heap[g]? = some (.cells (nums .u8 xs).toArray E (0, 0))) (hk : k < xs.length) : w.cell? ⟨g, k, none⟩ = some (.int .u8 (rd xs (k : Int))) ∧ w.frozen? ⟨g, k, none⟩ = false := by
  refine ⟨?_, by simp [World.frozen?, h]⟩
  rw [cell_of_row w g k _ E (0, 0) h]
  simp [nums, rd, List.getD_eq_getElem?_getD, List.getElem?_eq_getElem hk]
theorem setCell_grown {w wr : World} {g : Nat} (h : w.grownBy wr (some g)) (k : Nat) (v : Value) : w.grownBy (wr.setCell ⟨g, k, none⟩ v) (some g) :=
  ⟨h.os, h.tape, h.output, by simpa [World.setCell] using h.size, fun j hj hne => (Below.heap_setCell wr ⟨g, k, none⟩ v j (fun e => hne (by rw [e]))).trans (h.block j hj hne)⟩
theorem cells_kept {k : IntKind} {w wr : World} {g : Nat} {A : Option Addr} {n : Nat} {xs : List Int} (hR : ReadsInt w k A n xs) (h : w.grownBy wr (some g)) (hne : 0 < n → ∀ ad, A = some ad → ad.block ≠ g) : ReadsInt wr k A n xs :=
  ⟨hR.1, hR.2.1, fun hn => by
    obtain ⟨ad, e, hc⟩ := hR.2.2 hn
    refine ⟨ad, e, fun j hj => ?_⟩
    have hcj := hc j hj
    have hb : (ad.add j).block = ad.block := by unfold Addr.add; split <;> rfl
    exact h.cell hcj (by rw [hb]; intro e2; exact hne hn ad e (Option.some.inj e2))⟩

set_option maxRecDepth 100000 in
set_option maxHeartbeats 1000000 in
theorem trans_any (A B : Option Addr) (c d : Nat) (l p : List Int) (g cd : Nat) (w : World) (hl : ReadsInt w .u8 A l.length l) (hp : ReadsInt w .i32 B p.length p) (hnl : l.length ≤ 2147483647) (hnp : p.length ≤ 2147483647)
    (hA : 0 < l.length → ∀ ad, A = some ad → ad.block ≠ g) (hB : 0 < p.length → ∀ ad, B = some ad → ad.block ≠ g) (hg : w.heap[g]? = some (.cells (nums .u8 (List.replicate l.length 0)).toArray 5 (0, 0))) :
    Calls Try.prog 23 #[.slice A l.length c, .slice (some ⟨g, 0, none⟩) l.length l.length, .slice B p.length d] w (TrPost w g l p) := by
  have HL := Aside0.mk hl
  have HP := Aside0.mk hp
  have HG := Aside0.mk hg
  have HNA := Aside0.mk hA
  have HNB := Aside0.mk hB
  clear hl hp hg hA hB
  go_enter Try.func23, Try.ntmps23
  go_wp2
  go_loopw [10] (fun i wr => ∃ k : Nat, k ≤ l.length ∧ i = .int .i64 k ∧ Aside0 (wr.heap[g]? = some (.cells (nums .u8 (trs l p k)).toArray 5 (0, 0))) ∧ Aside0 (w.grownBy wr (some g)) ∧ Aside0 ((l.take k).all (inR p) = true)) (fun i _ => l.length - (intOf i).toNat)
  case atStart => exact ⟨0, Nat.zero_le _, rfl, ⟨by rw [trs_zero]; exact HG.out⟩, ⟨World.grownBy.refl w _⟩, ⟨by simp⟩⟩
  case round =>
    obtain ⟨k, hk, rfl, HD, HK, HI⟩ := hrel
    by_cases hlt : k < l.length
    · obtain ⟨ad, ea, hca⟩ := (cells_kept HL.out HK.out HNA.out).at_ (k : Int) (by omega) (by omega)
      subst ea
      rw [Int.toNat_natCast] at hca
      by_cases hin : inR p (rd l (k : Int)) = true
      · have hin2 := of_decide_eq_true hin
        obtain ⟨hi0, hi1⟩ := hin2
        obtain ⟨bd, eb, hcb⟩ := (cells_kept HP.out HK.out HNB.out).at_ (rd l (k : Int)) hi0 hi1
        subst eb
        obtain ⟨hdc, hdf⟩ := block_cell HD.out (k := k) (by rw [trs_len l p k hk]; exact hlt)
        have HS := Aside0.mk (set_block (y := tr p (rd l (k : Int))) (k := k) HD.out)
        have HQ := Aside0.mk (show tr p (rd l (k : Int)) = rd p (rd l (k : Int)) % 256 from rfl)
        have HIN := Aside0.mk hin
        clear hin
        go_wp2
        go_roundw
        case rel => exact ⟨k + 1, by omega, by go_num, ⟨by rw [← trs_step l p k hlt]; exact HS.out⟩, ⟨setCell_grown HK.out _ _⟩, ⟨by rw [all_take_succ l p k hlt, HI.out, HIN.out]; rfl⟩⟩
        case measure => simp [intOf]; omega
      · have HF := Aside0.mk (all_false l p k hlt (by simpa using hin))
        have hout : ¬ (0 ≤ rd l (k : Int) ∧ rd l (k : Int) < (p.length : Int)) := fun h => hin (decide_eq_true h)
        clear hin
        cases B with
        | none =>
          have hpl : p.length = 0 := by
            rcases Nat.eq_zero_or_pos p.length with h | h
            · exact h
            · obtain ⟨_, h2, _⟩ := HP.out.2.2 h
              cases h2
          obtain rfl : p = [] := List.eq_nil_of_length_eq_zero hpl
          clear hpl
          obtain ⟨s, w', hrun, hw'⟩ := nil_out (P := Try.prog) 23 d .u8 (rd l (k : Int)) wr (by kernel_rfl)
          have HW := Aside0.mk hw'
          clear hw' hout
          unfold boundsValue at hrun
          go_wp2
          exact ⟨rfl, grown_drew HK.out HW.out, .inr ⟨⟨_, _, rfl⟩, HF.out⟩⟩
        | some bd =>
          obtain ⟨s, w', hrun, hw'⟩ := bounds_run (P := Try.prog) .u8 (rd l (k : Int)) p.length .index wr
          have HW := Aside0.mk hw'
          clear hw'
          unfold boundsValue at hrun
          go_wp2
          exact ⟨rfl, grown_drew HK.out HW.out, .inr ⟨⟨_, _, rfl⟩, HF.out⟩⟩
    · have hke : k = l.length := by omega
      subst hke
      go_wp2
      go_end0
      exact ⟨HK.out, .inl ⟨rfl, by have := HI.out; rwa [List.take_length] at this, by rw [← trs_all]; exact HD.out⟩⟩

end Go.Proofs.Ythbogaokmjjpkaa.TrUint8Uint8
