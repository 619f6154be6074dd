/- The reference's lists on comparisons of one type: values out of numbers, what is due. -/
import Derived.Test.YtmdmpdbnnegpiaaGreatDoorCmR2F
namespace Go.Proofs.YtmdmpdbnnegpiaaGreatDoor.Cmp
open Go.RowKit Go.Proofs.YtmdmpdbnnegpiaaGreatDoorW.PrintWords Go.Proofs.YtmdmpdbnnegpiaaGreatDoorW.PrintLast Go.Proofs.YtmdmpdbnnegpiaaGreatDoorW.PrintMore
set_option linter.unusedVariables false
set_option linter.unusedSimpArgs false

/-- Numbers as values, if all are of the type. -/
def ValsPF (l : List Int) (n : Nat) (w : World) (e : Ending) (w' : World) : Prop := ∃ (v : Value) (b : Bool), e = .returned (.tuple #[v, .bool b]) ∧ (b = true → Kd.R kV 55 w' w.heap.size (fun _ => True) v (l.map mkV) ∧ n ≤ 300 ∧ ∀ x ∈ l, OkF x) ∧ Below w.heap.size w w'
def tvCF : Array Value := #[.int .i64 3, .int .i64 64, .bool false, .int .i64 0, .int .i64 0, .int .i64 0, .string ⟨#[]⟩, .bool false, .slice none 0 0, .slice none 0 0]
theorem map_snoc (l : List Int) (k : Nat) (h : k < l.length) : (l.take (k + 1)).map mkV = (l.take k).map mkV ++ [mkV (l.getD k 0)] := by rw [take_one l k h, List.map_append]; rfl
set_option maxRecDepth 100000 in
set_option maxHeartbeats 8000000 in
theorem asValsF (A : Option Addr) (n c : Nat) (l : List Int) (w : World) (h : ReadsOf (Value.int .u64) (0 : Int) w A n l) (hn : n ≤ 2147483647) (hr : ∀ x ∈ l, 0 ≤ x ∧ x < 18446744073709551616) :
    Calls Tryz.prog 8 #[tv 3 64 false, .slice A n c] w (ValsPF l n w) := by
  have HH := Aside0.mk h
  have HR := Aside0.mk hr
  clear h hr
  go_enter Tryz.func8, Tryz.ntmps8
  go_wp2
  have hk0 := heap_alloc_new w (.cells tvCF 37)
  have HK0 := Aside0.mk (show (w.alloc (.cells tvCF 37)).heap[w.heap.size]? = some (.cells tvCF 37 (0, 0)) from hk0)
  have HB0 := Aside0.mk (show Below w.heap.size w (w.alloc (.cells tvCF 37)) from (Below.refl _ _).alloc (Nat.le_refl _) _)
  change Code.wp _ _ _ _ (w.alloc (.cells tvCF 37))
  clear hk0
  generalize w.alloc (.cells tvCF 37) = w0 at HK0 HB0 ⊢
  go_loopw [6, 12] (fun o i wr => ∃ k : Nat, k ≤ n ∧ i = .int .i64 k ∧ Aside0 (Kd.R kV 55 wr w0.heap.size (fun _ => True) o ((l.take k).map mkV)) ∧ Aside0 (Below w0.heap.size w0 wr) ∧ Aside0 (∀ x ∈ l.take k, OkF x)) (fun _ i _ => n - (intOf i).toNat)
  case atStart => exact ⟨0, Nat.zero_le _, rfl, ⟨by simpa using Kd.R_nil _ _ _ _ _⟩, ⟨Below.refl _ _⟩, ⟨by simp⟩⟩
  case round =>
    obtain ⟨k, hk, rfl, HO, HB, HX⟩ := hrel
    have HBW := Aside0.mk (HB0.out.trans (HB.out.mono HB0.out.size))
    by_cases hlt : k < n
    · obtain ⟨hl, _, h3⟩ := HH.out.below HBW.out
      obtain ⟨a, rfl, hc⟩ := h3 (by omega)
      have c0 := hc k hlt
      have hkl : k < l.length := by omega
      obtain ⟨x0, x1⟩ := HR.out (l.getD k 0) (by rw [List.getD_eq_getElem?_getD, List.getElem?_eq_getElem hkl]; exact List.getElem_mem hkl)
      have HS := Aside0.mk (map_snoc l k hkl)
      have HT := Aside0.mk (take_one l k hkl)
      have HL := Aside0.mk (show ((l.take k).map mkV).length = k by rw [List.length_map, List.length_take]; omega)
      generalize l.getD k 0 = x at c0 x0 x1 HS HT
      have HF := Aside0.mk (fun W => fitsVF x W x0 x1)
      have hb0 := (HB.out.block _ (block_lt HK0.out)).trans HK0.out
      have hwl : w.heap.size < wr.heap.size := block_lt hb0
      have f0 : wr.cell? ⟨w.heap.size, 0, none⟩ = some (.int .i64 3) := blk_cell hb0 0
      have f1 : wr.cell? ⟨w.heap.size, 1, none⟩ = some (.int .i64 64) := blk_cell hb0 1
      have f2 : wr.cell? ⟨w.heap.size, 2, none⟩ = some (.bool false) := blk_cell hb0 2
      have f3 : wr.cell? ⟨w.heap.size, 3, none⟩ = some (.int .i64 0) := blk_cell hb0 3
      have f4 : wr.cell? ⟨w.heap.size, 4, none⟩ = some (.int .i64 0) := blk_cell hb0 4
      have f5 : wr.cell? ⟨w.heap.size, 5, none⟩ = some (.int .i64 0) := blk_cell hb0 5
      have f6 : wr.cell? ⟨w.heap.size, 6, none⟩ = some (.string ⟨#[]⟩) := blk_cell hb0 6
      have f7 : wr.cell? ⟨w.heap.size, 7, none⟩ = some (.bool false) := blk_cell hb0 7
      have f8 : wr.cell? ⟨w.heap.size, 8, none⟩ = some (.slice none 0 0) := blk_cell hb0 8
      have f9 : wr.cell? ⟨w.heap.size, 9, none⟩ = some (.slice none 0 0) := blk_cell hb0 9
      clear hb0 h3 hc hl
      by_cases hxm : x < 18446744073709551616
      · have hdx : decide (x < 18446744073709551616) = true := decide_eq_true hxm
        go_wp2_with (first | (go_at_call 20; refine (HF.out _).mono ?_; rintro e w3 ⟨rfl, hb3⟩; have hv := (hb3.block wr.heap.size (by simp)).trans (heap_alloc_new wr _); have g0 : w3.cell? ⟨wr.heap.size, 0, none⟩ = some (.bool false) := blk_cell hv 0; have g1 : w3.cell? ⟨wr.heap.size, 1, none⟩ = some (.int .u64 x) := blk_cell hv 1; have g2 : w3.cell? ⟨wr.heap.size, 2, none⟩ = some (.string ⟨#[]⟩) := blk_cell hv 2; have g3 : w3.cell? ⟨wr.heap.size, 3, none⟩ = some (.slice none 0 0) := blk_cell hv 3; have hb4 : Below wr.heap.size wr w3 := ((Below.refl _ _).alloc (Nat.le_refl _) _).trans (hb3.mono (by simp)); have HB4 := Aside0.mk (HB.out.trans (hb4.mono HB.out.size)); have HO4 := Aside0.mk (Kd.R_below HO.out hb4); clear hb3 hv hb4) | ((with_reducible refine gate_builtin (b := .append) (xs := #[.tmp 22, .tmp 24]) rfl ?_); at_builtin; refine app1 kV (w0 := w0) w0.heap.size rfl (.tmp 22) (.tmp 24) 31 55 (.agg #[.bool false, .int .u64 0, .string ⟨#[]⟩, .slice none 0 0]) 56 rfl Tryz.underlying31 info55 rfl (by decide) (by omega) _ ((l.take k).map mkV) (mkV x) [.bool false, .int .u64 x, .string ⟨#[]⟩, .slice none 0 0] rfl rfl rfl HO4.out HB4.out HB4.out.size (by have := HL.out; omega) ?_; intro v5 w5 ho hb5; rw [← HS.out] at ho; have HO5 := Aside0.mk ho; have HB5 := Aside0.mk hb5; clear ho hb5))
        go_roundw
        case rel => exact ⟨k + 1, by omega, by go_num, HO5, HB5, ⟨by rw [HT.out]; intro y hy; rcases List.mem_append.1 hy with h | h; exact HX.out y h; rw [List.mem_singleton.1 h]; exact ⟨x0, hxm⟩⟩⟩
        case measure => simp [intOf]; omega
      · first
          | exact absurd x1 hxm
          | (have hdx : decide (x < 18446744073709551616) = false := decide_eq_false hxm
             go_wp2_with (first | (go_at_call 20; refine (HF.out _).mono ?_; rintro e w3 ⟨rfl, hb3⟩; have hv := (hb3.block wr.heap.size (by simp)).trans (heap_alloc_new wr _); have g0 : w3.cell? ⟨wr.heap.size, 0, none⟩ = some (.bool false) := blk_cell hv 0; have g1 : w3.cell? ⟨wr.heap.size, 1, none⟩ = some (.int .u64 x) := blk_cell hv 1; have g2 : w3.cell? ⟨wr.heap.size, 2, none⟩ = some (.string ⟨#[]⟩) := blk_cell hv 2; have g3 : w3.cell? ⟨wr.heap.size, 3, none⟩ = some (.slice none 0 0) := blk_cell hv 3; have hb4 : Below wr.heap.size wr w3 := ((Below.refl _ _).alloc (Nat.le_refl _) _).trans (hb3.mono (by simp)); have HB4 := Aside0.mk (HB.out.trans (hb4.mono HB.out.size)); have HO4 := Aside0.mk (Kd.R_below HO.out hb4); clear hb3 hv hb4))
             go_ret2
             exact ⟨_, false, rfl, fun h => absurd h (by decide), HB0.out.trans (HB4.out.mono HB0.out.size)⟩)
    · have hkn : n ≤ k := by omega
      have HKN := Aside0.mk hkn
      clear hkn
      obtain rfl : k = n := by omega
      obtain ⟨A6, c6, rfl, _, _⟩ := Kd.R_reads HO.out
      have hl6 : ((l.take k).map mkV).length = k := by rw [List.length_map, List.length_take]; have := HH.out.1; omega
      rw [hl6] at HO ⊢
      go_wp2
      go_ret2
      have ho := HO.out
      have hxx := HX.out
      have hle := HH.out.1
      rw [List.take_of_length_le (by omega)] at ho hxx
      exact ⟨_, _, rfl, fun h => ⟨Kd.R_lower ho HB0.out.size, by simp at h; omega, hxx⟩, HBW.out⟩

end Go.Proofs.YtmdmpdbnnegpiaaGreatDoor.Cmp
