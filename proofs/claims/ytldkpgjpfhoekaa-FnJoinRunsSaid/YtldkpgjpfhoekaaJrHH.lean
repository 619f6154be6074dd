/- The package's own reading of a row of bytes: one value, all of them. -/
import Derived.Test.YtldkpgjpfhoekaaJrGH
namespace Go.Proofs.Ytldkpgjpfhoekaa.Join
open Go.RowKit Go.Proofs.YtldkpgjpfhoekaaW.PrintWords Go.Proofs.YtldkpgjpfhoekaaW.PrintLast Go.Proofs.YtldkpgjpfhoekaaW.PrintMore
set_option linter.unusedVariables false
set_option linter.unusedSimpArgs false

theorem usL_atH (l : List Int) (i : Nat) (h : i < l.length) : (l.map (fun x => x % 65536)).getD i 0 = l.getD i 0 % 65536 := by
  simp [List.getD_eq_getElem?_getD, h]
set_option maxRecDepth 100000 in
set_option maxHeartbeats 4000000 in
theorem infoNH : (Try.prog.info? 63).map (fun i => (i.zero, i.size, i.bytes)) = some (some (.int .i16 0), 1, 2) := by kernel_rfl
set_option maxRecDepth 100000 in
set_option maxHeartbeats 4000000 in
theorem getAtH (A : Option Addr) (n c i : Nat) (l : List Int) (w : World) (h : ReadsOf (Value.int .u8) (0 : Int) w A n (bytesL 2 (l.map (fun x => x % 65536)))) (hc : n ≤ c) (hi : i < l.length) (hl : l.length ≤ 10000) (hok : ∀ x ∈ l, OkH x) :
    Calls Try.prog 36 #[.slice A n c, .int .i64 i] w fun e w' => e = .returned (encH (l.getD i 0)) ∧ Below w.heap.size w w' := by
  have hn : n = l.length * 2 := by have := h.1; rw [bytesL_len, List.length_map] at this; omega
  obtain ⟨p, hp⟩ : ∃ p, i * 2 = p := ⟨_, rfl⟩
  have hpn : p + 2 ≤ n := by omega
  obtain ⟨a, rfl, _⟩ := h.2.2 (by omega)
  have hr : ∀ w1, Below w.heap.size w w1 → ReadsOf (Value.int .u8) (0 : Int) w1 (some (a.add p)) 2 (((bytesL 2 (l.map (fun x => x % 65536))).drop p).take 2) := fun w1 hb => reads_mid (h.below hb) p 2 hpn
  have hb : ((bytesL 2 (l.map (fun x => x % 65536))).drop p).take 2 = le (l.getD i 0 % 65536) 2 := by have := bytesL_at 2 (l.map (fun x => x % 65536)) i (by rw [List.length_map]; exact hi); rwa [show 2 * i = p by omega, usL_atH l i hi] at this
  rw [hb] at hr
  have hx : OkH (l.getD i 0) := by
    rw [List.getD_eq_getElem?_getD, List.getElem?_eq_getElem hi]
    exact hok _ (List.getElem_mem hi)
  have e1 : IntKind.i64.wrap ((i : Int) * 2) = (p : Int) := by rw [IntKind.wrap_i64]; omega
  have e2 : IntKind.i64.wrap ((p : Int) + 2) = (p : Int) + 2 := by rw [IntKind.wrap_i64]; omega
  generalize l.getD i 0 = v at hr hx ⊢
  have HR := Aside0.mk hr
  have HX := Aside0.mk hx
  clear h hok hr hx hb hn hp
  go_enter Try.func36, Try.ntmps36
  go_wp2_with (first | (go_at_call 35; (with_reducible refine (size0H _).mono ?_); rintro e w1 ⟨rfl, hb1⟩; have HB1 := Aside0.mk hb1; clear hb1) | (go_at_call 44; (refine (getOneH _ _ (le (v % 65536) 2) v _ (HR.out _ HB1.out) rfl HX.out).mono ?_); rintro e w3 ⟨rfl, hb3⟩; have HB3 := Aside0.mk hb3; clear hb3))
  go_ret
  exact ⟨rfl, HB1.out.trans (HB3.out.mono HB1.out.size)⟩
set_option maxRecDepth 100000 in
set_option maxHeartbeats 4000000 in
theorem getDataH (A : Option Addr) (n c m : Nat) (l : List Int) (w : World) (h : ReadsOf (Value.int .u8) (0 : Int) w A n (bytesL 2 (l.map (fun x => x % 65536)))) (hc : n ≤ c) (hm : l.length = m) (hl : l.length ≤ 10000) (hok : ∀ x ∈ l, OkH x) :
    Calls Try.prog 24 #[.slice A n c] w (Fresh encH 63 l m w) := by
  have hn : n = l.length * 2 := by have := h.1; rw [bytesL_len, List.length_map] at this; omega
  have e1 : (n : Int).tdiv 2 = (m : Int) := by rw [Int.tdiv_eq_ediv_of_nonneg (by omega)]; omega
  have hm1 : m ≤ 10000 := by omega
  have hmk := print_make_of (P := Try.prog) 72 63 (.int .i16 0) 2 Try.underlying72 infoNH rfl (by omega) m (by omega)
  have hqf : madeCells #[.int .i16 0] m = ((fill ([] : List Int) 0 m).map encH).toArray := made_fill encH 0 m
  have HG := Aside0.mk (fun (k : Nat) (W : World) (hb : Below w.heap.size w W) (hk : k < l.length) => getAtH A n c k l W (ReadsOf.below h hb) hc hk hl hok)
  have HM := Aside0.mk hm
  clear h hok hm hn hl
  go_enter Try.func24, Try.ntmps24
  go_wp2_with (first | (go_at_call 35; (with_reducible refine (size0H _).mono ?_); rintro e w1 ⟨rfl, hb1⟩; have HB1 := Aside0.mk hb1; clear hb1))
  have hqb : w.heap.size ≤ w1.heap.size := HB1.out.size
  go_loopw [12] (fun i wr => ∃ k : Nat, k ≤ m ∧ i = .int .i64 k ∧ Aside0 (wr.heap[w1.heap.size]? = some (.cells ((fill (l.take k) 0 m).map encH).toArray 63 (0, 0))) ∧ Aside0 (Below w.heap.size w wr)) (fun i _ => m - (intOf i).toNat)
  case atStart => exact ⟨0, Nat.zero_le _, rfl, ⟨by rw [List.take_zero, ← hqf]; exact heap_alloc_new _ _⟩, ⟨HB1.out.trans ((Below.refl _ _).alloc (Nat.le_refl _) _ |>.mono hqb)⟩⟩
  case round =>
    clear hqf hmk
    obtain ⟨k, hk, rfl, HQ, HB⟩ := hrel
    by_cases hlt : k < m
    · have hkl : k < l.length := by have := HM.out; omega
      have hyl : (l.take k).length = k := by rw [List.length_take]; omega
      have HS := Aside0.mk (take_one l k hkl)
      have HGk := Aside0.mk (fun (W : World) (hb : Below w.heap.size w W) => HG.out k W hb hkl)
      have hql : w1.heap.size < wr.heap.size := block_lt HQ.out
      have HYL := Aside0.mk hyl
      generalize l.getD k 0 = x at HS HGk
      replace HGk := Aside0.mk (show ∀ W : World, Below w.heap.size w W → Calls Try.prog 36 #[.slice A n c, .int .i64 k] W (fun e w' => e = .returned (.int .i16 x) ∧ Below W.heap.size W w') from HGk.out)
      clear hyl
      go_wp2_with (go_at_call 36; (with_reducible refine (HGk.out _ HB.out).mono ?_); rintro e w3 ⟨rfl, hb3⟩; have hq4 : w3.heap[w1.heap.size]? = some (.cells ((fill (l.take k) 0 m).map encH).toArray 63 (0, 0)) := (hb3.block _ hql).trans HQ.out; have HQ4 := Aside0.mk hq4; have hq0 : w3.cell? ⟨w1.heap.size, k, none⟩ = some (.int .i16 0) := (by have h1 := fill_cell encH (l.take k) 0 m (by rw [HYL.out]; exact hlt); rw [HYL.out] at h1; rw [blk_cell hq4 k]; exact h1); have hqz := blk_frozen hq4 k; have HB3 := Aside0.mk (HB.out.trans (hb3.mono HB.out.size)); clear hb3 hq4)
      go_roundw
      case rel =>
        refine ⟨k + 1, by omega, by go_num, ⟨?_⟩, ⟨HB3.out.setCell (by show w.heap.size ≤ w1.heap.size; omega) _⟩⟩
        have h1 := blk_set HQ4.out k (encH x)
        have h2 := fill_put encH (l.take k) 0 x m (by rw [HYL.out]; exact hlt)
        rw [HYL.out] at h2
        rw [h2] at h1
        rw [HS.out]
        exact h1
      case measure => simp [intOf]; omega
    · obtain rfl : k = m := by omega
      go_wp2
      go_ret
      have hm := HM.out
      subst hm
      have hq := HQ.out
      rw [List.take_length, fill_all] at hq
      exact ⟨w1.heap.size, hqb, rfl, hq, HB.out⟩

end Go.Proofs.Ytldkpgjpfhoekaa.Join
