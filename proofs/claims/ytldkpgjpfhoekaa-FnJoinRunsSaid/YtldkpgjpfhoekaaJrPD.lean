/- A row of numbers is written as bytes; the greatest number of the type. -/
import Derived.Test.YtldkpgjpfhoekaaJrHD
import Derived.Deep.LoopGhost
import Derived.Deep.CutRange
import Derived.Deep.DeepCutAuto
import Derived.Deep.CutBlock
namespace Go.Proofs.Ytldkpgjpfhoekaa.Join
open Go.RowKit Go.Proofs.YtldkpgjpfhoekaaW.PrintWords Go.Proofs.YtldkpgjpfhoekaaW.PrintLast Go.Proofs.YtldkpgjpfhoekaaW.PrintMore
set_option linter.unusedVariables false
set_option linter.unusedSimpArgs false

def usDL (l : List Int) : List Int := l.map (fun x => x % 18446744073709551616)
theorem usDL_len (l : List Int) : (usDL l).length = l.length := by simp [usDL]
set_option maxRecDepth 100000 in
set_option maxHeartbeats 4000000 in
theorem putDataD (p n q m : Nat) (l : List Int) (w : World) (hw : W8 w p 5 [] (fill [] 0 n)) (hq : w.heap[q]? = some (.cells (l.map encD).toArray 2 (0, 0))) (hqp : q ≠ p) (hm : l.length = m) (hn : n = m * 8) (hs : n ≤ 100000) (hok : ∀ x ∈ l, OkD x) :
    Calls Try.prog 33 #[.slice (some ⟨p, 0, none⟩) n n, .slice (some ⟨q, 0, none⟩) m m] w (Written p (bytesL 8 (usDL l)) w) := by
  have hms : m ≤ 100000 := by omega
  have HQ := Aside0.mk hq
  have HW := Aside0.mk hw
  have HO := Aside0.mk hok
  have HM := Aside0.mk (And.intro hm hn)
  clear hq hw hok hm hn
  go_enter Try.func33, Try.ntmps33
  go_wp2_with fail
  go_loopw [8] (fun i wr => ∃ k : Nat, k ≤ m ∧ i = .int .i64 k ∧ Aside0 (w.grownBy wr (some p)) ∧ Aside0 (W8 wr p 5 [] (fill (bytesL 8 ((usDL l).take k)) 0 n))) (fun i _ => m - (intOf i).toNat)
  case atStart => exact ⟨0, Nat.zero_le _, rfl, ⟨World.grownBy.refl _ _⟩, HW⟩
  case round =>
    obtain ⟨k, hk, rfl, HGR, HWR⟩ := hrel
    by_cases hlt : k < m
    · have hkl : k < l.length := by have := HM.out.1; omega
      have hq' := (HGR.out.block q (block_lt HQ.out) (fun e => hqp (Option.some.inj e))).trans HQ.out
      have c0 : wr.cell? ⟨q, k, none⟩ = some (encD (l.getD k 0)) := by
        rw [blk_cell hq' k]
        simp [List.getD_eq_getElem?_getD, List.getElem?_eq_getElem hkl]
      have HOX := Aside0.mk (show OkD (l.getD k 0) from by rw [List.getD_eq_getElem?_getD, List.getElem?_eq_getElem hkl]; exact HO.out _ (List.getElem_mem hkl))
      have hul : (usDL l).length = l.length := usDL_len l
      have HSN := Aside0.mk (bytesL_snoc 8 (usDL l) k (by omega))
      rw [show (usDL l).getD k 0 = l.getD k 0 % 18446744073709551616 from usL_atD l k hkl] at HSN
      have hlk : (bytesL 8 ((usDL l).take k)).length = k * 8 := by rw [bytesL_len, List.length_take]; congr 1; omega
      have hfl : (fill (bytesL 8 ((usDL l).take k)) 0 n).length = n := fill_len _ _ _ (by have := HM.out; omega)
      generalize l.getD k 0 = x at c0 HOX HSN
      replace c0 : wr.cell? ⟨q, k, none⟩ = some (.int .i64 x) := c0
      have HPA := Aside0.mk (show ∀ W : World, W8 W p 5 [] (fill (bytesL 8 ((usDL l).take k)) 0 n) → Calls Try.prog 43 #[.slice (some ⟨p, 0, none⟩) n n, .int .i64 k, .int .i64 x] W (PutL W p (fill (bytesL 8 ((usDL l).take k)) 0 n) (k * 8) (le (x % 18446744073709551616) 8)) from fun W hW => putAtD p k n x _ W hW hfl (by have := HM.out; omega) hs HOX.out)
      have HSL := Aside0.mk (show setL (fill (bytesL 8 ((usDL l).take k)) 0 n) (k * 8) (le (x % 18446744073709551616) 8) = fill (bytesL 8 ((usDL l).take (k + 1))) 0 n from by have h := setL_fill (le (x % 18446744073709551616) 8) (bytesL 8 ((usDL l).take k)) n (by rw [hlk, le_len]; have := HM.out; omega); rw [hlk] at h; rw [h, HSN.out])
      clear hq' hul hlk hfl
      go_wp2_with (go_at_call 43; refine (HPA.out _ HWR.out).mono ?_; rintro e w5 ⟨rfl, hg5, hw5⟩; rw [HSL.out] at hw5; have HG5 := Aside0.mk (HGR.out.trans hg5); have HW5 := Aside0.mk hw5; clear hg5 hw5)
      go_roundw
      case rel => exact ⟨k + 1, by omega, by go_num, HG5, HW5⟩
      case measure => simp [intOf]; omega
    · have hkm : k = m := by omega
      go_wp2_with fail
      go_end0
      exact ⟨rfl, HGR.out, full_at HWR.out (by have := HM.out; have := usDL_len l; omega) (by have := HM.out; have := usDL_len l; omega)⟩
def pwD (k : Nat) : Int := if k < 63 then 2 ^ k else -9223372036854775808
theorem pwD_step : ∀ k : Fin 63, IntKind.wrap .i64 (pwD k.val * 2) = pwD (k.val + 1) ∧ decide (0 < pwD k.val) = true := by decide +kernel
set_option maxRecDepth 100000 in
set_option maxHeartbeats 4000000 in
theorem maxOfD (w : World) : Calls Try.prog 32 #[] w (fun e w' => e = .returned (.int .i64 (9223372036854775808 - 1)) ∧ w = w') := by
  have hsg : IntKind.i64.signed = true := rfl
  have hx0 : Go.bits .xor .i64 (-1) 0 = -1 := by decide +kernel
  go_enter Try.func32, Try.ntmps32
  go_wp2_with fail
  go_loopw [2, 3] (fun b x wr => ∃ k : Nat, k ≤ 63 ∧ b = .int .i64 k ∧ x = .int .i64 (pwD k) ∧ w = wr) (fun b _ _ => 63 - (intOf b).toNat)
  case atStart => exact ⟨0, Nat.zero_le _, rfl, rfl, rfl⟩
  case round =>
    obtain ⟨k, hk, rfl, rfl, rfl⟩ := hrel
    by_cases hlt : k < 63
    · obtain ⟨h1, h2⟩ := pwD_step ⟨k, hlt⟩
      dsimp only at h1 h2
      have h3 : 0 < pwD k := of_decide_eq_true h2
      have h4 : ¬ pwD k ≤ 0 := by omega
      generalize pwD k = x at h1 h2 h3 h4 ⊢
      have HS := Aside0.mk h1
      go_wp2_with fail
      go_roundw
      case rel => exact ⟨k + 1, by omega, by go_num, by rw [← HS.out], trivial⟩
      case measure => simp [intOf]; omega
    · obtain rfl : k = 63 := by omega
      have hp : pwD 63 = -9223372036854775808 := rfl
      rw [hp]
      have hs2 : shl .i64 (-1) 63 = -9223372036854775808 := by decide +kernel
      have hx2 : Go.bits .xor .i64 (-1) (-9223372036854775808) = 9223372036854775808 - 1 := by decide +kernel
      go_wp2_with fail
      go_ret
      exact ⟨rfl, rfl⟩

end Go.Proofs.Ytldkpgjpfhoekaa.Join
