/- New data. -/
import Derived.Test.YtldkpgjpfhoekaaJrB
import Derived.Deep.LoopGhost
namespace Go.Proofs.Ytldkpgjpfhoekaa.Join
open Go.RowKit Go.Proofs.YtldkpgjpfhoekaaW.PrintWords Go.Proofs.YtldkpgjpfhoekaaW.PrintLast Go.Proofs.YtldkpgjpfhoekaaW.PrintMore
set_option linter.unusedVariables false
set_option linter.unusedSimpArgs false

/-- A pointer to a buffer, or none. -/
def MayBuf (w : World) (p : Option Addr) : Prop := p = none ∨ ∃ b A n c, p = some ⟨b, 0, none⟩ ∧ IsBuf w b A n c
def NewD (off len : Int) (w : World) (e : Ending) (w' : World) : Prop := e = .returned (.pointer (some ⟨w.heap.size, 0, none⟩)) ∧ IsData w' w.heap.size off len ∧ Below w.heap.size w w'
set_option maxRecDepth 100000 in
theorem newData (q : Option Addr) (len off : Int) (A : Addr) (p : Option Addr) (w : World) (hA : w.cell? A = some (.pointer p)) (hp : MayBuf w p) :
    Calls Try.prog 17 #[.iface 60 (.pointer q), .int .i64 len, .slice (some A) 1 1, .slice none 0 0, .int .i64 0, .int .i64 off] w (NewD off len w) := by
  go_enter Try.func17, Try.ntmps17
  go_wp2_with fail
  go_loopw [20] (fun i wr => ∃ k : Nat, k ≤ 1 ∧ i = .int .i64 k ∧ w = wr) (fun i _ => 1 - (intOf i).toNat)
  case atStart => exact ⟨0, Nat.zero_le _, rfl, rfl⟩
  case round =>
    obtain ⟨k, hk, rfl, rfl⟩ := hrel
    by_cases hlt : k < 1
    · obtain rfl : k = 0 := by omega
      rcases hp with rfl | ⟨b, B, n, c, rfl, hb⟩
      · go_wp2_with fail
        go_roundw
        case rel => exact ⟨1, by omega, by go_num, trivial⟩
        case measure => simp [intOf]
      · go_wp2_with (go_at_call 22; refine (bufRetain b B n c w hb).mono ?_; rintro e w' ⟨rfl, rfl⟩)
        go_roundw
        case rel => exact ⟨1, by omega, by go_num, trivial⟩
        case measure => simp [intOf]
    · obtain rfl : k = 1 := by omega
      go_wp2_with fail
      go_loopw [31] (fun i wr => i = .int .i64 0 ∧ w = wr) (fun i _ => 0)
      case atStart => exact ⟨rfl, rfl⟩
      case round =>
        obtain ⟨rfl, rfl⟩ := hrel
        go_wp2_with (go_at_call 23; refine (atomicAdd w.heap.size _ (by simp) (by simp)).mono ?_; rintro e w' ⟨rfl, rfl⟩)
        go_ret
        refine ⟨rfl, ⟨.iface 60 (.pointer q), .slice (some A) 1 1, ?_⟩, ?_⟩
        · exact heap_alloc_new w _
        · exact (Below.refl _ _).alloc (Nat.le_refl _) _

end Go.Proofs.Ytldkpgjpfhoekaa.Join
