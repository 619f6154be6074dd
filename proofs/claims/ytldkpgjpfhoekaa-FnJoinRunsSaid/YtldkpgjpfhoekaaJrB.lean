/- Buffers and data of the package: made, read. -/
import Derived.Test.YtldkpgjpfhoekaaJrG0
import Derived.Laws.LoneSync
namespace Go.Proofs.Ytldkpgjpfhoekaa.Join
open Go.RowKit Go.Proofs.YtldkpgjpfhoekaaW.PrintWords Go.Proofs.YtldkpgjpfhoekaaW.PrintLast Go.Proofs.YtldkpgjpfhoekaaW.PrintMore
set_option linter.unusedVariables false
set_option linter.unusedSimpArgs false

def bufCells (A : Option Addr) (n c : Nat) : Array Value := #[.int .i64 0, .slice A n c, .int .i64 n, .bool false, .nilIface, .pointer none]
def IsBuf (w : World) (b : Nat) (A : Option Addr) (n c : Nat) : Prop := w.heap[b]? = some (.cells (bufCells A n c) 57 (0, 0))
theorem IsBuf.at_ {w : World} {b : Nat} {A : Option Addr} {n c : Nat} (h : IsBuf w b A n c) : w.cell? ⟨b, 0, none⟩ = some (.int .i64 0) ∧ w.cell? ⟨b, 1, none⟩ = some (.slice A n c) ∧ w.cell? ⟨b, 2, none⟩ = some (.int .i64 n) ∧ w.cell? ⟨b, 3, none⟩ = some (.bool false) ∧ w.cell? ⟨b, 4, none⟩ = some .nilIface ∧ w.cell? ⟨b, 5, none⟩ = some (.pointer none) :=
  ⟨blk_cell h 0, blk_cell h 1, blk_cell h 2, blk_cell h 3, blk_cell h 4, blk_cell h 5⟩
set_option maxRecDepth 100000 in
theorem newBuf (A : Option Addr) (n c : Nat) (w : World) : Calls Try.prog 11 #[.slice A n c] w (fun e w' => e = .returned (.pointer (some ⟨w.heap.size, 0, none⟩)) ∧ w.alloc (.cells (bufCells A n c) 57) = w') := by
  go_enter Try.func11, Try.ntmps11
  go_wp2
  go_ret
  exact ⟨rfl, rfl⟩
set_option maxRecDepth 100000 in
theorem bufBytes (b : Nat) (A : Option Addr) (n c : Nat) (w : World) (h : IsBuf w b A n c) (hc : n ≤ c) : Calls Try.prog 15 #[.pointer (some ⟨b, 0, none⟩)] w (fun e w' => e = .returned (.slice A n c) ∧ Drawn0 w w') := by
  obtain ⟨c0, c1, c2, c3, c4, c5⟩ := h.at_
  clear h
  have hcz : (n : Int) ≤ (c : Int) := by omega
  go_enter Try.func15, Try.ntmps15
  go_wp2
  go_quiet (fail)
  go_wp2
  go_ret
  exact ⟨rfl, ⟨⟨_, rfl⟩⟩⟩
set_option maxRecDepth 100000 in
theorem bufLen (b : Nat) (A : Option Addr) (n c : Nat) (w : World) (h : IsBuf w b A n c) : Calls Try.prog 25 #[.pointer (some ⟨b, 0, none⟩)] w (fun e w' => e = .returned (.int .i64 n) ∧ w = w') := by
  obtain ⟨c0, c1, c2, c3, c4, c5⟩ := h.at_
  clear h
  go_enter Try.func25, Try.ntmps25
  go_wp2
  go_ret
  exact ⟨rfl, rfl⟩
set_option maxRecDepth 100000 in
theorem bufRetain (b : Nat) (A : Option Addr) (n c : Nat) (w : World) (h : IsBuf w b A n c) : Calls Try.prog 22 #[.pointer (some ⟨b, 0, none⟩)] w (fun e w' => e = .returned (.tuple #[]) ∧ w = w') := by
  obtain ⟨c0, c1, c2, c3, c4, c5⟩ := h.at_
  clear h
  go_enter Try.func22, Try.ntmps22
  go_wp2
  go_end0
  exact ⟨rfl, rfl⟩
def dataCells (T : Value) (off len : Int) (bufs : Value) : Array Value := #[.int .i64 1, T, .int .i64 0, .int .i64 off, .int .i64 len, bufs, .slice none 0 0, .pointer none]
def IsData (w : World) (d : Nat) (off len : Int) : Prop := ∃ T bufs, w.heap[d]? = some (.cells (dataCells T off len bufs) 70 (0, 0))
set_option maxRecDepth 100000 in
theorem dataLen (d : Nat) (off len : Int) (w : World) (h : IsData w d off len) : Calls Try.prog 84 #[.pointer (some ⟨d, 0, none⟩)] w (fun e w' => e = .returned (.int .i64 len) ∧ w = w') := by
  obtain ⟨T, bufs, h⟩ := h
  have c4 : w.cell? ⟨d, 4, none⟩ = some (.int .i64 len) := blk_cell h 4
  clear h
  go_enter Try.func84, Try.ntmps84
  go_wp2
  go_ret
  exact ⟨rfl, rfl⟩
set_option maxRecDepth 100000 in
theorem dataOffset (d : Nat) (off len : Int) (w : World) (h : IsData w d off len) : Calls Try.prog 85 #[.pointer (some ⟨d, 0, none⟩)] w (fun e w' => e = .returned (.int .i64 off) ∧ w = w') := by
  obtain ⟨T, bufs, h⟩ := h
  have c3 : w.cell? ⟨d, 3, none⟩ = some (.int .i64 off) := blk_cell h 3
  clear h
  go_enter Try.func85, Try.ntmps85
  go_wp2
  go_ret
  exact ⟨rfl, rfl⟩
theorem addInt64 (a : Addr) (v x : Int) (W : World) (h : W.cell? a = some (.int .i64 v)) (hz : W.frozen? a = false) : (callFunc 34 #[.pointer (some a), .int .i64 x]).run Try.prog W = .ok (.value (.int .i64 (IntKind.i64.wrap (v + x)))) (W.setCell a (.int .i64 (IntKind.i64.wrap (v + x)))) := by
  exact run_call_add Try.func34 (by rfl) (by rfl) (by rfl) .i64 (by rfl) h hz rfl
set_option maxRecDepth 100000 in
theorem atomicAdd (d : Nat) (w : World) (h : w.cell? ⟨d, 0, none⟩ = some (.int .i64 0)) (hz : w.frozen? ⟨d, 0, none⟩ = false) : Calls Try.prog 23 #[.pointer (some ⟨d, 0, none⟩), .int .i64 1] w (fun e w' => e = .returned (.int .i64 1) ∧ w.setCell ⟨d, 0, none⟩ (.int .i64 1) = w') := by
  have hfb0 := addInt64 ⟨d, 0, none⟩ 0 1 w h hz
  go_enter Try.func23, Try.ntmps23
  go_wp2
  go_ret
  exact ⟨rfl, rfl⟩

end Go.Proofs.Ytldkpgjpfhoekaa.Join
