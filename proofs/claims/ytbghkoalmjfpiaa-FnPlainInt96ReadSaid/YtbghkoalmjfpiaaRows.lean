/-
  NARROWER THAN 'FOR EVERY INPUT', by the rows' own cells (each row's printed sentence says how): FnPlainFixedRead: loops · FnPlainTextRead: loops · FnPlainInt32Read: loops · FnPlainInt64Read: loops · FnPlainInt96Read: loops · FnPlainFloat32Read: loops · FnPlainFloat64Read: loops.
  DERIVED. THE GIVEN ROWS OF THIS SEAT. 7 by the template 'for every input the law returns true; each argument reads behind the call as it read before'; 0 by the template 'total and deterministic' (their statements: YtbghkoalmjfpiaaTotals.lean).
  GIVEN WITH THE SEED: the statements are not yours to turn. If you find one false, say at which input.
  Laid BY PROGRAM, IN A SANDBOX (cutbox-rows.mjs): the forced cells as the released guide's own fill.sh prints them over the translation 01d064651a75d86a… (all of the seat's roots in one cut). By AI agents, Wed Nov 11 2026. No macro, syntax, notation, axiom, sorry.
-/
import Derived.Test.YtbghkoalmjfpiaaChecked
import GoSem.Claim
import GoSem.ClaimJoined
import GoSem.ClaimMapViews
import Derived.JoinedTies
import Derived.KernelRfl
namespace Go.Proofs.Ytbghkoalmjfpiaa
/- THE CELL 'sum', in the pinned program and in every row, IS THE sha256 OF THE DUMP (.gsa) THAT YtbghkoalmjfpiaaProg.lean LOADS. Nothing in Lean hashes anything: it is a label: what it is worth is what the hold of that sum in a sandbox is worth. -/
noncomputable def Try.pinned : Pinned := { name := "ytbghkoalmjfpiaa", sum := "01d064651a75d86acd7abea55e3c62bd7d24ddbf21e65160d79d0a44d706cf61", checked := Try.checked }
namespace Rows
def none {H : Type} : Left H := { results := [], args := [] }

/-- 'laws.FnPlainFixedRead': WHATEVER THE INPUT: true; the input reads as it did. -/
def fnPlainFixedReadSpec : ChangeSpec := { name := "fnPlainFixedRead", fn := fun _ => fun
  | [d1, d2, d3, d4] => { results := [.lit (.bool true)], args := [d1, d2, d3, d4] }
  | _ => none }
def fnPlainFixedReadRow : OpenClaim := { program := "ytbghkoalmjfpiaa", sum := "01d064651a75d86acd7abea55e3c62bd7d24ddbf21e65160d79d0a44d706cf61", func := "given.example/pub-arrowroot/laws.FnPlainFixedRead", spec := "fnPlainFixedRead", unfollowed := true, recurses := true, loops := true, apart := false }
def FnPlainFixedReadSaid : Prop := fnPlainFixedReadRow.holds Try.pinned (OpenSpec.ofChange fnPlainFixedReadSpec)

/-- ITS FALSE NEIGHBOUR: 'it returns false'. Refute it at one input. -/
def fnPlainFixedReadWrong : ChangeSpec := { name := "fnPlainFixedRead", fn := fun _ => fun
  | [d1, d2, d3, d4] => { results := [.lit (.bool false)], args := [d1, d2, d3, d4] }
  | _ => none }
def FnPlainFixedReadWrongFalsely : Prop := fnPlainFixedReadRow.holds Try.pinned (OpenSpec.ofChange fnPlainFixedReadWrong)

/-- 'laws.FnPlainTextRead': WHATEVER THE INPUT: true; the input reads as it did. -/
def fnPlainTextReadSpec : ChangeSpec := { name := "fnPlainTextRead", fn := fun _ => fun
  | [d1, d2, d3] => { results := [.lit (.bool true)], args := [d1, d2, d3] }
  | _ => none }
def fnPlainTextReadRow : OpenClaim := { program := "ytbghkoalmjfpiaa", sum := "01d064651a75d86acd7abea55e3c62bd7d24ddbf21e65160d79d0a44d706cf61", func := "given.example/pub-arrowroot/laws.FnPlainTextRead", spec := "fnPlainTextRead", unfollowed := true, recurses := true, named := ["encoding/binary.LittleEndian"], loops := true, apart := false }
def FnPlainTextReadSaid : Prop := fnPlainTextReadRow.holds Try.pinned (OpenSpec.ofChange fnPlainTextReadSpec)

/-- ITS FALSE NEIGHBOUR: 'it returns false'. Refute it at one input. -/
def fnPlainTextReadWrong : ChangeSpec := { name := "fnPlainTextRead", fn := fun _ => fun
  | [d1, d2, d3] => { results := [.lit (.bool false)], args := [d1, d2, d3] }
  | _ => none }
def FnPlainTextReadWrongFalsely : Prop := fnPlainTextReadRow.holds Try.pinned (OpenSpec.ofChange fnPlainTextReadWrong)

/-- 'laws.FnPlainInt32Read': WHATEVER THE INPUT: true; the input reads as it did. -/
def fnPlainInt32ReadSpec : ChangeSpec := { name := "fnPlainInt32Read", fn := fun _ => fun
  | [d1, d2, d3] => { results := [.lit (.bool true)], args := [d1, d2, d3] }
  | _ => none }
def fnPlainInt32ReadRow : OpenClaim := { program := "ytbghkoalmjfpiaa", sum := "01d064651a75d86acd7abea55e3c62bd7d24ddbf21e65160d79d0a44d706cf61", func := "given.example/pub-arrowroot/laws.FnPlainInt32Read", spec := "fnPlainInt32Read", inPlace := ["math.Float32frombits", "math.Float64frombits"], unfollowed := true, recurses := true, named := ["encoding/binary.LittleEndian"], loops := true, apart := false }
def FnPlainInt32ReadSaid : Prop := fnPlainInt32ReadRow.holds Try.pinned (OpenSpec.ofChange fnPlainInt32ReadSpec)

/-- ITS FALSE NEIGHBOUR: 'it returns false'. Refute it at one input. -/
def fnPlainInt32ReadWrong : ChangeSpec := { name := "fnPlainInt32Read", fn := fun _ => fun
  | [d1, d2, d3] => { results := [.lit (.bool false)], args := [d1, d2, d3] }
  | _ => none }
def FnPlainInt32ReadWrongFalsely : Prop := fnPlainInt32ReadRow.holds Try.pinned (OpenSpec.ofChange fnPlainInt32ReadWrong)

/-- 'laws.FnPlainInt64Read': WHATEVER THE INPUT: true; the input reads as it did. -/
def fnPlainInt64ReadSpec : ChangeSpec := { name := "fnPlainInt64Read", fn := fun _ => fun
  | [d1, d2, d3] => { results := [.lit (.bool true)], args := [d1, d2, d3] }
  | _ => none }
def fnPlainInt64ReadRow : OpenClaim := { program := "ytbghkoalmjfpiaa", sum := "01d064651a75d86acd7abea55e3c62bd7d24ddbf21e65160d79d0a44d706cf61", func := "given.example/pub-arrowroot/laws.FnPlainInt64Read", spec := "fnPlainInt64Read", inPlace := ["math.Float32frombits", "math.Float64frombits"], unfollowed := true, recurses := true, named := ["encoding/binary.LittleEndian"], loops := true, apart := false }
def FnPlainInt64ReadSaid : Prop := fnPlainInt64ReadRow.holds Try.pinned (OpenSpec.ofChange fnPlainInt64ReadSpec)

/-- ITS FALSE NEIGHBOUR: 'it returns false'. Refute it at one input. -/
def fnPlainInt64ReadWrong : ChangeSpec := { name := "fnPlainInt64Read", fn := fun _ => fun
  | [d1, d2, d3] => { results := [.lit (.bool false)], args := [d1, d2, d3] }
  | _ => none }
def FnPlainInt64ReadWrongFalsely : Prop := fnPlainInt64ReadRow.holds Try.pinned (OpenSpec.ofChange fnPlainInt64ReadWrong)

/-- 'laws.FnPlainInt96Read': WHATEVER THE INPUT: true; the input reads as it did. -/
def fnPlainInt96ReadSpec : ChangeSpec := { name := "fnPlainInt96Read", fn := fun _ => fun
  | [d1, d2, d3] => { results := [.lit (.bool true)], args := [d1, d2, d3] }
  | _ => none }
def fnPlainInt96ReadRow : OpenClaim := { program := "ytbghkoalmjfpiaa", sum := "01d064651a75d86acd7abea55e3c62bd7d24ddbf21e65160d79d0a44d706cf61", func := "given.example/pub-arrowroot/laws.FnPlainInt96Read", spec := "fnPlainInt96Read", inPlace := ["math.Float32frombits", "math.Float64frombits"], unfollowed := true, recurses := true, named := ["encoding/binary.LittleEndian"], loops := true, apart := false }
def FnPlainInt96ReadSaid : Prop := fnPlainInt96ReadRow.holds Try.pinned (OpenSpec.ofChange fnPlainInt96ReadSpec)

/-- ITS FALSE NEIGHBOUR: 'it returns false'. Refute it at one input. -/
def fnPlainInt96ReadWrong : ChangeSpec := { name := "fnPlainInt96Read", fn := fun _ => fun
  | [d1, d2, d3] => { results := [.lit (.bool false)], args := [d1, d2, d3] }
  | _ => none }
def FnPlainInt96ReadWrongFalsely : Prop := fnPlainInt96ReadRow.holds Try.pinned (OpenSpec.ofChange fnPlainInt96ReadWrong)

/-- 'laws.FnPlainFloat32Read': WHATEVER THE INPUT: true; the input reads as it did. -/
def fnPlainFloat32ReadSpec : ChangeSpec := { name := "fnPlainFloat32Read", fn := fun _ => fun
  | [d1, d2, d3] => { results := [.lit (.bool true)], args := [d1, d2, d3] }
  | _ => none }
def fnPlainFloat32ReadRow : OpenClaim := { program := "ytbghkoalmjfpiaa", sum := "01d064651a75d86acd7abea55e3c62bd7d24ddbf21e65160d79d0a44d706cf61", func := "given.example/pub-arrowroot/laws.FnPlainFloat32Read", spec := "fnPlainFloat32Read", inPlace := ["math.Float32frombits", "math.Float64frombits", "math.Float32bits"], unfollowed := true, recurses := true, named := ["encoding/binary.LittleEndian"], loops := true, apart := false }
def FnPlainFloat32ReadSaid : Prop := fnPlainFloat32ReadRow.holds Try.pinned (OpenSpec.ofChange fnPlainFloat32ReadSpec)

/-- ITS FALSE NEIGHBOUR: 'it returns false'. Refute it at one input. -/
def fnPlainFloat32ReadWrong : ChangeSpec := { name := "fnPlainFloat32Read", fn := fun _ => fun
  | [d1, d2, d3] => { results := [.lit (.bool false)], args := [d1, d2, d3] }
  | _ => none }
def FnPlainFloat32ReadWrongFalsely : Prop := fnPlainFloat32ReadRow.holds Try.pinned (OpenSpec.ofChange fnPlainFloat32ReadWrong)

/-- 'laws.FnPlainFloat64Read': WHATEVER THE INPUT: true; the input reads as it did. -/
def fnPlainFloat64ReadSpec : ChangeSpec := { name := "fnPlainFloat64Read", fn := fun _ => fun
  | [d1, d2, d3] => { results := [.lit (.bool true)], args := [d1, d2, d3] }
  | _ => none }
def fnPlainFloat64ReadRow : OpenClaim := { program := "ytbghkoalmjfpiaa", sum := "01d064651a75d86acd7abea55e3c62bd7d24ddbf21e65160d79d0a44d706cf61", func := "given.example/pub-arrowroot/laws.FnPlainFloat64Read", spec := "fnPlainFloat64Read", inPlace := ["math.Float32frombits", "math.Float64frombits", "math.Float64bits"], unfollowed := true, recurses := true, named := ["encoding/binary.LittleEndian"], loops := true, apart := false }
def FnPlainFloat64ReadSaid : Prop := fnPlainFloat64ReadRow.holds Try.pinned (OpenSpec.ofChange fnPlainFloat64ReadSpec)

/-- ITS FALSE NEIGHBOUR: 'it returns false'. Refute it at one input. -/
def fnPlainFloat64ReadWrong : ChangeSpec := { name := "fnPlainFloat64Read", fn := fun _ => fun
  | [d1, d2, d3] => { results := [.lit (.bool false)], args := [d1, d2, d3] }
  | _ => none }
def FnPlainFloat64ReadWrongFalsely : Prop := fnPlainFloat64ReadRow.holds Try.pinned (OpenSpec.ofChange fnPlainFloat64ReadWrong)

/- THE SECOND FORM. 'bulk': how many values and letters a reading holds, each counted each time it is reached (what is shared counts as often as it is met; a slice's spare places count too). A statement '..UptoSaid' is the law's where the arguments, and the package variables that the reading takes, are together of bulk at most 1048576: NARROWER than '..Said'. Prove '..Said' where nothing that the law and all that it calls make is longer than what came in: it says more and counts as full. Else prove '..UptoSaid'. A law counts once. -/
mutual
def uptoBulk {H : Type} : DataW H → Nat
  | .lit (.string bytes) => bytes.length + 1
  | .lit _ => 1
  | .nil => 1
  | .ptr d => uptoBulk d + 1
  | .slice elems spare => uptoBulkAll elems + uptoBulkAll spare + 1
  | .agg parts => uptoBulkAll parts + 1
  | .iface _ d => uptoBulk d + 1
  | .map entries => uptoBulkEntries entries + 1
  | .held _ => 1
def uptoBulkAll {H : Type} : List (DataW H) → Nat
  | [] => 0
  | d :: r => uptoBulk d + uptoBulkAll r
def uptoBulkEntries {H : Type} : List (Lit × DataW H) → Nat
  | [] => 0
  | x :: r => uptoBulkEntry x + uptoBulkEntries r
def uptoBulkEntry {H : Type} : Lit × DataW H → Nat
  | (.string bytes, d) => bytes.length + uptoBulk d + 1
  | (_, d) => uptoBulk d + 1
 end
def uptoSmall : (H : Type) → List (DataW H) → Bool := fun _ ds => decide (uptoBulkAll ds ≤ 1048576)
def OpenSpec.upto (s : _root_.Go.ChangeSpec) : _root_.Go.OpenSpec := { _root_.Go.OpenSpec.ofChange s with cond := some uptoSmall }

/-- 'laws.FnPlainFixedRead', WHERE WHAT IT READS IS OF BULK AT MOST 1048576: true; the input reads as it did. -/
def fnPlainFixedReadUptoRow : OpenClaim := { program := "ytbghkoalmjfpiaa", sum := "01d064651a75d86acd7abea55e3c62bd7d24ddbf21e65160d79d0a44d706cf61", func := "given.example/pub-arrowroot/laws.FnPlainFixedRead", spec := "fnPlainFixedRead", unfollowed := true, recurses := true, loops := true, apart := false, narrowed := true }
def FnPlainFixedReadUptoSaid : Prop := fnPlainFixedReadUptoRow.holds Try.pinned (OpenSpec.upto fnPlainFixedReadSpec)

/-- 'laws.FnPlainTextRead', WHERE WHAT IT READS IS OF BULK AT MOST 1048576: true; the input reads as it did. -/
def fnPlainTextReadUptoRow : OpenClaim := { program := "ytbghkoalmjfpiaa", sum := "01d064651a75d86acd7abea55e3c62bd7d24ddbf21e65160d79d0a44d706cf61", func := "given.example/pub-arrowroot/laws.FnPlainTextRead", spec := "fnPlainTextRead", unfollowed := true, recurses := true, named := ["encoding/binary.LittleEndian"], loops := true, apart := false, narrowed := true }
def FnPlainTextReadUptoSaid : Prop := fnPlainTextReadUptoRow.holds Try.pinned (OpenSpec.upto fnPlainTextReadSpec)

/-- 'laws.FnPlainInt32Read', WHERE WHAT IT READS IS OF BULK AT MOST 1048576: true; the input reads as it did. -/
def fnPlainInt32ReadUptoRow : OpenClaim := { program := "ytbghkoalmjfpiaa", sum := "01d064651a75d86acd7abea55e3c62bd7d24ddbf21e65160d79d0a44d706cf61", func := "given.example/pub-arrowroot/laws.FnPlainInt32Read", spec := "fnPlainInt32Read", inPlace := ["math.Float32frombits", "math.Float64frombits"], unfollowed := true, recurses := true, named := ["encoding/binary.LittleEndian"], loops := true, apart := false, narrowed := true }
def FnPlainInt32ReadUptoSaid : Prop := fnPlainInt32ReadUptoRow.holds Try.pinned (OpenSpec.upto fnPlainInt32ReadSpec)

/-- 'laws.FnPlainInt64Read', WHERE WHAT IT READS IS OF BULK AT MOST 1048576: true; the input reads as it did. -/
def fnPlainInt64ReadUptoRow : OpenClaim := { program := "ytbghkoalmjfpiaa", sum := "01d064651a75d86acd7abea55e3c62bd7d24ddbf21e65160d79d0a44d706cf61", func := "given.example/pub-arrowroot/laws.FnPlainInt64Read", spec := "fnPlainInt64Read", inPlace := ["math.Float32frombits", "math.Float64frombits"], unfollowed := true, recurses := true, named := ["encoding/binary.LittleEndian"], loops := true, apart := false, narrowed := true }
def FnPlainInt64ReadUptoSaid : Prop := fnPlainInt64ReadUptoRow.holds Try.pinned (OpenSpec.upto fnPlainInt64ReadSpec)

/-- 'laws.FnPlainInt96Read', WHERE WHAT IT READS IS OF BULK AT MOST 1048576: true; the input reads as it did. -/
def fnPlainInt96ReadUptoRow : OpenClaim := { program := "ytbghkoalmjfpiaa", sum := "01d064651a75d86acd7abea55e3c62bd7d24ddbf21e65160d79d0a44d706cf61", func := "given.example/pub-arrowroot/laws.FnPlainInt96Read", spec := "fnPlainInt96Read", inPlace := ["math.Float32frombits", "math.Float64frombits"], unfollowed := true, recurses := true, named := ["encoding/binary.LittleEndian"], loops := true, apart := false, narrowed := true }
def FnPlainInt96ReadUptoSaid : Prop := fnPlainInt96ReadUptoRow.holds Try.pinned (OpenSpec.upto fnPlainInt96ReadSpec)

/-- 'laws.FnPlainFloat32Read', WHERE WHAT IT READS IS OF BULK AT MOST 1048576: true; the input reads as it did. -/
def fnPlainFloat32ReadUptoRow : OpenClaim := { program := "ytbghkoalmjfpiaa", sum := "01d064651a75d86acd7abea55e3c62bd7d24ddbf21e65160d79d0a44d706cf61", func := "given.example/pub-arrowroot/laws.FnPlainFloat32Read", spec := "fnPlainFloat32Read", inPlace := ["math.Float32frombits", "math.Float64frombits", "math.Float32bits"], unfollowed := true, recurses := true, named := ["encoding/binary.LittleEndian"], loops := true, apart := false, narrowed := true }
def FnPlainFloat32ReadUptoSaid : Prop := fnPlainFloat32ReadUptoRow.holds Try.pinned (OpenSpec.upto fnPlainFloat32ReadSpec)

/-- 'laws.FnPlainFloat64Read', WHERE WHAT IT READS IS OF BULK AT MOST 1048576: true; the input reads as it did. -/
def fnPlainFloat64ReadUptoRow : OpenClaim := { program := "ytbghkoalmjfpiaa", sum := "01d064651a75d86acd7abea55e3c62bd7d24ddbf21e65160d79d0a44d706cf61", func := "given.example/pub-arrowroot/laws.FnPlainFloat64Read", spec := "fnPlainFloat64Read", inPlace := ["math.Float32frombits", "math.Float64frombits", "math.Float64bits"], unfollowed := true, recurses := true, named := ["encoding/binary.LittleEndian"], loops := true, apart := false, narrowed := true }
def FnPlainFloat64ReadUptoSaid : Prop := fnPlainFloat64ReadUptoRow.holds Try.pinned (OpenSpec.upto fnPlainFloat64ReadSpec)

end Rows
end Go.Proofs.Ytbghkoalmjfpiaa
