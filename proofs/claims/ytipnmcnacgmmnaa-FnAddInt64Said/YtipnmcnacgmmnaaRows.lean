/-
  No cell of these rows narrows 'for every input' (looked for: loops, veiled, ifaces, maps, wideKeys, modest, calm, conditions, laid).
  DERIVED. THE GIVEN ROWS OF THIS SEAT. 4 by the template 'for every input the law returns true; each argument reads behind the call as it read before'; 0 by the template 'total and deterministic' (their statements: YtipnmcnacgmmnaaTotals.lean).
  GIVEN WITH THE SEED: the statements are not yours to turn. If you find one false, say at which input.
  Laid BY PROGRAM, IN A SANDBOX (cutbox-rows.mjs): the forced cells as the released guide's own fill.sh prints them over the translation efeccf5ab401bec0… (all of the seat's roots in one cut). By AI agents, Wed Nov 11 2026. No macro, syntax, notation, axiom, sorry.
-/
import Derived.Test.YtipnmcnacgmmnaaChecked
import GoSem.Claim
import GoSem.ClaimJoined
import GoSem.ClaimMapViews
import Derived.JoinedTies
import Derived.KernelRfl
namespace Go.Proofs.Ytipnmcnacgmmnaa
/- THE CELL 'sum', in the pinned program and in every row, IS THE sha256 OF THE DUMP (.gsa) THAT YtipnmcnacgmmnaaProg.lean LOADS. Nothing in Lean hashes anything: it is a label: what it is worth is what the hold of that sum in a sandbox is worth. -/
noncomputable def Try.pinned : Pinned := { name := "ytipnmcnacgmmnaa", sum := "efeccf5ab401bec034f4a72fec5d94951946a257adcddeaf19c541e0d9017736", checked := Try.checked }
namespace Rows
def none {H : Type} : Left H := { results := [], args := [] }

/-- 'laws.FnAddInt16': WHATEVER THE INPUT: true; the input reads as it did. -/
def fnAddInt16Spec : ChangeSpec := { name := "fnAddInt16", fn := fun _ => fun
  | [d1, d2] => { results := [.lit (.bool true)], args := [d1, d2] }
  | _ => none }
def fnAddInt16Row : OpenClaim := { program := "ytipnmcnacgmmnaa", sum := "efeccf5ab401bec034f4a72fec5d94951946a257adcddeaf19c541e0d9017736", func := "given.example/pub-arrowroot/laws.FnAddInt16", spec := "fnAddInt16", apart := false }
def FnAddInt16Said : Prop := fnAddInt16Row.holds Try.pinned (OpenSpec.ofChange fnAddInt16Spec)

/-- ITS FALSE NEIGHBOUR: 'it returns false'. Refute it at one input. -/
def fnAddInt16Wrong : ChangeSpec := { name := "fnAddInt16", fn := fun _ => fun
  | [d1, d2] => { results := [.lit (.bool false)], args := [d1, d2] }
  | _ => none }
def FnAddInt16WrongFalsely : Prop := fnAddInt16Row.holds Try.pinned (OpenSpec.ofChange fnAddInt16Wrong)

/-- 'laws.FnAddInt64': WHATEVER THE INPUT: true; the input reads as it did. -/
def fnAddInt64Spec : ChangeSpec := { name := "fnAddInt64", fn := fun _ => fun
  | [d1, d2] => { results := [.lit (.bool true)], args := [d1, d2] }
  | _ => none }
def fnAddInt64Row : OpenClaim := { program := "ytipnmcnacgmmnaa", sum := "efeccf5ab401bec034f4a72fec5d94951946a257adcddeaf19c541e0d9017736", func := "given.example/pub-arrowroot/laws.FnAddInt64", spec := "fnAddInt64", apart := false }
def FnAddInt64Said : Prop := fnAddInt64Row.holds Try.pinned (OpenSpec.ofChange fnAddInt64Spec)

/-- ITS FALSE NEIGHBOUR: 'it returns false'. Refute it at one input. -/
def fnAddInt64Wrong : ChangeSpec := { name := "fnAddInt64", fn := fun _ => fun
  | [d1, d2] => { results := [.lit (.bool false)], args := [d1, d2] }
  | _ => none }
def FnAddInt64WrongFalsely : Prop := fnAddInt64Row.holds Try.pinned (OpenSpec.ofChange fnAddInt64Wrong)

/-- 'laws.FnMulUint32': WHATEVER THE INPUT: true; the input reads as it did. -/
def fnMulUint32Spec : ChangeSpec := { name := "fnMulUint32", fn := fun _ => fun
  | [d1, d2] => { results := [.lit (.bool true)], args := [d1, d2] }
  | _ => none }
def fnMulUint32Row : OpenClaim := { program := "ytipnmcnacgmmnaa", sum := "efeccf5ab401bec034f4a72fec5d94951946a257adcddeaf19c541e0d9017736", func := "given.example/pub-arrowroot/laws.FnMulUint32", spec := "fnMulUint32", apart := false }
def FnMulUint32Said : Prop := fnMulUint32Row.holds Try.pinned (OpenSpec.ofChange fnMulUint32Spec)

/-- ITS FALSE NEIGHBOUR: 'it returns false'. Refute it at one input. -/
def fnMulUint32Wrong : ChangeSpec := { name := "fnMulUint32", fn := fun _ => fun
  | [d1, d2] => { results := [.lit (.bool false)], args := [d1, d2] }
  | _ => none }
def FnMulUint32WrongFalsely : Prop := fnMulUint32Row.holds Try.pinned (OpenSpec.ofChange fnMulUint32Wrong)

/-- 'laws.FnMulUint8': WHATEVER THE INPUT: true; the input reads as it did. -/
def fnMulUint8Spec : ChangeSpec := { name := "fnMulUint8", fn := fun _ => fun
  | [d1, d2] => { results := [.lit (.bool true)], args := [d1, d2] }
  | _ => none }
def fnMulUint8Row : OpenClaim := { program := "ytipnmcnacgmmnaa", sum := "efeccf5ab401bec034f4a72fec5d94951946a257adcddeaf19c541e0d9017736", func := "given.example/pub-arrowroot/laws.FnMulUint8", spec := "fnMulUint8", apart := false }
def FnMulUint8Said : Prop := fnMulUint8Row.holds Try.pinned (OpenSpec.ofChange fnMulUint8Spec)

/-- ITS FALSE NEIGHBOUR: 'it returns false'. Refute it at one input. -/
def fnMulUint8Wrong : ChangeSpec := { name := "fnMulUint8", fn := fun _ => fun
  | [d1, d2] => { results := [.lit (.bool false)], args := [d1, d2] }
  | _ => none }
def FnMulUint8WrongFalsely : Prop := fnMulUint8Row.holds Try.pinned (OpenSpec.ofChange fnMulUint8Wrong)

/- THE SECOND FORM. 'bulk': how many values and letters a reading holds, each counted each time it is reached (what is shared counts as often as it is met; a slice's spare places count too). A statement '..UptoSaid' is the law's where the arguments, and the package variables that the reading takes, are together of bulk at most 1048576: NARROWER than '..Said'. Prove '..Said' where nothing that the law and all that it calls make is longer than what came in: it says more and counts as full. Else prove '..UptoSaid'. A law counts once. -/
mutual
def uptoBulk {H : Type} : DataW H → Nat
  | .lit (.string bytes) => bytes.length + 1
  | .lit _ => 1
  | .nil => 1
  | .ptr d => uptoBulk d + 1
  | .slice elems spare => uptoBulkAll elems + uptoBulkAll spare + 1
  | .agg parts => uptoBulkAll parts + 1
  | .iface _ d => uptoBulk d + 1
  | .map entries => uptoBulkEntries entries + 1
  | .held _ => 1
def uptoBulkAll {H : Type} : List (DataW H) → Nat
  | [] => 0
  | d :: r => uptoBulk d + uptoBulkAll r
def uptoBulkEntries {H : Type} : List (Lit × DataW H) → Nat
  | [] => 0
  | x :: r => uptoBulkEntry x + uptoBulkEntries r
def uptoBulkEntry {H : Type} : Lit × DataW H → Nat
  | (.string bytes, d) => bytes.length + uptoBulk d + 1
  | (_, d) => uptoBulk d + 1
 end
def uptoSmall : (H : Type) → List (DataW H) → Bool := fun _ ds => decide (uptoBulkAll ds ≤ 1048576)
def OpenSpec.upto (s : _root_.Go.ChangeSpec) : _root_.Go.OpenSpec := { _root_.Go.OpenSpec.ofChange s with cond := some uptoSmall }

/-- 'laws.FnAddInt16', WHERE WHAT IT READS IS OF BULK AT MOST 1048576: true; the input reads as it did. -/
def fnAddInt16UptoRow : OpenClaim := { program := "ytipnmcnacgmmnaa", sum := "efeccf5ab401bec034f4a72fec5d94951946a257adcddeaf19c541e0d9017736", func := "given.example/pub-arrowroot/laws.FnAddInt16", spec := "fnAddInt16", apart := false, narrowed := true }
def FnAddInt16UptoSaid : Prop := fnAddInt16UptoRow.holds Try.pinned (OpenSpec.upto fnAddInt16Spec)

/-- 'laws.FnAddInt64', WHERE WHAT IT READS IS OF BULK AT MOST 1048576: true; the input reads as it did. -/
def fnAddInt64UptoRow : OpenClaim := { program := "ytipnmcnacgmmnaa", sum := "efeccf5ab401bec034f4a72fec5d94951946a257adcddeaf19c541e0d9017736", func := "given.example/pub-arrowroot/laws.FnAddInt64", spec := "fnAddInt64", apart := false, narrowed := true }
def FnAddInt64UptoSaid : Prop := fnAddInt64UptoRow.holds Try.pinned (OpenSpec.upto fnAddInt64Spec)

/-- 'laws.FnMulUint32', WHERE WHAT IT READS IS OF BULK AT MOST 1048576: true; the input reads as it did. -/
def fnMulUint32UptoRow : OpenClaim := { program := "ytipnmcnacgmmnaa", sum := "efeccf5ab401bec034f4a72fec5d94951946a257adcddeaf19c541e0d9017736", func := "given.example/pub-arrowroot/laws.FnMulUint32", spec := "fnMulUint32", apart := false, narrowed := true }
def FnMulUint32UptoSaid : Prop := fnMulUint32UptoRow.holds Try.pinned (OpenSpec.upto fnMulUint32Spec)

/-- 'laws.FnMulUint8', WHERE WHAT IT READS IS OF BULK AT MOST 1048576: true; the input reads as it did. -/
def fnMulUint8UptoRow : OpenClaim := { program := "ytipnmcnacgmmnaa", sum := "efeccf5ab401bec034f4a72fec5d94951946a257adcddeaf19c541e0d9017736", func := "given.example/pub-arrowroot/laws.FnMulUint8", spec := "fnMulUint8", apart := false, narrowed := true }
def FnMulUint8UptoSaid : Prop := fnMulUint8UptoRow.holds Try.pinned (OpenSpec.upto fnMulUint8Spec)

end Rows
end Go.Proofs.Ytipnmcnacgmmnaa
