/-
  No cell of these rows narrows 'for every input' (looked for: loops, veiled, ifaces, maps, wideKeys, modest, calm, conditions, laid).
  DERIVED. THE GIVEN ROWS OF THIS SEAT. 5 by the template 'for every input the law returns true; each argument reads behind the call as it read before'; 0 by the template 'total and deterministic' (their statements: YthbogaokmjjpkaaTotals.lean).
  GIVEN WITH THE SEED: the statements are not yours to turn. If you find one false, say at which input.
  Laid BY PROGRAM, IN A SANDBOX (cutbox-rows.mjs): the forced cells as the released guide's own fill.sh prints them over the translation 011eed4f4647f3f7… (all of the seat's roots in one cut). By AI agents, Wed Nov 11 2026. No macro, syntax, notation, axiom, sorry.
-/
import Derived.Test.YthbogaokmjjpkaaChecked
import GoSem.Claim
import GoSem.ClaimJoined
import GoSem.ClaimMapViews
import Derived.JoinedTies
import Derived.KernelRfl
namespace Go.Proofs.Ythbogaokmjjpkaa
/- THE CELL 'sum', in the pinned program and in every row, IS THE sha256 OF THE DUMP (.gsa) THAT YthbogaokmjjpkaaProg.lean LOADS. Nothing in Lean hashes anything: it is a label: what it is worth is what the hold of that sum in a sandbox is worth. -/
noncomputable def Try.pinned : Pinned := { name := "ythbogaokmjjpkaa", sum := "011eed4f4647f3f7bbc8d0be5c440a648a60e011d67568bba1a432f5e2e1e57a", checked := Try.checked }
namespace Rows
def none {H : Type} : Left H := { results := [], args := [] }

/-- 'laws.FnTransposeInt64Int32': WHATEVER THE INPUT: true; the input reads as it did. -/
def fnTransposeInt64Int32Spec : ChangeSpec := { name := "fnTransposeInt64Int32", fn := fun _ => fun
  | [d1, d2] => { results := [.lit (.bool true)], args := [d1, d2] }
  | _ => none }
def fnTransposeInt64Int32Row : OpenClaim := { program := "ythbogaokmjjpkaa", sum := "011eed4f4647f3f7bbc8d0be5c440a648a60e011d67568bba1a432f5e2e1e57a", func := "given.example/pub-arrowroot/laws.FnTransposeInt64Int32", spec := "fnTransposeInt64Int32", apart := false }
def FnTransposeInt64Int32Said : Prop := fnTransposeInt64Int32Row.holds Try.pinned (OpenSpec.ofChange fnTransposeInt64Int32Spec)

/-- ITS FALSE NEIGHBOUR: 'it returns false'. Refute it at one input. -/
def fnTransposeInt64Int32Wrong : ChangeSpec := { name := "fnTransposeInt64Int32", fn := fun _ => fun
  | [d1, d2] => { results := [.lit (.bool false)], args := [d1, d2] }
  | _ => none }
def FnTransposeInt64Int32WrongFalsely : Prop := fnTransposeInt64Int32Row.holds Try.pinned (OpenSpec.ofChange fnTransposeInt64Int32Wrong)

/-- 'laws.FnTransposeUint16Uint16': WHATEVER THE INPUT: true; the input reads as it did. -/
def fnTransposeUint16Uint16Spec : ChangeSpec := { name := "fnTransposeUint16Uint16", fn := fun _ => fun
  | [d1, d2] => { results := [.lit (.bool true)], args := [d1, d2] }
  | _ => none }
def fnTransposeUint16Uint16Row : OpenClaim := { program := "ythbogaokmjjpkaa", sum := "011eed4f4647f3f7bbc8d0be5c440a648a60e011d67568bba1a432f5e2e1e57a", func := "given.example/pub-arrowroot/laws.FnTransposeUint16Uint16", spec := "fnTransposeUint16Uint16", apart := false }
def FnTransposeUint16Uint16Said : Prop := fnTransposeUint16Uint16Row.holds Try.pinned (OpenSpec.ofChange fnTransposeUint16Uint16Spec)

/-- ITS FALSE NEIGHBOUR: 'it returns false'. Refute it at one input. -/
def fnTransposeUint16Uint16Wrong : ChangeSpec := { name := "fnTransposeUint16Uint16", fn := fun _ => fun
  | [d1, d2] => { results := [.lit (.bool false)], args := [d1, d2] }
  | _ => none }
def FnTransposeUint16Uint16WrongFalsely : Prop := fnTransposeUint16Uint16Row.holds Try.pinned (OpenSpec.ofChange fnTransposeUint16Uint16Wrong)

/-- 'laws.FnTransposeUint8Uint8': WHATEVER THE INPUT: true; the input reads as it did. -/
def fnTransposeUint8Uint8Spec : ChangeSpec := { name := "fnTransposeUint8Uint8", fn := fun _ => fun
  | [d1, d2] => { results := [.lit (.bool true)], args := [d1, d2] }
  | _ => none }
def fnTransposeUint8Uint8Row : OpenClaim := { program := "ythbogaokmjjpkaa", sum := "011eed4f4647f3f7bbc8d0be5c440a648a60e011d67568bba1a432f5e2e1e57a", func := "given.example/pub-arrowroot/laws.FnTransposeUint8Uint8", spec := "fnTransposeUint8Uint8", apart := false }
def FnTransposeUint8Uint8Said : Prop := fnTransposeUint8Uint8Row.holds Try.pinned (OpenSpec.ofChange fnTransposeUint8Uint8Spec)

/-- ITS FALSE NEIGHBOUR: 'it returns false'. Refute it at one input. -/
def fnTransposeUint8Uint8Wrong : ChangeSpec := { name := "fnTransposeUint8Uint8", fn := fun _ => fun
  | [d1, d2] => { results := [.lit (.bool false)], args := [d1, d2] }
  | _ => none }
def FnTransposeUint8Uint8WrongFalsely : Prop := fnTransposeUint8Uint8Row.holds Try.pinned (OpenSpec.ofChange fnTransposeUint8Uint8Wrong)

/-- 'laws.FnExtremesUint16': WHATEVER THE INPUT: true; the input reads as it did. -/
def fnExtremesUint16Spec : ChangeSpec := { name := "fnExtremesUint16", fn := fun _ => fun
  | [d] => { results := [.lit (.bool true)], args := [d] }
  | _ => none }
def fnExtremesUint16Row : OpenClaim := { program := "ythbogaokmjjpkaa", sum := "011eed4f4647f3f7bbc8d0be5c440a648a60e011d67568bba1a432f5e2e1e57a", func := "given.example/pub-arrowroot/laws.FnExtremesUint16", spec := "fnExtremesUint16", apart := false }
def FnExtremesUint16Said : Prop := fnExtremesUint16Row.holds Try.pinned (OpenSpec.ofChange fnExtremesUint16Spec)

/-- ITS FALSE NEIGHBOUR: 'it returns false'. Refute it at one input. -/
def fnExtremesUint16Wrong : ChangeSpec := { name := "fnExtremesUint16", fn := fun _ => fun
  | [d] => { results := [.lit (.bool false)], args := [d] }
  | _ => none }
def FnExtremesUint16WrongFalsely : Prop := fnExtremesUint16Row.holds Try.pinned (OpenSpec.ofChange fnExtremesUint16Wrong)

/-- 'laws.FnExtremesUint64': WHATEVER THE INPUT: true; the input reads as it did. -/
def fnExtremesUint64Spec : ChangeSpec := { name := "fnExtremesUint64", fn := fun _ => fun
  | [d] => { results := [.lit (.bool true)], args := [d] }
  | _ => none }
def fnExtremesUint64Row : OpenClaim := { program := "ythbogaokmjjpkaa", sum := "011eed4f4647f3f7bbc8d0be5c440a648a60e011d67568bba1a432f5e2e1e57a", func := "given.example/pub-arrowroot/laws.FnExtremesUint64", spec := "fnExtremesUint64", apart := false }
def FnExtremesUint64Said : Prop := fnExtremesUint64Row.holds Try.pinned (OpenSpec.ofChange fnExtremesUint64Spec)

/-- ITS FALSE NEIGHBOUR: 'it returns false'. Refute it at one input. -/
def fnExtremesUint64Wrong : ChangeSpec := { name := "fnExtremesUint64", fn := fun _ => fun
  | [d] => { results := [.lit (.bool false)], args := [d] }
  | _ => none }
def FnExtremesUint64WrongFalsely : Prop := fnExtremesUint64Row.holds Try.pinned (OpenSpec.ofChange fnExtremesUint64Wrong)

/- THE SECOND FORM. 'bulk': how many values and letters a reading holds, each counted each time it is reached (what is shared counts as often as it is met; a slice's spare places count too). A statement '..UptoSaid' is the law's where the arguments, and the package variables that the reading takes, are together of bulk at most 1048576: NARROWER than '..Said'. Prove '..Said' where nothing that the law and all that it calls make is longer than what came in: it says more and counts as full. Else prove '..UptoSaid'. A law counts once. -/
mutual
def uptoBulk {H : Type} : DataW H → Nat
  | .lit (.string bytes) => bytes.length + 1
  | .lit _ => 1
  | .nil => 1
  | .ptr d => uptoBulk d + 1
  | .slice elems spare => uptoBulkAll elems + uptoBulkAll spare + 1
  | .agg parts => uptoBulkAll parts + 1
  | .iface _ d => uptoBulk d + 1
  | .map entries => uptoBulkEntries entries + 1
  | .held _ => 1
def uptoBulkAll {H : Type} : List (DataW H) → Nat
  | [] => 0
  | d :: r => uptoBulk d + uptoBulkAll r
def uptoBulkEntries {H : Type} : List (Lit × DataW H) → Nat
  | [] => 0
  | x :: r => uptoBulkEntry x + uptoBulkEntries r
def uptoBulkEntry {H : Type} : Lit × DataW H → Nat
  | (.string bytes, d) => bytes.length + uptoBulk d + 1
  | (_, d) => uptoBulk d + 1
 end
def uptoSmall : (H : Type) → List (DataW H) → Bool := fun _ ds => decide (uptoBulkAll ds ≤ 1048576)
def OpenSpec.upto (s : _root_.Go.ChangeSpec) : _root_.Go.OpenSpec := { _root_.Go.OpenSpec.ofChange s with cond := some uptoSmall }

/-- 'laws.FnTransposeInt64Int32', WHERE WHAT IT READS IS OF BULK AT MOST 1048576: true; the input reads as it did. -/
def fnTransposeInt64Int32UptoRow : OpenClaim := { program := "ythbogaokmjjpkaa", sum := "011eed4f4647f3f7bbc8d0be5c440a648a60e011d67568bba1a432f5e2e1e57a", func := "given.example/pub-arrowroot/laws.FnTransposeInt64Int32", spec := "fnTransposeInt64Int32", apart := false, narrowed := true }
def FnTransposeInt64Int32UptoSaid : Prop := fnTransposeInt64Int32UptoRow.holds Try.pinned (OpenSpec.upto fnTransposeInt64Int32Spec)

/-- 'laws.FnTransposeUint16Uint16', WHERE WHAT IT READS IS OF BULK AT MOST 1048576: true; the input reads as it did. -/
def fnTransposeUint16Uint16UptoRow : OpenClaim := { program := "ythbogaokmjjpkaa", sum := "011eed4f4647f3f7bbc8d0be5c440a648a60e011d67568bba1a432f5e2e1e57a", func := "given.example/pub-arrowroot/laws.FnTransposeUint16Uint16", spec := "fnTransposeUint16Uint16", apart := false, narrowed := true }
def FnTransposeUint16Uint16UptoSaid : Prop := fnTransposeUint16Uint16UptoRow.holds Try.pinned (OpenSpec.upto fnTransposeUint16Uint16Spec)

/-- 'laws.FnTransposeUint8Uint8', WHERE WHAT IT READS IS OF BULK AT MOST 1048576: true; the input reads as it did. -/
def fnTransposeUint8Uint8UptoRow : OpenClaim := { program := "ythbogaokmjjpkaa", sum := "011eed4f4647f3f7bbc8d0be5c440a648a60e011d67568bba1a432f5e2e1e57a", func := "given.example/pub-arrowroot/laws.FnTransposeUint8Uint8", spec := "fnTransposeUint8Uint8", apart := false, narrowed := true }
def FnTransposeUint8Uint8UptoSaid : Prop := fnTransposeUint8Uint8UptoRow.holds Try.pinned (OpenSpec.upto fnTransposeUint8Uint8Spec)

/-- 'laws.FnExtremesUint16', WHERE WHAT IT READS IS OF BULK AT MOST 1048576: true; the input reads as it did. -/
def fnExtremesUint16UptoRow : OpenClaim := { program := "ythbogaokmjjpkaa", sum := "011eed4f4647f3f7bbc8d0be5c440a648a60e011d67568bba1a432f5e2e1e57a", func := "given.example/pub-arrowroot/laws.FnExtremesUint16", spec := "fnExtremesUint16", apart := false, narrowed := true }
def FnExtremesUint16UptoSaid : Prop := fnExtremesUint16UptoRow.holds Try.pinned (OpenSpec.upto fnExtremesUint16Spec)

/-- 'laws.FnExtremesUint64', WHERE WHAT IT READS IS OF BULK AT MOST 1048576: true; the input reads as it did. -/
def fnExtremesUint64UptoRow : OpenClaim := { program := "ythbogaokmjjpkaa", sum := "011eed4f4647f3f7bbc8d0be5c440a648a60e011d67568bba1a432f5e2e1e57a", func := "given.example/pub-arrowroot/laws.FnExtremesUint64", spec := "fnExtremesUint64", apart := false, narrowed := true }
def FnExtremesUint64UptoSaid : Prop := fnExtremesUint64UptoRow.holds Try.pinned (OpenSpec.upto fnExtremesUint64Spec)

end Rows
end Go.Proofs.Ythbogaokmjjpkaa
