/-
  NARROWER THAN 'FOR EVERY INPUT', by the rows' own cells (each row's printed sentence says how): FnUnpack2: laid · FnUnpack6: laid · FnUnpack10: laid · FnUnpack14: laid · FnUnpack18: laid · FnUnpack22: laid · FnUnpack26: laid · FnUnpack30: laid.
  DERIVED. THE GIVEN ROWS OF THIS SEAT. 8 by the template 'for every input the law returns true; each argument reads behind the call as it read before'; 0 by the template 'total and deterministic' (their statements: YtngihompgcjlmaaDoorTotals.lean).
  GIVEN WITH THE SEED: the statements are not yours to turn. If you find one false, say at which input.
  Laid BY PROGRAM, IN A SANDBOX (cutbox-rows.mjs): the forced cells as the released guide's own fill.sh prints them over the translation 0589784d15c9b7cd… (all of the seat's roots in one cut). By AI agents, Wed Nov 11 2026. No macro, syntax, notation, axiom, sorry.
-/
import Derived.Test.YtngihompgcjlmaaDoorChecked
import GoSem.Claim
import GoSem.ClaimJoined
import GoSem.ClaimMapViews
import Derived.JoinedTies
import Derived.KernelRfl
namespace Go.Proofs.YtngihompgcjlmaaDoor
/- THE CELL 'sum', in the pinned program and in every row, IS THE sha256 OF THE DUMP (.gsa) THAT YtngihompgcjlmaaDoorProg.lean LOADS. Nothing in Lean hashes anything: it is a label: what it is worth is what the hold of that sum in a sandbox is worth. -/
noncomputable def Tryd.pinned : Pinned := { name := "ytngihompgcjlmaadoor", sum := "0589784d15c9b7cd0cacd000946a02226266d6d22b010e38a7b49712aa9a8e5e", checked := Tryd.checked }
namespace Rows
def none {H : Type} : Left H := { results := [], args := [] }

/- WHAT THE LISTED PACKAGE-LEVEL VARIABLES READ AS WHEN THE CALL BEGINS. Each datum BY PROGRAM (the guide's laid-datum.mjs) off the statement by which the dump's own 'gosem.cut.vars' lays the variable. In a bare row this is a premise. The card (YtngihompgcjlmaaDoorCards.lean) ties it to the program's text. -/
def laid_io_ErrShortBuffer {H : Type} : DataW H := .iface "*errors.errorString" (.ptr (.agg [.lit (.string [115, 104, 111, 114, 116, 32, 98, 117, 102, 102, 101, 114])]))
def laid_io_EOF {H : Type} : DataW H := .iface "*errors.errorString" (.ptr (.agg [.lit (.string [69, 79, 70])]))
def laid_io_ErrUnexpectedEOF {H : Type} : DataW H := .iface "*errors.errorString" (.ptr (.agg [.lit (.string [117, 110, 101, 120, 112, 101, 99, 116, 101, 100, 32, 69, 79, 70])]))

/-- 'laws.FnUnpack2': WHATEVER THE INPUT: true; the input reads as it did. -/
def fnUnpack2Spec : ChangeSpec := { name := "fnUnpack2", fn := fun _ => fun
  | [d] => { results := [.lit (.bool true)], args := [d] }
  | _ => none }
def fnUnpack2Row : OpenClaim := { program := "ytngihompgcjlmaadoor", sum := "0589784d15c9b7cd0cacd000946a02226266d6d22b010e38a7b49712aa9a8e5e", func := "given.example/pub-arrowroot/laws.FnUnpack2", spec := "fnUnpack2", unfollowed := true, recurses := true, named := ["encoding/binary.LittleEndian", "io.ErrShortBuffer", "io.EOF", "io.ErrUnexpectedEOF"], apart := false, laid := [("io.ErrShortBuffer", laid_io_ErrShortBuffer), ("io.EOF", laid_io_EOF), ("io.ErrUnexpectedEOF", laid_io_ErrUnexpectedEOF)] }
def FnUnpack2Said : Prop := fnUnpack2Row.holds Tryd.pinned (OpenSpec.ofChange fnUnpack2Spec)

/-- ITS FALSE NEIGHBOUR: 'it returns false'. Refute it at one input. -/
def fnUnpack2Wrong : ChangeSpec := { name := "fnUnpack2", fn := fun _ => fun
  | [d] => { results := [.lit (.bool false)], args := [d] }
  | _ => none }
def FnUnpack2WrongFalsely : Prop := fnUnpack2Row.holds Tryd.pinned (OpenSpec.ofChange fnUnpack2Wrong)

/-- 'laws.FnUnpack6': WHATEVER THE INPUT: true; the input reads as it did. -/
def fnUnpack6Spec : ChangeSpec := { name := "fnUnpack6", fn := fun _ => fun
  | [d] => { results := [.lit (.bool true)], args := [d] }
  | _ => none }
def fnUnpack6Row : OpenClaim := { program := "ytngihompgcjlmaadoor", sum := "0589784d15c9b7cd0cacd000946a02226266d6d22b010e38a7b49712aa9a8e5e", func := "given.example/pub-arrowroot/laws.FnUnpack6", spec := "fnUnpack6", unfollowed := true, recurses := true, named := ["encoding/binary.LittleEndian", "io.ErrShortBuffer", "io.EOF", "io.ErrUnexpectedEOF"], apart := false, laid := [("io.ErrShortBuffer", laid_io_ErrShortBuffer), ("io.EOF", laid_io_EOF), ("io.ErrUnexpectedEOF", laid_io_ErrUnexpectedEOF)] }
def FnUnpack6Said : Prop := fnUnpack6Row.holds Tryd.pinned (OpenSpec.ofChange fnUnpack6Spec)

/-- ITS FALSE NEIGHBOUR: 'it returns false'. Refute it at one input. -/
def fnUnpack6Wrong : ChangeSpec := { name := "fnUnpack6", fn := fun _ => fun
  | [d] => { results := [.lit (.bool false)], args := [d] }
  | _ => none }
def FnUnpack6WrongFalsely : Prop := fnUnpack6Row.holds Tryd.pinned (OpenSpec.ofChange fnUnpack6Wrong)

/-- 'laws.FnUnpack10': WHATEVER THE INPUT: true; the input reads as it did. -/
def fnUnpack10Spec : ChangeSpec := { name := "fnUnpack10", fn := fun _ => fun
  | [d] => { results := [.lit (.bool true)], args := [d] }
  | _ => none }
def fnUnpack10Row : OpenClaim := { program := "ytngihompgcjlmaadoor", sum := "0589784d15c9b7cd0cacd000946a02226266d6d22b010e38a7b49712aa9a8e5e", func := "given.example/pub-arrowroot/laws.FnUnpack10", spec := "fnUnpack10", unfollowed := true, recurses := true, named := ["encoding/binary.LittleEndian", "io.ErrShortBuffer", "io.EOF", "io.ErrUnexpectedEOF"], apart := false, laid := [("io.ErrShortBuffer", laid_io_ErrShortBuffer), ("io.EOF", laid_io_EOF), ("io.ErrUnexpectedEOF", laid_io_ErrUnexpectedEOF)] }
def FnUnpack10Said : Prop := fnUnpack10Row.holds Tryd.pinned (OpenSpec.ofChange fnUnpack10Spec)

/-- ITS FALSE NEIGHBOUR: 'it returns false'. Refute it at one input. -/
def fnUnpack10Wrong : ChangeSpec := { name := "fnUnpack10", fn := fun _ => fun
  | [d] => { results := [.lit (.bool false)], args := [d] }
  | _ => none }
def FnUnpack10WrongFalsely : Prop := fnUnpack10Row.holds Tryd.pinned (OpenSpec.ofChange fnUnpack10Wrong)

/-- 'laws.FnUnpack14': WHATEVER THE INPUT: true; the input reads as it did. -/
def fnUnpack14Spec : ChangeSpec := { name := "fnUnpack14", fn := fun _ => fun
  | [d] => { results := [.lit (.bool true)], args := [d] }
  | _ => none }
def fnUnpack14Row : OpenClaim := { program := "ytngihompgcjlmaadoor", sum := "0589784d15c9b7cd0cacd000946a02226266d6d22b010e38a7b49712aa9a8e5e", func := "given.example/pub-arrowroot/laws.FnUnpack14", spec := "fnUnpack14", unfollowed := true, recurses := true, named := ["encoding/binary.LittleEndian", "io.ErrShortBuffer", "io.EOF", "io.ErrUnexpectedEOF"], apart := false, laid := [("io.ErrShortBuffer", laid_io_ErrShortBuffer), ("io.EOF", laid_io_EOF), ("io.ErrUnexpectedEOF", laid_io_ErrUnexpectedEOF)] }
def FnUnpack14Said : Prop := fnUnpack14Row.holds Tryd.pinned (OpenSpec.ofChange fnUnpack14Spec)

/-- ITS FALSE NEIGHBOUR: 'it returns false'. Refute it at one input. -/
def fnUnpack14Wrong : ChangeSpec := { name := "fnUnpack14", fn := fun _ => fun
  | [d] => { results := [.lit (.bool false)], args := [d] }
  | _ => none }
def FnUnpack14WrongFalsely : Prop := fnUnpack14Row.holds Tryd.pinned (OpenSpec.ofChange fnUnpack14Wrong)

/-- 'laws.FnUnpack18': WHATEVER THE INPUT: true; the input reads as it did. -/
def fnUnpack18Spec : ChangeSpec := { name := "fnUnpack18", fn := fun _ => fun
  | [d] => { results := [.lit (.bool true)], args := [d] }
  | _ => none }
def fnUnpack18Row : OpenClaim := { program := "ytngihompgcjlmaadoor", sum := "0589784d15c9b7cd0cacd000946a02226266d6d22b010e38a7b49712aa9a8e5e", func := "given.example/pub-arrowroot/laws.FnUnpack18", spec := "fnUnpack18", unfollowed := true, recurses := true, named := ["encoding/binary.LittleEndian", "io.ErrShortBuffer", "io.EOF", "io.ErrUnexpectedEOF"], apart := false, laid := [("io.ErrShortBuffer", laid_io_ErrShortBuffer), ("io.EOF", laid_io_EOF), ("io.ErrUnexpectedEOF", laid_io_ErrUnexpectedEOF)] }
def FnUnpack18Said : Prop := fnUnpack18Row.holds Tryd.pinned (OpenSpec.ofChange fnUnpack18Spec)

/-- ITS FALSE NEIGHBOUR: 'it returns false'. Refute it at one input. -/
def fnUnpack18Wrong : ChangeSpec := { name := "fnUnpack18", fn := fun _ => fun
  | [d] => { results := [.lit (.bool false)], args := [d] }
  | _ => none }
def FnUnpack18WrongFalsely : Prop := fnUnpack18Row.holds Tryd.pinned (OpenSpec.ofChange fnUnpack18Wrong)

/-- 'laws.FnUnpack22': WHATEVER THE INPUT: true; the input reads as it did. -/
def fnUnpack22Spec : ChangeSpec := { name := "fnUnpack22", fn := fun _ => fun
  | [d] => { results := [.lit (.bool true)], args := [d] }
  | _ => none }
def fnUnpack22Row : OpenClaim := { program := "ytngihompgcjlmaadoor", sum := "0589784d15c9b7cd0cacd000946a02226266d6d22b010e38a7b49712aa9a8e5e", func := "given.example/pub-arrowroot/laws.FnUnpack22", spec := "fnUnpack22", unfollowed := true, recurses := true, named := ["encoding/binary.LittleEndian", "io.ErrShortBuffer", "io.EOF", "io.ErrUnexpectedEOF"], apart := false, laid := [("io.ErrShortBuffer", laid_io_ErrShortBuffer), ("io.EOF", laid_io_EOF), ("io.ErrUnexpectedEOF", laid_io_ErrUnexpectedEOF)] }
def FnUnpack22Said : Prop := fnUnpack22Row.holds Tryd.pinned (OpenSpec.ofChange fnUnpack22Spec)

/-- ITS FALSE NEIGHBOUR: 'it returns false'. Refute it at one input. -/
def fnUnpack22Wrong : ChangeSpec := { name := "fnUnpack22", fn := fun _ => fun
  | [d] => { results := [.lit (.bool false)], args := [d] }
  | _ => none }
def FnUnpack22WrongFalsely : Prop := fnUnpack22Row.holds Tryd.pinned (OpenSpec.ofChange fnUnpack22Wrong)

/-- 'laws.FnUnpack26': WHATEVER THE INPUT: true; the input reads as it did. -/
def fnUnpack26Spec : ChangeSpec := { name := "fnUnpack26", fn := fun _ => fun
  | [d] => { results := [.lit (.bool true)], args := [d] }
  | _ => none }
def fnUnpack26Row : OpenClaim := { program := "ytngihompgcjlmaadoor", sum := "0589784d15c9b7cd0cacd000946a02226266d6d22b010e38a7b49712aa9a8e5e", func := "given.example/pub-arrowroot/laws.FnUnpack26", spec := "fnUnpack26", unfollowed := true, recurses := true, named := ["encoding/binary.LittleEndian", "io.ErrShortBuffer", "io.EOF", "io.ErrUnexpectedEOF"], apart := false, laid := [("io.ErrShortBuffer", laid_io_ErrShortBuffer), ("io.EOF", laid_io_EOF), ("io.ErrUnexpectedEOF", laid_io_ErrUnexpectedEOF)] }
def FnUnpack26Said : Prop := fnUnpack26Row.holds Tryd.pinned (OpenSpec.ofChange fnUnpack26Spec)

/-- ITS FALSE NEIGHBOUR: 'it returns false'. Refute it at one input. -/
def fnUnpack26Wrong : ChangeSpec := { name := "fnUnpack26", fn := fun _ => fun
  | [d] => { results := [.lit (.bool false)], args := [d] }
  | _ => none }
def FnUnpack26WrongFalsely : Prop := fnUnpack26Row.holds Tryd.pinned (OpenSpec.ofChange fnUnpack26Wrong)

/-- 'laws.FnUnpack30': WHATEVER THE INPUT: true; the input reads as it did. -/
def fnUnpack30Spec : ChangeSpec := { name := "fnUnpack30", fn := fun _ => fun
  | [d] => { results := [.lit (.bool true)], args := [d] }
  | _ => none }
def fnUnpack30Row : OpenClaim := { program := "ytngihompgcjlmaadoor", sum := "0589784d15c9b7cd0cacd000946a02226266d6d22b010e38a7b49712aa9a8e5e", func := "given.example/pub-arrowroot/laws.FnUnpack30", spec := "fnUnpack30", unfollowed := true, recurses := true, named := ["encoding/binary.LittleEndian", "io.ErrShortBuffer", "io.EOF", "io.ErrUnexpectedEOF"], apart := false, laid := [("io.ErrShortBuffer", laid_io_ErrShortBuffer), ("io.EOF", laid_io_EOF), ("io.ErrUnexpectedEOF", laid_io_ErrUnexpectedEOF)] }
def FnUnpack30Said : Prop := fnUnpack30Row.holds Tryd.pinned (OpenSpec.ofChange fnUnpack30Spec)

/-- ITS FALSE NEIGHBOUR: 'it returns false'. Refute it at one input. -/
def fnUnpack30Wrong : ChangeSpec := { name := "fnUnpack30", fn := fun _ => fun
  | [d] => { results := [.lit (.bool false)], args := [d] }
  | _ => none }
def FnUnpack30WrongFalsely : Prop := fnUnpack30Row.holds Tryd.pinned (OpenSpec.ofChange fnUnpack30Wrong)

/- THE SECOND FORM. 'bulk': how many values and letters a reading holds, each counted each time it is reached (what is shared counts as often as it is met; a slice's spare places count too). A statement '..UptoSaid' is the law's where the arguments, and the package variables that the reading takes, are together of bulk at most 1048576: NARROWER than '..Said'. Prove '..Said' where nothing that the law and all that it calls make is longer than what came in: it says more and counts as full. Else prove '..UptoSaid'. A law counts once. -/
mutual
def uptoBulk {H : Type} : DataW H → Nat
  | .lit (.string bytes) => bytes.length + 1
  | .lit _ => 1
  | .nil => 1
  | .ptr d => uptoBulk d + 1
  | .slice elems spare => uptoBulkAll elems + uptoBulkAll spare + 1
  | .agg parts => uptoBulkAll parts + 1
  | .iface _ d => uptoBulk d + 1
  | .map entries => uptoBulkEntries entries + 1
  | .held _ => 1
def uptoBulkAll {H : Type} : List (DataW H) → Nat
  | [] => 0
  | d :: r => uptoBulk d + uptoBulkAll r
def uptoBulkEntries {H : Type} : List (Lit × DataW H) → Nat
  | [] => 0
  | x :: r => uptoBulkEntry x + uptoBulkEntries r
def uptoBulkEntry {H : Type} : Lit × DataW H → Nat
  | (.string bytes, d) => bytes.length + uptoBulk d + 1
  | (_, d) => uptoBulk d + 1
 end
def uptoSmall : (H : Type) → List (DataW H) → Bool := fun _ ds => decide (uptoBulkAll ds ≤ 1048576)
def OpenSpec.upto (s : _root_.Go.ChangeSpec) : _root_.Go.OpenSpec := { _root_.Go.OpenSpec.ofChange s with cond := some uptoSmall }

/-- 'laws.FnUnpack2', WHERE WHAT IT READS IS OF BULK AT MOST 1048576: true; the input reads as it did. -/
def fnUnpack2UptoRow : OpenClaim := { program := "ytngihompgcjlmaadoor", sum := "0589784d15c9b7cd0cacd000946a02226266d6d22b010e38a7b49712aa9a8e5e", func := "given.example/pub-arrowroot/laws.FnUnpack2", spec := "fnUnpack2", unfollowed := true, recurses := true, named := ["encoding/binary.LittleEndian", "io.ErrShortBuffer", "io.EOF", "io.ErrUnexpectedEOF"], apart := false, laid := [("io.ErrShortBuffer", laid_io_ErrShortBuffer), ("io.EOF", laid_io_EOF), ("io.ErrUnexpectedEOF", laid_io_ErrUnexpectedEOF)], narrowed := true }
def FnUnpack2UptoSaid : Prop := fnUnpack2UptoRow.holds Tryd.pinned (OpenSpec.upto fnUnpack2Spec)

/-- 'laws.FnUnpack6', WHERE WHAT IT READS IS OF BULK AT MOST 1048576: true; the input reads as it did. -/
def fnUnpack6UptoRow : OpenClaim := { program := "ytngihompgcjlmaadoor", sum := "0589784d15c9b7cd0cacd000946a02226266d6d22b010e38a7b49712aa9a8e5e", func := "given.example/pub-arrowroot/laws.FnUnpack6", spec := "fnUnpack6", unfollowed := true, recurses := true, named := ["encoding/binary.LittleEndian", "io.ErrShortBuffer", "io.EOF", "io.ErrUnexpectedEOF"], apart := false, laid := [("io.ErrShortBuffer", laid_io_ErrShortBuffer), ("io.EOF", laid_io_EOF), ("io.ErrUnexpectedEOF", laid_io_ErrUnexpectedEOF)], narrowed := true }
def FnUnpack6UptoSaid : Prop := fnUnpack6UptoRow.holds Tryd.pinned (OpenSpec.upto fnUnpack6Spec)

/-- 'laws.FnUnpack10', WHERE WHAT IT READS IS OF BULK AT MOST 1048576: true; the input reads as it did. -/
def fnUnpack10UptoRow : OpenClaim := { program := "ytngihompgcjlmaadoor", sum := "0589784d15c9b7cd0cacd000946a02226266d6d22b010e38a7b49712aa9a8e5e", func := "given.example/pub-arrowroot/laws.FnUnpack10", spec := "fnUnpack10", unfollowed := true, recurses := true, named := ["encoding/binary.LittleEndian", "io.ErrShortBuffer", "io.EOF", "io.ErrUnexpectedEOF"], apart := false, laid := [("io.ErrShortBuffer", laid_io_ErrShortBuffer), ("io.EOF", laid_io_EOF), ("io.ErrUnexpectedEOF", laid_io_ErrUnexpectedEOF)], narrowed := true }
def FnUnpack10UptoSaid : Prop := fnUnpack10UptoRow.holds Tryd.pinned (OpenSpec.upto fnUnpack10Spec)

/-- 'laws.FnUnpack14', WHERE WHAT IT READS IS OF BULK AT MOST 1048576: true; the input reads as it did. -/
def fnUnpack14UptoRow : OpenClaim := { program := "ytngihompgcjlmaadoor", sum := "0589784d15c9b7cd0cacd000946a02226266d6d22b010e38a7b49712aa9a8e5e", func := "given.example/pub-arrowroot/laws.FnUnpack14", spec := "fnUnpack14", unfollowed := true, recurses := true, named := ["encoding/binary.LittleEndian", "io.ErrShortBuffer", "io.EOF", "io.ErrUnexpectedEOF"], apart := false, laid := [("io.ErrShortBuffer", laid_io_ErrShortBuffer), ("io.EOF", laid_io_EOF), ("io.ErrUnexpectedEOF", laid_io_ErrUnexpectedEOF)], narrowed := true }
def FnUnpack14UptoSaid : Prop := fnUnpack14UptoRow.holds Tryd.pinned (OpenSpec.upto fnUnpack14Spec)

/-- 'laws.FnUnpack18', WHERE WHAT IT READS IS OF BULK AT MOST 1048576: true; the input reads as it did. -/
def fnUnpack18UptoRow : OpenClaim := { program := "ytngihompgcjlmaadoor", sum := "0589784d15c9b7cd0cacd000946a02226266d6d22b010e38a7b49712aa9a8e5e", func := "given.example/pub-arrowroot/laws.FnUnpack18", spec := "fnUnpack18", unfollowed := true, recurses := true, named := ["encoding/binary.LittleEndian", "io.ErrShortBuffer", "io.EOF", "io.ErrUnexpectedEOF"], apart := false, laid := [("io.ErrShortBuffer", laid_io_ErrShortBuffer), ("io.EOF", laid_io_EOF), ("io.ErrUnexpectedEOF", laid_io_ErrUnexpectedEOF)], narrowed := true }
def FnUnpack18UptoSaid : Prop := fnUnpack18UptoRow.holds Tryd.pinned (OpenSpec.upto fnUnpack18Spec)

/-- 'laws.FnUnpack22', WHERE WHAT IT READS IS OF BULK AT MOST 1048576: true; the input reads as it did. -/
def fnUnpack22UptoRow : OpenClaim := { program := "ytngihompgcjlmaadoor", sum := "0589784d15c9b7cd0cacd000946a02226266d6d22b010e38a7b49712aa9a8e5e", func := "given.example/pub-arrowroot/laws.FnUnpack22", spec := "fnUnpack22", unfollowed := true, recurses := true, named := ["encoding/binary.LittleEndian", "io.ErrShortBuffer", "io.EOF", "io.ErrUnexpectedEOF"], apart := false, laid := [("io.ErrShortBuffer", laid_io_ErrShortBuffer), ("io.EOF", laid_io_EOF), ("io.ErrUnexpectedEOF", laid_io_ErrUnexpectedEOF)], narrowed := true }
def FnUnpack22UptoSaid : Prop := fnUnpack22UptoRow.holds Tryd.pinned (OpenSpec.upto fnUnpack22Spec)

/-- 'laws.FnUnpack26', WHERE WHAT IT READS IS OF BULK AT MOST 1048576: true; the input reads as it did. -/
def fnUnpack26UptoRow : OpenClaim := { program := "ytngihompgcjlmaadoor", sum := "0589784d15c9b7cd0cacd000946a02226266d6d22b010e38a7b49712aa9a8e5e", func := "given.example/pub-arrowroot/laws.FnUnpack26", spec := "fnUnpack26", unfollowed := true, recurses := true, named := ["encoding/binary.LittleEndian", "io.ErrShortBuffer", "io.EOF", "io.ErrUnexpectedEOF"], apart := false, laid := [("io.ErrShortBuffer", laid_io_ErrShortBuffer), ("io.EOF", laid_io_EOF), ("io.ErrUnexpectedEOF", laid_io_ErrUnexpectedEOF)], narrowed := true }
def FnUnpack26UptoSaid : Prop := fnUnpack26UptoRow.holds Tryd.pinned (OpenSpec.upto fnUnpack26Spec)

/-- 'laws.FnUnpack30', WHERE WHAT IT READS IS OF BULK AT MOST 1048576: true; the input reads as it did. -/
def fnUnpack30UptoRow : OpenClaim := { program := "ytngihompgcjlmaadoor", sum := "0589784d15c9b7cd0cacd000946a02226266d6d22b010e38a7b49712aa9a8e5e", func := "given.example/pub-arrowroot/laws.FnUnpack30", spec := "fnUnpack30", unfollowed := true, recurses := true, named := ["encoding/binary.LittleEndian", "io.ErrShortBuffer", "io.EOF", "io.ErrUnexpectedEOF"], apart := false, laid := [("io.ErrShortBuffer", laid_io_ErrShortBuffer), ("io.EOF", laid_io_EOF), ("io.ErrUnexpectedEOF", laid_io_ErrUnexpectedEOF)], narrowed := true }
def FnUnpack30UptoSaid : Prop := fnUnpack30UptoRow.holds Tryd.pinned (OpenSpec.upto fnUnpack30Spec)

end Rows
end Go.Proofs.YtngihompgcjlmaaDoor
