/-
  No cell of these rows narrows 'for every input' (looked for: loops, veiled, ifaces, maps, wideKeys, modest, calm, conditions, laid).
  DERIVED. THE GIVEN ROWS OF THIS SEAT. 4 by the template 'for every input the law returns true; each argument reads behind the call as it read before'; 0 by the template 'total and deterministic' (their statements: Qxb6001552aTotals.lean).
  GIVEN WITH THE SEED: the statements are not yours to turn. If you find one false, say at which input.
  Laid BY PROGRAM, IN A SANDBOX (cutbox-rows.mjs): the forced cells as the released guide's own fill.sh prints them over the translation b181b929ad43d98b… (all of the seat's roots in one cut). By AI agents, Wed Nov 11 2026. No macro, syntax, notation, axiom, sorry.
-/
import Derived.Test.Qxb6001552aChecked
import GoSem.Claim
import GoSem.ClaimJoined
import GoSem.ClaimMapViews
import Derived.JoinedTies
import Derived.KernelRfl
namespace Go.Proofs.Qxb6001552a
/- THE CELL 'sum', in the pinned program and in every row, IS THE sha256 OF THE DUMP (.gsa) THAT Qxb6001552aProg.lean LOADS. Nothing in Lean hashes anything: it is a label: what it is worth is what the hold of that sum in a sandbox is worth. -/
noncomputable def Try.pinned : Pinned := { name := "qxb6001552a", sum := "b181b929ad43d98bdfae1cbf3cc3e80dbe7bdb8b17eaa8cb47ebc9fe41502e51", checked := Try.checked }
namespace Rows
def none {H : Type} : Left H := { results := [], args := [] }

/-- 'zzlaws_internal_syntax_b1.FnWriteStringReadsBack': WHATEVER THE INPUT: true; the input reads as it did. -/
def fnWriteStringReadsBackSpec : ChangeSpec := { name := "fnWriteStringReadsBack", fn := fun _ => fun
  | [d] => { results := [.lit (.bool true)], args := [d] }
  | _ => none }
def fnWriteStringReadsBackRow : OpenClaim := { program := "qxb6001552a", sum := "b181b929ad43d98bdfae1cbf3cc3e80dbe7bdb8b17eaa8cb47ebc9fe41502e51", func := "example.com/plancraft/plancraft/zzlaws_internal_syntax_b1.FnWriteStringReadsBack", spec := "fnWriteStringReadsBack", inPlace := ["internal/abi.NoEscape"], apart := false }
def FnWriteStringReadsBackSaid : Prop := fnWriteStringReadsBackRow.holds Try.pinned (OpenSpec.ofChange fnWriteStringReadsBackSpec)

/-- ITS FALSE NEIGHBOUR: 'it returns false'. Refute it at one input. -/
def fnWriteStringReadsBackWrong : ChangeSpec := { name := "fnWriteStringReadsBack", fn := fun _ => fun
  | [d] => { results := [.lit (.bool false)], args := [d] }
  | _ => none }
def FnWriteStringReadsBackWrongFalsely : Prop := fnWriteStringReadsBackRow.holds Try.pinned (OpenSpec.ofChange fnWriteStringReadsBackWrong)

/-- 'zzlaws_internal_syntax_b1.FnWriteStringKeepsToOneLine': WHATEVER THE INPUT: true; the input reads as it did. -/
def fnWriteStringKeepsToOneLineSpec : ChangeSpec := { name := "fnWriteStringKeepsToOneLine", fn := fun _ => fun
  | [d] => { results := [.lit (.bool true)], args := [d] }
  | _ => none }
def fnWriteStringKeepsToOneLineRow : OpenClaim := { program := "qxb6001552a", sum := "b181b929ad43d98bdfae1cbf3cc3e80dbe7bdb8b17eaa8cb47ebc9fe41502e51", func := "example.com/plancraft/plancraft/zzlaws_internal_syntax_b1.FnWriteStringKeepsToOneLine", spec := "fnWriteStringKeepsToOneLine", inPlace := ["internal/abi.NoEscape"], apart := false }
def FnWriteStringKeepsToOneLineSaid : Prop := fnWriteStringKeepsToOneLineRow.holds Try.pinned (OpenSpec.ofChange fnWriteStringKeepsToOneLineSpec)

/-- ITS FALSE NEIGHBOUR: 'it returns false'. Refute it at one input. -/
def fnWriteStringKeepsToOneLineWrong : ChangeSpec := { name := "fnWriteStringKeepsToOneLine", fn := fun _ => fun
  | [d] => { results := [.lit (.bool false)], args := [d] }
  | _ => none }
def FnWriteStringKeepsToOneLineWrongFalsely : Prop := fnWriteStringKeepsToOneLineRow.holds Try.pinned (OpenSpec.ofChange fnWriteStringKeepsToOneLineWrong)

/-- 'zzlaws_internal_syntax_b1.FnWriteStringLengthBounds': WHATEVER THE INPUT: true; the input reads as it did. -/
def fnWriteStringLengthBoundsSpec : ChangeSpec := { name := "fnWriteStringLengthBounds", fn := fun _ => fun
  | [d] => { results := [.lit (.bool true)], args := [d] }
  | _ => none }
def fnWriteStringLengthBoundsRow : OpenClaim := { program := "qxb6001552a", sum := "b181b929ad43d98bdfae1cbf3cc3e80dbe7bdb8b17eaa8cb47ebc9fe41502e51", func := "example.com/plancraft/plancraft/zzlaws_internal_syntax_b1.FnWriteStringLengthBounds", spec := "fnWriteStringLengthBounds", inPlace := ["internal/abi.NoEscape"], apart := false }
def FnWriteStringLengthBoundsSaid : Prop := fnWriteStringLengthBoundsRow.holds Try.pinned (OpenSpec.ofChange fnWriteStringLengthBoundsSpec)

/-- ITS FALSE NEIGHBOUR: 'it returns false'. Refute it at one input. -/
def fnWriteStringLengthBoundsWrong : ChangeSpec := { name := "fnWriteStringLengthBounds", fn := fun _ => fun
  | [d] => { results := [.lit (.bool false)], args := [d] }
  | _ => none }
def FnWriteStringLengthBoundsWrongFalsely : Prop := fnWriteStringLengthBoundsRow.holds Try.pinned (OpenSpec.ofChange fnWriteStringLengthBoundsWrong)

/-- 'zzlaws_internal_syntax_b1.FnUnescapeUndoesWriteStringOnOneByte': WHATEVER THE INPUT: true; the input reads as it did. -/
def fnUnescapeUndoesWriteStringOnOneByteSpec : ChangeSpec := { name := "fnUnescapeUndoesWriteStringOnOneByte", fn := fun _ => fun
  | [d] => { results := [.lit (.bool true)], args := [d] }
  | _ => none }
def fnUnescapeUndoesWriteStringOnOneByteRow : OpenClaim := { program := "qxb6001552a", sum := "b181b929ad43d98bdfae1cbf3cc3e80dbe7bdb8b17eaa8cb47ebc9fe41502e51", func := "example.com/plancraft/plancraft/zzlaws_internal_syntax_b1.FnUnescapeUndoesWriteStringOnOneByte", spec := "fnUnescapeUndoesWriteStringOnOneByte", inPlace := ["internal/abi.NoEscape"], apart := false }
def FnUnescapeUndoesWriteStringOnOneByteSaid : Prop := fnUnescapeUndoesWriteStringOnOneByteRow.holds Try.pinned (OpenSpec.ofChange fnUnescapeUndoesWriteStringOnOneByteSpec)

/-- ITS FALSE NEIGHBOUR: 'it returns false'. Refute it at one input. -/
def fnUnescapeUndoesWriteStringOnOneByteWrong : ChangeSpec := { name := "fnUnescapeUndoesWriteStringOnOneByte", fn := fun _ => fun
  | [d] => { results := [.lit (.bool false)], args := [d] }
  | _ => none }
def FnUnescapeUndoesWriteStringOnOneByteWrongFalsely : Prop := fnUnescapeUndoesWriteStringOnOneByteRow.holds Try.pinned (OpenSpec.ofChange fnUnescapeUndoesWriteStringOnOneByteWrong)

end Rows
end Go.Proofs.Qxb6001552a
