/-
  No cell of these rows narrows 'for every input' (looked for: loops, veiled, ifaces, maps, wideKeys, modest, calm, conditions, laid).
  DERIVED. THE GIVEN ROWS OF THIS SEAT. 3 by the template 'for every input the law returns true; each argument reads behind the call as it read before'; 0 by the template 'total and deterministic' (their statements: Qxb6616319aModsTotals.lean).
  GIVEN WITH THE SEED: the statements are not yours to turn. If you find one false, say at which input.
  Laid BY PROGRAM, IN A SANDBOX (cutbox-rows.mjs): the forced cells as the released guide's own fill.sh prints them over the translation 76a702dac8c9de11… (all of the seat's roots in one cut). By AI agents, Wed Nov 11 2026. No macro, syntax, notation, axiom, sorry.
-/
import Derived.Test.Qxb6616319aModsChecked
import GoSem.Claim
import GoSem.ClaimJoined
import GoSem.ClaimMapViews
import Derived.JoinedTies
import Derived.KernelRfl
namespace Go.Proofs.Qxb6616319aMods
/- THE CELL 'sum', in the pinned program and in every row, IS THE sha256 OF THE DUMP (.gsa) THAT Qxb6616319aModsProg.lean LOADS. Nothing in Lean hashes anything: it is a label: what it is worth is what the hold of that sum in a sandbox is worth. -/
noncomputable def Trym.pinned : Pinned := { name := "qxb6616319amods", sum := "76a702dac8c9de117dfcbfbf2590cf094ed00d01df3b6ae1b410d87aec5fae6b", checked := Trym.checked }
namespace Rows
def none {H : Type} : Left H := { results := [], args := [] }

/-- 'zzlaws_root_b1.FnUint128LessTrichotomyAndBorrow': WHATEVER THE INPUT: true; the input reads as it did. -/
def fnUint128LessTrichotomyAndBorrowSpec : ChangeSpec := { name := "fnUint128LessTrichotomyAndBorrow", fn := fun _ => fun
  | [d1, d2, d3, d4] => { results := [.lit (.bool true)], args := [d1, d2, d3, d4] }
  | _ => none }
def fnUint128LessTrichotomyAndBorrowRow : OpenClaim := { program := "qxb6616319amods", sum := "76a702dac8c9de117dfcbfbf2590cf094ed00d01df3b6ae1b410d87aec5fae6b", func := "example.com/stackwright/stackwright/zzlaws_root_b1.FnUint128LessTrichotomyAndBorrow", spec := "fnUint128LessTrichotomyAndBorrow", make := .lifted ["publicsums"], apart := false }
def FnUint128LessTrichotomyAndBorrowSaid : Prop := fnUint128LessTrichotomyAndBorrowRow.holds Trym.pinned (OpenSpec.ofChange fnUint128LessTrichotomyAndBorrowSpec)

/-- ITS FALSE NEIGHBOUR: 'it returns false'. Refute it at one input. -/
def fnUint128LessTrichotomyAndBorrowWrong : ChangeSpec := { name := "fnUint128LessTrichotomyAndBorrow", fn := fun _ => fun
  | [d1, d2, d3, d4] => { results := [.lit (.bool false)], args := [d1, d2, d3, d4] }
  | _ => none }
def FnUint128LessTrichotomyAndBorrowWrongFalsely : Prop := fnUint128LessTrichotomyAndBorrowRow.holds Trym.pinned (OpenSpec.ofChange fnUint128LessTrichotomyAndBorrowWrong)

/-- 'zzlaws_root_b1.FnUint128LessAgainstSuccessor': WHATEVER THE INPUT: true; the input reads as it did. -/
def fnUint128LessAgainstSuccessorSpec : ChangeSpec := { name := "fnUint128LessAgainstSuccessor", fn := fun _ => fun
  | [d1, d2, d3, d4] => { results := [.lit (.bool true)], args := [d1, d2, d3, d4] }
  | _ => none }
def fnUint128LessAgainstSuccessorRow : OpenClaim := { program := "qxb6616319amods", sum := "76a702dac8c9de117dfcbfbf2590cf094ed00d01df3b6ae1b410d87aec5fae6b", func := "example.com/stackwright/stackwright/zzlaws_root_b1.FnUint128LessAgainstSuccessor", spec := "fnUint128LessAgainstSuccessor", make := .lifted ["publicsums"], apart := false }
def FnUint128LessAgainstSuccessorSaid : Prop := fnUint128LessAgainstSuccessorRow.holds Trym.pinned (OpenSpec.ofChange fnUint128LessAgainstSuccessorSpec)

/-- ITS FALSE NEIGHBOUR: 'it returns false'. Refute it at one input. -/
def fnUint128LessAgainstSuccessorWrong : ChangeSpec := { name := "fnUint128LessAgainstSuccessor", fn := fun _ => fun
  | [d1, d2, d3, d4] => { results := [.lit (.bool false)], args := [d1, d2, d3, d4] }
  | _ => none }
def FnUint128LessAgainstSuccessorWrongFalsely : Prop := fnUint128LessAgainstSuccessorRow.holds Trym.pinned (OpenSpec.ofChange fnUint128LessAgainstSuccessorWrong)

/-- 'zzlaws_root_b1.FnAppendBytesTwoFramesReadBack': WHATEVER THE INPUT: true; the input reads as it did. -/
def fnAppendBytesTwoFramesReadBackSpec : ChangeSpec := { name := "fnAppendBytesTwoFramesReadBack", fn := fun _ => fun
  | [d1, d2, d3] => { results := [.lit (.bool true)], args := [d1, d2, d3] }
  | _ => none }
def fnAppendBytesTwoFramesReadBackRow : OpenClaim := { program := "qxb6616319amods", sum := "76a702dac8c9de117dfcbfbf2590cf094ed00d01df3b6ae1b410d87aec5fae6b", func := "example.com/stackwright/stackwright/zzlaws_root_b1.FnAppendBytesTwoFramesReadBack", spec := "fnAppendBytesTwoFramesReadBack", make := .lifted ["publicsums"], apart := false }
def FnAppendBytesTwoFramesReadBackSaid : Prop := fnAppendBytesTwoFramesReadBackRow.holds Trym.pinned (OpenSpec.ofChange fnAppendBytesTwoFramesReadBackSpec)

/-- ITS FALSE NEIGHBOUR: 'it returns false'. Refute it at one input. -/
def fnAppendBytesTwoFramesReadBackWrong : ChangeSpec := { name := "fnAppendBytesTwoFramesReadBack", fn := fun _ => fun
  | [d1, d2, d3] => { results := [.lit (.bool false)], args := [d1, d2, d3] }
  | _ => none }
def FnAppendBytesTwoFramesReadBackWrongFalsely : Prop := fnAppendBytesTwoFramesReadBackRow.holds Trym.pinned (OpenSpec.ofChange fnAppendBytesTwoFramesReadBackWrong)

end Rows
end Go.Proofs.Qxb6616319aMods
