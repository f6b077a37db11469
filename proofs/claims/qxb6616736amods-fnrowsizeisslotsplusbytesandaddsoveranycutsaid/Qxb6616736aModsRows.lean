/-
  No cell of these rows narrows 'for every input' (looked for: loops, veiled, ifaces, maps, wideKeys, modest, calm, conditions, laid).
  DERIVED. THE GIVEN ROWS OF THIS SEAT. 2 by the template 'for every input the law returns true; each argument reads behind the call as it read before'; 0 by the template 'total and deterministic' (their statements: Qxb6616736aModsTotals.lean).
  GIVEN WITH THE SEED: the statements are not yours to turn. If you find one false, say at which input.
  Laid BY PROGRAM, IN A SANDBOX (cutbox-rows.mjs): the forced cells as the released guide's own fill.sh prints them over the translation 1f6364f48f7bfbd2… (all of the seat's roots in one cut). By AI agents, Wed Nov 11 2026. No macro, syntax, notation, axiom, sorry.
-/
import Derived.Test.Qxb6616736aModsChecked
import GoSem.Claim
import GoSem.ClaimJoined
import GoSem.ClaimMapViews
import Derived.JoinedTies
import Derived.KernelRfl
namespace Go.Proofs.Qxb6616736aMods
/- THE CELL 'sum', in the pinned program and in every row, IS THE sha256 OF THE DUMP (.gsa) THAT Qxb6616736aModsProg.lean LOADS. Nothing in Lean hashes anything: it is a label: what it is worth is what the hold of that sum in a sandbox is worth. -/
noncomputable def Trym.pinned : Pinned := { name := "qxb6616736amods", sum := "1f6364f48f7bfbd21941d9ec615ff3c1e5d257f6d139bd3dfbbcc6b5fdd02cdd", checked := Trym.checked }
namespace Rows
def none {H : Type} : Left H := { results := [], args := [] }

/-- 'zzlaws_root_b1.FnRowSizeIsSlotsPlusBytesAndAddsOverAnyCut': WHATEVER THE INPUT: true; the input reads as it did. -/
def fnRowSizeIsSlotsPlusBytesAndAddsOverAnyCutSpec : ChangeSpec := { name := "fnRowSizeIsSlotsPlusBytesAndAddsOverAnyCut", fn := fun _ => fun
  | [d1, d2, d3, d4, d5, d6, d7, d8, d9] => { results := [.lit (.bool true)], args := [d1, d2, d3, d4, d5, d6, d7, d8, d9] }
  | _ => none }
def fnRowSizeIsSlotsPlusBytesAndAddsOverAnyCutRow : OpenClaim := { program := "qxb6616736amods", sum := "1f6364f48f7bfbd21941d9ec615ff3c1e5d257f6d139bd3dfbbcc6b5fdd02cdd", func := "example.com/tailrace/tailrace/zzlaws_root_b1.FnRowSizeIsSlotsPlusBytesAndAddsOverAnyCut", spec := "fnRowSizeIsSlotsPlusBytesAndAddsOverAnyCut", make := .lifted ["publicsums"], apart := false }
def FnRowSizeIsSlotsPlusBytesAndAddsOverAnyCutSaid : Prop := fnRowSizeIsSlotsPlusBytesAndAddsOverAnyCutRow.holds Trym.pinned (OpenSpec.ofChange fnRowSizeIsSlotsPlusBytesAndAddsOverAnyCutSpec)

/-- ITS FALSE NEIGHBOUR: 'it returns false'. Refute it at one input. -/
def fnRowSizeIsSlotsPlusBytesAndAddsOverAnyCutWrong : ChangeSpec := { name := "fnRowSizeIsSlotsPlusBytesAndAddsOverAnyCut", fn := fun _ => fun
  | [d1, d2, d3, d4, d5, d6, d7, d8, d9] => { results := [.lit (.bool false)], args := [d1, d2, d3, d4, d5, d6, d7, d8, d9] }
  | _ => none }
def FnRowSizeIsSlotsPlusBytesAndAddsOverAnyCutWrongFalsely : Prop := fnRowSizeIsSlotsPlusBytesAndAddsOverAnyCutRow.holds Trym.pinned (OpenSpec.ofChange fnRowSizeIsSlotsPlusBytesAndAddsOverAnyCutWrong)

/-- 'zzlaws_root_b1.FnRowSizeGrowsByOneValue': WHATEVER THE INPUT: true; the input reads as it did. -/
def fnRowSizeGrowsByOneValueSpec : ChangeSpec := { name := "fnRowSizeGrowsByOneValue", fn := fun _ => fun
  | [d1, d2, d3, d4, d5, d6, d7] => { results := [.lit (.bool true)], args := [d1, d2, d3, d4, d5, d6, d7] }
  | _ => none }
def fnRowSizeGrowsByOneValueRow : OpenClaim := { program := "qxb6616736amods", sum := "1f6364f48f7bfbd21941d9ec615ff3c1e5d257f6d139bd3dfbbcc6b5fdd02cdd", func := "example.com/tailrace/tailrace/zzlaws_root_b1.FnRowSizeGrowsByOneValue", spec := "fnRowSizeGrowsByOneValue", make := .lifted ["publicsums"], apart := false }
def FnRowSizeGrowsByOneValueSaid : Prop := fnRowSizeGrowsByOneValueRow.holds Trym.pinned (OpenSpec.ofChange fnRowSizeGrowsByOneValueSpec)

/-- ITS FALSE NEIGHBOUR: 'it returns false'. Refute it at one input. -/
def fnRowSizeGrowsByOneValueWrong : ChangeSpec := { name := "fnRowSizeGrowsByOneValue", fn := fun _ => fun
  | [d1, d2, d3, d4, d5, d6, d7] => { results := [.lit (.bool false)], args := [d1, d2, d3, d4, d5, d6, d7] }
  | _ => none }
def FnRowSizeGrowsByOneValueWrongFalsely : Prop := fnRowSizeGrowsByOneValueRow.holds Trym.pinned (OpenSpec.ofChange fnRowSizeGrowsByOneValueWrong)

end Rows
end Go.Proofs.Qxb6616736aMods
