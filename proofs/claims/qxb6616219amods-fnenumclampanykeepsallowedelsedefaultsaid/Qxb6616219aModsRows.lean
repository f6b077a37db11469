/-
  No cell of these rows narrows 'for every input' (looked for: loops, veiled, ifaces, maps, wideKeys, modest, calm, conditions, laid).
  DERIVED. THE GIVEN ROWS OF THIS SEAT. 4 by the template 'for every input the law returns true; each argument reads behind the call as it read before'; 0 by the template 'total and deterministic' (their statements: Qxb6616219aModsTotals.lean).
  GIVEN WITH THE SEED: the statements are not yours to turn. If you find one false, say at which input.
  Laid BY PROGRAM, IN A SANDBOX (cutbox-rows.mjs): the forced cells as the released guide's own fill.sh prints them over the translation 61014f3ac1468035… (all of the seat's roots in one cut). By AI agents, Wed Nov 11 2026. No macro, syntax, notation, axiom, sorry.
-/
import Derived.Test.Qxb6616219aModsChecked
import GoSem.Claim
import GoSem.ClaimJoined
import GoSem.ClaimMapViews
import Derived.JoinedTies
import Derived.KernelRfl
namespace Go.Proofs.Qxb6616219aMods
/- THE CELL 'sum', in the pinned program and in every row, IS THE sha256 OF THE DUMP (.gsa) THAT Qxb6616219aModsProg.lean LOADS. Nothing in Lean hashes anything: it is a label: what it is worth is what the hold of that sum in a sandbox is worth. -/
noncomputable def Trym.pinned : Pinned := { name := "qxb6616219amods", sum := "61014f3ac1468035c77284e8e2999b7c3d9f74281007cb93e6741a7d2e42a7c1", checked := Trym.checked }
namespace Rows
def none {H : Type} : Left H := { results := [], args := [] }

/-- 'zzlaws_pkg_policy_b1.FnEnumClampOneKeepsAllowedElseDefault': WHATEVER THE INPUT: true; the input reads as it did. -/
def fnEnumClampOneKeepsAllowedElseDefaultSpec : ChangeSpec := { name := "fnEnumClampOneKeepsAllowedElseDefault", fn := fun _ => fun
  | [d1, d2, d3] => { results := [.lit (.bool true)], args := [d1, d2, d3] }
  | _ => none }
def fnEnumClampOneKeepsAllowedElseDefaultRow : OpenClaim := { program := "qxb6616219amods", sum := "61014f3ac1468035c77284e8e2999b7c3d9f74281007cb93e6741a7d2e42a7c1", func := "example.com/firm-policy/firm-policy/zzlaws_pkg_policy_b1.FnEnumClampOneKeepsAllowedElseDefault", spec := "fnEnumClampOneKeepsAllowedElseDefault", make := .lifted ["publicsums"], apart := false }
def FnEnumClampOneKeepsAllowedElseDefaultSaid : Prop := fnEnumClampOneKeepsAllowedElseDefaultRow.holds Trym.pinned (OpenSpec.ofChange fnEnumClampOneKeepsAllowedElseDefaultSpec)

/-- ITS FALSE NEIGHBOUR: 'it returns false'. Refute it at one input. -/
def fnEnumClampOneKeepsAllowedElseDefaultWrong : ChangeSpec := { name := "fnEnumClampOneKeepsAllowedElseDefault", fn := fun _ => fun
  | [d1, d2, d3] => { results := [.lit (.bool false)], args := [d1, d2, d3] }
  | _ => none }
def FnEnumClampOneKeepsAllowedElseDefaultWrongFalsely : Prop := fnEnumClampOneKeepsAllowedElseDefaultRow.holds Trym.pinned (OpenSpec.ofChange fnEnumClampOneKeepsAllowedElseDefaultWrong)

/-- 'zzlaws_pkg_policy_b1.FnEnumClampAnyKeepsAllowedElseDefault': WHATEVER THE INPUT: true; the input reads as it did. -/
def fnEnumClampAnyKeepsAllowedElseDefaultSpec : ChangeSpec := { name := "fnEnumClampAnyKeepsAllowedElseDefault", fn := fun _ => fun
  | [d1, d2, d3] => { results := [.lit (.bool true)], args := [d1, d2, d3] }
  | _ => none }
def fnEnumClampAnyKeepsAllowedElseDefaultRow : OpenClaim := { program := "qxb6616219amods", sum := "61014f3ac1468035c77284e8e2999b7c3d9f74281007cb93e6741a7d2e42a7c1", func := "example.com/firm-policy/firm-policy/zzlaws_pkg_policy_b1.FnEnumClampAnyKeepsAllowedElseDefault", spec := "fnEnumClampAnyKeepsAllowedElseDefault", make := .lifted ["publicsums"], apart := false }
def FnEnumClampAnyKeepsAllowedElseDefaultSaid : Prop := fnEnumClampAnyKeepsAllowedElseDefaultRow.holds Trym.pinned (OpenSpec.ofChange fnEnumClampAnyKeepsAllowedElseDefaultSpec)

/-- ITS FALSE NEIGHBOUR: 'it returns false'. Refute it at one input. -/
def fnEnumClampAnyKeepsAllowedElseDefaultWrong : ChangeSpec := { name := "fnEnumClampAnyKeepsAllowedElseDefault", fn := fun _ => fun
  | [d1, d2, d3] => { results := [.lit (.bool false)], args := [d1, d2, d3] }
  | _ => none }
def FnEnumClampAnyKeepsAllowedElseDefaultWrongFalsely : Prop := fnEnumClampAnyKeepsAllowedElseDefaultRow.holds Trym.pinned (OpenSpec.ofChange fnEnumClampAnyKeepsAllowedElseDefaultWrong)

/-- 'zzlaws_pkg_policy_b1.FnRangeClampBoundIsMedianAndIdempotent': WHATEVER THE INPUT: true; the input reads as it did. -/
def fnRangeClampBoundIsMedianAndIdempotentSpec : ChangeSpec := { name := "fnRangeClampBoundIsMedianAndIdempotent", fn := fun _ => fun
  | [d1, d2, d3, d4, d5, d6] => { results := [.lit (.bool true)], args := [d1, d2, d3, d4, d5, d6] }
  | _ => none }
def fnRangeClampBoundIsMedianAndIdempotentRow : OpenClaim := { program := "qxb6616219amods", sum := "61014f3ac1468035c77284e8e2999b7c3d9f74281007cb93e6741a7d2e42a7c1", func := "example.com/firm-policy/firm-policy/zzlaws_pkg_policy_b1.FnRangeClampBoundIsMedianAndIdempotent", spec := "fnRangeClampBoundIsMedianAndIdempotent", make := .lifted ["publicsums"], apart := false }
def FnRangeClampBoundIsMedianAndIdempotentSaid : Prop := fnRangeClampBoundIsMedianAndIdempotentRow.holds Trym.pinned (OpenSpec.ofChange fnRangeClampBoundIsMedianAndIdempotentSpec)

/-- ITS FALSE NEIGHBOUR: 'it returns false'. Refute it at one input. -/
def fnRangeClampBoundIsMedianAndIdempotentWrong : ChangeSpec := { name := "fnRangeClampBoundIsMedianAndIdempotent", fn := fun _ => fun
  | [d1, d2, d3, d4, d5, d6] => { results := [.lit (.bool false)], args := [d1, d2, d3, d4, d5, d6] }
  | _ => none }
def FnRangeClampBoundIsMedianAndIdempotentWrongFalsely : Prop := fnRangeClampBoundIsMedianAndIdempotentRow.holds Trym.pinned (OpenSpec.ofChange fnRangeClampBoundIsMedianAndIdempotentWrong)

/-- 'zzlaws_pkg_policy_b1.FnRangeClampBoundThroughNestedLevels': WHATEVER THE INPUT: true; the input reads as it did. -/
def fnRangeClampBoundThroughNestedLevelsSpec : ChangeSpec := { name := "fnRangeClampBoundThroughNestedLevels", fn := fun _ => fun
  | [d1, d2, d3, d4, d5, d6, d7, d8, d9] => { results := [.lit (.bool true)], args := [d1, d2, d3, d4, d5, d6, d7, d8, d9] }
  | _ => none }
def fnRangeClampBoundThroughNestedLevelsRow : OpenClaim := { program := "qxb6616219amods", sum := "61014f3ac1468035c77284e8e2999b7c3d9f74281007cb93e6741a7d2e42a7c1", func := "example.com/firm-policy/firm-policy/zzlaws_pkg_policy_b1.FnRangeClampBoundThroughNestedLevels", spec := "fnRangeClampBoundThroughNestedLevels", make := .lifted ["publicsums"], apart := false }
def FnRangeClampBoundThroughNestedLevelsSaid : Prop := fnRangeClampBoundThroughNestedLevelsRow.holds Trym.pinned (OpenSpec.ofChange fnRangeClampBoundThroughNestedLevelsSpec)

/-- ITS FALSE NEIGHBOUR: 'it returns false'. Refute it at one input. -/
def fnRangeClampBoundThroughNestedLevelsWrong : ChangeSpec := { name := "fnRangeClampBoundThroughNestedLevels", fn := fun _ => fun
  | [d1, d2, d3, d4, d5, d6, d7, d8, d9] => { results := [.lit (.bool false)], args := [d1, d2, d3, d4, d5, d6, d7, d8, d9] }
  | _ => none }
def FnRangeClampBoundThroughNestedLevelsWrongFalsely : Prop := fnRangeClampBoundThroughNestedLevelsRow.holds Trym.pinned (OpenSpec.ofChange fnRangeClampBoundThroughNestedLevelsWrong)

end Rows
end Go.Proofs.Qxb6616219aMods
