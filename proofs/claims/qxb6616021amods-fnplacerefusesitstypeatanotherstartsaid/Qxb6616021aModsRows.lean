/-
  No cell of these rows narrows 'for every input' (looked for: loops, veiled, ifaces, maps, wideKeys, modest, calm, conditions, laid).
  DERIVED. THE GIVEN ROWS OF THIS SEAT. 3 by the template 'for every input the law returns true; each argument reads behind the call as it read before'; 0 by the template 'total and deterministic' (their statements: Qxb6616021aModsTotals.lean).
  GIVEN WITH THE SEED: the statements are not yours to turn. If you find one false, say at which input.
  Laid BY PROGRAM, IN A SANDBOX (cutbox-rows.mjs): the forced cells as the released guide's own fill.sh prints them over the translation 3aef66d8e82a8d50… (all of the seat's roots in one cut). By AI agents, Wed Nov 11 2026. No macro, syntax, notation, axiom, sorry.
-/
import Derived.Test.Qxb6616021aModsChecked
import GoSem.Claim
import GoSem.ClaimJoined
import GoSem.ClaimMapViews
import Derived.JoinedTies
import Derived.KernelRfl
namespace Go.Proofs.Qxb6616021aMods
/- THE CELL 'sum', in the pinned program and in every row, IS THE sha256 OF THE DUMP (.gsa) THAT Qxb6616021aModsProg.lean LOADS. Nothing in Lean hashes anything: it is a label: what it is worth is what the hold of that sum in a sandbox is worth. -/
noncomputable def Trym.pinned : Pinned := { name := "qxb6616021amods", sum := "3aef66d8e82a8d504532c4039cea91c5e954eef1e7da7cfadce0979bb6fa3a35", checked := Trym.checked }
namespace Rows
def none {H : Type} : Left H := { results := [], args := [] }

/-- 'zzlaws_internal_maintenance_b1.FnChangedScriptRecordsEachNameAndWakesOnce': WHATEVER THE INPUT: true; the input reads as it did. -/
def fnChangedScriptRecordsEachNameAndWakesOnceSpec : ChangeSpec := { name := "fnChangedScriptRecordsEachNameAndWakesOnce", fn := fun _ => fun
  | [d] => { results := [.lit (.bool true)], args := [d] }
  | _ => none }
def fnChangedScriptRecordsEachNameAndWakesOnceRow : OpenClaim := { program := "qxb6616021amods", sum := "3aef66d8e82a8d504532c4039cea91c5e954eef1e7da7cfadce0979bb6fa3a35", func := "example.com/quorumward/quorumward/zzlaws_internal_maintenance_b1.FnChangedScriptRecordsEachNameAndWakesOnce", spec := "fnChangedScriptRecordsEachNameAndWakesOnce", inPlace := ["(*internal/sync.Mutex).Lock", "internal/race.Disable", "sync/atomic.CompareAndSwapInt32", "internal/race.Enable", "internal/race.Acquire", "(*internal/sync.Mutex).lockSlow", "internal/sync.runtime_canSpin", "internal/sync.runtime_doSpin", "internal/sync.throw", "internal/sync.runtime_nanotime", "internal/sync.runtime_SemacquireMutex", "sync/atomic.AddInt32", "(*internal/sync.Mutex).Unlock", "internal/race.ReleaseMerge", "(*internal/sync.Mutex).unlockSlow", "internal/sync.fatal", "internal/sync.runtime_Semrelease"], recurses := true, make := .lifted ["publicsums"], apart := false }
def FnChangedScriptRecordsEachNameAndWakesOnceSaid : Prop := fnChangedScriptRecordsEachNameAndWakesOnceRow.holds Trym.pinned (OpenSpec.ofChange fnChangedScriptRecordsEachNameAndWakesOnceSpec)

/-- ITS FALSE NEIGHBOUR: 'it returns false'. Refute it at one input. -/
def fnChangedScriptRecordsEachNameAndWakesOnceWrong : ChangeSpec := { name := "fnChangedScriptRecordsEachNameAndWakesOnce", fn := fun _ => fun
  | [d] => { results := [.lit (.bool false)], args := [d] }
  | _ => none }
def FnChangedScriptRecordsEachNameAndWakesOnceWrongFalsely : Prop := fnChangedScriptRecordsEachNameAndWakesOnceRow.holds Trym.pinned (OpenSpec.ofChange fnChangedScriptRecordsEachNameAndWakesOnceWrong)

/-- 'zzlaws_internal_maintenance_b1.FnPlaceFindsEachTaskAtItsOwnPlace': WHATEVER THE INPUT: true; the input reads as it did. -/
def fnPlaceFindsEachTaskAtItsOwnPlaceSpec : ChangeSpec := { name := "fnPlaceFindsEachTaskAtItsOwnPlace", fn := fun _ => fun
  | [d] => { results := [.lit (.bool true)], args := [d] }
  | _ => none }
def fnPlaceFindsEachTaskAtItsOwnPlaceRow : OpenClaim := { program := "qxb6616021amods", sum := "3aef66d8e82a8d504532c4039cea91c5e954eef1e7da7cfadce0979bb6fa3a35", func := "example.com/quorumward/quorumward/zzlaws_internal_maintenance_b1.FnPlaceFindsEachTaskAtItsOwnPlace", spec := "fnPlaceFindsEachTaskAtItsOwnPlace", make := .lifted ["publicsums"], apart := false }
def FnPlaceFindsEachTaskAtItsOwnPlaceSaid : Prop := fnPlaceFindsEachTaskAtItsOwnPlaceRow.holds Trym.pinned (OpenSpec.ofChange fnPlaceFindsEachTaskAtItsOwnPlaceSpec)

/-- ITS FALSE NEIGHBOUR: 'it returns false'. Refute it at one input. -/
def fnPlaceFindsEachTaskAtItsOwnPlaceWrong : ChangeSpec := { name := "fnPlaceFindsEachTaskAtItsOwnPlace", fn := fun _ => fun
  | [d] => { results := [.lit (.bool false)], args := [d] }
  | _ => none }
def FnPlaceFindsEachTaskAtItsOwnPlaceWrongFalsely : Prop := fnPlaceFindsEachTaskAtItsOwnPlaceRow.holds Trym.pinned (OpenSpec.ofChange fnPlaceFindsEachTaskAtItsOwnPlaceWrong)

/-- 'zzlaws_internal_maintenance_b1.FnPlaceRefusesItsTypeAtAnotherStart': WHATEVER THE INPUT: true; the input reads as it did. -/
def fnPlaceRefusesItsTypeAtAnotherStartSpec : ChangeSpec := { name := "fnPlaceRefusesItsTypeAtAnotherStart", fn := fun _ => fun
  | [d1, d2, d3] => { results := [.lit (.bool true)], args := [d1, d2, d3] }
  | _ => none }
def fnPlaceRefusesItsTypeAtAnotherStartRow : OpenClaim := { program := "qxb6616021amods", sum := "3aef66d8e82a8d504532c4039cea91c5e954eef1e7da7cfadce0979bb6fa3a35", func := "example.com/quorumward/quorumward/zzlaws_internal_maintenance_b1.FnPlaceRefusesItsTypeAtAnotherStart", spec := "fnPlaceRefusesItsTypeAtAnotherStart", make := .lifted ["publicsums"], apart := false }
def FnPlaceRefusesItsTypeAtAnotherStartSaid : Prop := fnPlaceRefusesItsTypeAtAnotherStartRow.holds Trym.pinned (OpenSpec.ofChange fnPlaceRefusesItsTypeAtAnotherStartSpec)

/-- ITS FALSE NEIGHBOUR: 'it returns false'. Refute it at one input. -/
def fnPlaceRefusesItsTypeAtAnotherStartWrong : ChangeSpec := { name := "fnPlaceRefusesItsTypeAtAnotherStart", fn := fun _ => fun
  | [d1, d2, d3] => { results := [.lit (.bool false)], args := [d1, d2, d3] }
  | _ => none }
def FnPlaceRefusesItsTypeAtAnotherStartWrongFalsely : Prop := fnPlaceRefusesItsTypeAtAnotherStartRow.holds Trym.pinned (OpenSpec.ofChange fnPlaceRefusesItsTypeAtAnotherStartWrong)

end Rows
end Go.Proofs.Qxb6616021aMods
