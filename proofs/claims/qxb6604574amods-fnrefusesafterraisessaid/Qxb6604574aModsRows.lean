/-
  No cell of these rows narrows 'for every input' (looked for: loops, veiled, ifaces, maps, wideKeys, modest, calm, conditions, laid).
  DERIVED. THE GIVEN ROWS OF THIS SEAT. 4 by the template 'for every input the law returns true; each argument reads behind the call as it read before'; 0 by the template 'total and deterministic' (their statements: Qxb6604574aModsTotals.lean).
  GIVEN WITH THE SEED: the statements are not yours to turn. If you find one false, say at which input.
  Laid BY PROGRAM, IN A SANDBOX (cutbox-rows.mjs): the forced cells as the released guide's own fill.sh prints them over the translation 8566114af59dd3f0… (all of the seat's roots in one cut). By AI agents, Wed Nov 11 2026. No macro, syntax, notation, axiom, sorry.
-/
import Derived.Test.Qxb6604574aModsChecked
import GoSem.Claim
import GoSem.ClaimJoined
import GoSem.ClaimMapViews
import Derived.JoinedTies
import Derived.KernelRfl
namespace Go.Proofs.Qxb6604574aMods
/- THE CELL 'sum', in the pinned program and in every row, IS THE sha256 OF THE DUMP (.gsa) THAT Qxb6604574aModsProg.lean LOADS. Nothing in Lean hashes anything: it is a label: what it is worth is what the hold of that sum in a sandbox is worth. -/
noncomputable def Trym.pinned : Pinned := { name := "qxb6604574amods", sum := "8566114af59dd3f0f5f501cc3015ed44b5991a6aa9b3d88e5ca510170071dfab", checked := Trym.checked }
namespace Rows
def none {H : Type} : Left H := { results := [], args := [] }

/-- 'zzlaws_internal_disk_b1.FnRaiseExact': WHATEVER THE INPUT: true; the input reads as it did. -/
def fnRaiseExactSpec : ChangeSpec := { name := "fnRaiseExact", fn := fun _ => fun
  | [d1, d2, d3] => { results := [.lit (.bool true)], args := [d1, d2, d3] }
  | _ => none }
def fnRaiseExactRow : OpenClaim := { program := "qxb6604574amods", sum := "8566114af59dd3f0f5f501cc3015ed44b5991a6aa9b3d88e5ca510170071dfab", func := "example.com/oleander/oleander/zzlaws_internal_disk_b1.FnRaiseExact", spec := "fnRaiseExact", make := .lifted ["publicsums"], apart := false }
def FnRaiseExactSaid : Prop := fnRaiseExactRow.holds Trym.pinned (OpenSpec.ofChange fnRaiseExactSpec)

/-- ITS FALSE NEIGHBOUR: 'it returns false'. Refute it at one input. -/
def fnRaiseExactWrong : ChangeSpec := { name := "fnRaiseExact", fn := fun _ => fun
  | [d1, d2, d3] => { results := [.lit (.bool false)], args := [d1, d2, d3] }
  | _ => none }
def FnRaiseExactWrongFalsely : Prop := fnRaiseExactRow.holds Trym.pinned (OpenSpec.ofChange fnRaiseExactWrong)

/-- 'zzlaws_internal_disk_b1.FnRaiseAgreesWithRefuses': WHATEVER THE INPUT: true; the input reads as it did. -/
def fnRaiseAgreesWithRefusesSpec : ChangeSpec := { name := "fnRaiseAgreesWithRefuses", fn := fun _ => fun
  | [d1, d2, d3] => { results := [.lit (.bool true)], args := [d1, d2, d3] }
  | _ => none }
def fnRaiseAgreesWithRefusesRow : OpenClaim := { program := "qxb6604574amods", sum := "8566114af59dd3f0f5f501cc3015ed44b5991a6aa9b3d88e5ca510170071dfab", func := "example.com/oleander/oleander/zzlaws_internal_disk_b1.FnRaiseAgreesWithRefuses", spec := "fnRaiseAgreesWithRefuses", make := .lifted ["publicsums"], apart := false }
def FnRaiseAgreesWithRefusesSaid : Prop := fnRaiseAgreesWithRefusesRow.holds Trym.pinned (OpenSpec.ofChange fnRaiseAgreesWithRefusesSpec)

/-- ITS FALSE NEIGHBOUR: 'it returns false'. Refute it at one input. -/
def fnRaiseAgreesWithRefusesWrong : ChangeSpec := { name := "fnRaiseAgreesWithRefuses", fn := fun _ => fun
  | [d1, d2, d3] => { results := [.lit (.bool false)], args := [d1, d2, d3] }
  | _ => none }
def FnRaiseAgreesWithRefusesWrongFalsely : Prop := fnRaiseAgreesWithRefusesRow.holds Trym.pinned (OpenSpec.ofChange fnRaiseAgreesWithRefusesWrong)

/-- 'zzlaws_internal_disk_b1.FnRefusesAfterRaises': WHATEVER THE INPUT: true; the input reads as it did. -/
def fnRefusesAfterRaisesSpec : ChangeSpec := { name := "fnRefusesAfterRaises", fn := fun _ => fun
  | [d1, d2, d3] => { results := [.lit (.bool true)], args := [d1, d2, d3] }
  | _ => none }
def fnRefusesAfterRaisesRow : OpenClaim := { program := "qxb6604574amods", sum := "8566114af59dd3f0f5f501cc3015ed44b5991a6aa9b3d88e5ca510170071dfab", func := "example.com/oleander/oleander/zzlaws_internal_disk_b1.FnRefusesAfterRaises", spec := "fnRefusesAfterRaises", make := .lifted ["publicsums"], apart := false }
def FnRefusesAfterRaisesSaid : Prop := fnRefusesAfterRaisesRow.holds Trym.pinned (OpenSpec.ofChange fnRefusesAfterRaisesSpec)

/-- ITS FALSE NEIGHBOUR: 'it returns false'. Refute it at one input. -/
def fnRefusesAfterRaisesWrong : ChangeSpec := { name := "fnRefusesAfterRaises", fn := fun _ => fun
  | [d1, d2, d3] => { results := [.lit (.bool false)], args := [d1, d2, d3] }
  | _ => none }
def FnRefusesAfterRaisesWrongFalsely : Prop := fnRefusesAfterRaisesRow.holds Trym.pinned (OpenSpec.ofChange fnRefusesAfterRaisesWrong)

/-- 'zzlaws_internal_disk_b1.FnLeaveAllInOrder': WHATEVER THE INPUT: true; the input reads as it did. -/
def fnLeaveAllInOrderSpec : ChangeSpec := { name := "fnLeaveAllInOrder", fn := fun _ => fun
  | [d] => { results := [.lit (.bool true)], args := [d] }
  | _ => none }
def fnLeaveAllInOrderRow : OpenClaim := { program := "qxb6604574amods", sum := "8566114af59dd3f0f5f501cc3015ed44b5991a6aa9b3d88e5ca510170071dfab", func := "example.com/oleander/oleander/zzlaws_internal_disk_b1.FnLeaveAllInOrder", spec := "fnLeaveAllInOrder", inPlace := ["(*internal/sync.Mutex).Lock", "internal/race.Disable", "sync/atomic.CompareAndSwapInt32", "internal/race.Enable", "internal/race.Acquire", "(*internal/sync.Mutex).lockSlow", "internal/sync.runtime_canSpin", "internal/sync.runtime_doSpin", "internal/sync.throw", "internal/sync.runtime_nanotime", "internal/sync.runtime_SemacquireMutex", "sync/atomic.AddInt32", "(*internal/sync.Mutex).Unlock", "internal/race.ReleaseMerge", "(*internal/sync.Mutex).unlockSlow", "internal/sync.fatal", "internal/sync.runtime_Semrelease"], make := .lifted ["publicsums"], apart := false }
def FnLeaveAllInOrderSaid : Prop := fnLeaveAllInOrderRow.holds Trym.pinned (OpenSpec.ofChange fnLeaveAllInOrderSpec)

/-- ITS FALSE NEIGHBOUR: 'it returns false'. Refute it at one input. -/
def fnLeaveAllInOrderWrong : ChangeSpec := { name := "fnLeaveAllInOrder", fn := fun _ => fun
  | [d] => { results := [.lit (.bool false)], args := [d] }
  | _ => none }
def FnLeaveAllInOrderWrongFalsely : Prop := fnLeaveAllInOrderRow.holds Trym.pinned (OpenSpec.ofChange fnLeaveAllInOrderWrong)

end Rows
end Go.Proofs.Qxb6604574aMods
