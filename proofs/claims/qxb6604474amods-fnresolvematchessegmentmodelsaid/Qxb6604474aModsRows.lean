/-
  No cell of these rows narrows 'for every input' (looked for: loops, veiled, ifaces, maps, wideKeys, modest, calm, conditions, laid).
  DERIVED. THE GIVEN ROWS OF THIS SEAT. 2 by the template 'for every input the law returns true; each argument reads behind the call as it read before'; 0 by the template 'total and deterministic' (their statements: Qxb6604474aModsTotals.lean).
  GIVEN WITH THE SEED: the statements are not yours to turn. If you find one false, say at which input.
  Laid BY PROGRAM, IN A SANDBOX (cutbox-rows.mjs): the forced cells as the released guide's own fill.sh prints them over the translation a59a3b70bd04b4af… (all of the seat's roots in one cut). By AI agents, Wed Nov 11 2026. No macro, syntax, notation, axiom, sorry.
-/
import Derived.Test.Qxb6604474aModsChecked
import GoSem.Claim
import GoSem.ClaimJoined
import GoSem.ClaimMapViews
import Derived.JoinedTies
import Derived.KernelRfl
namespace Go.Proofs.Qxb6604474aMods
/- THE CELL 'sum', in the pinned program and in every row, IS THE sha256 OF THE DUMP (.gsa) THAT Qxb6604474aModsProg.lean LOADS. Nothing in Lean hashes anything: it is a label: what it is worth is what the hold of that sum in a sandbox is worth. -/
noncomputable def Trym.pinned : Pinned := { name := "qxb6604474amods", sum := "a59a3b70bd04b4af69b7587be815ab03bafcb77989746220edae74055132df1e", checked := Trym.checked }
namespace Rows
def none {H : Type} : Left H := { results := [], args := [] }

/-- 'zzlaws_table_b1.FnResolveMatchesSegmentModel': WHATEVER THE INPUT: true; the input reads as it did. -/
def fnResolveMatchesSegmentModelSpec : ChangeSpec := { name := "fnResolveMatchesSegmentModel", fn := fun _ => fun
  | [d1, d2] => { results := [.lit (.bool true)], args := [d1, d2] }
  | _ => none }
def fnResolveMatchesSegmentModelRow : OpenClaim := { program := "qxb6604474amods", sum := "a59a3b70bd04b4af69b7587be815ab03bafcb77989746220edae74055132df1e", func := "example.com/tuoguan/tuoguan/zzlaws_table_b1.FnResolveMatchesSegmentModel", spec := "fnResolveMatchesSegmentModel", make := .lifted ["publicsums"], apart := false }
def FnResolveMatchesSegmentModelSaid : Prop := fnResolveMatchesSegmentModelRow.holds Trym.pinned (OpenSpec.ofChange fnResolveMatchesSegmentModelSpec)

/-- ITS FALSE NEIGHBOUR: 'it returns false'. Refute it at one input. -/
def fnResolveMatchesSegmentModelWrong : ChangeSpec := { name := "fnResolveMatchesSegmentModel", fn := fun _ => fun
  | [d1, d2] => { results := [.lit (.bool false)], args := [d1, d2] }
  | _ => none }
def FnResolveMatchesSegmentModelWrongFalsely : Prop := fnResolveMatchesSegmentModelRow.holds Trym.pinned (OpenSpec.ofChange fnResolveMatchesSegmentModelWrong)

/-- 'zzlaws_table_b1.FnResolveFindsAPartByItsOwnName': WHATEVER THE INPUT: true; the input reads as it did. -/
def fnResolveFindsAPartByItsOwnNameSpec : ChangeSpec := { name := "fnResolveFindsAPartByItsOwnName", fn := fun _ => fun
  | [d1, d2] => { results := [.lit (.bool true)], args := [d1, d2] }
  | _ => none }
def fnResolveFindsAPartByItsOwnNameRow : OpenClaim := { program := "qxb6604474amods", sum := "a59a3b70bd04b4af69b7587be815ab03bafcb77989746220edae74055132df1e", func := "example.com/tuoguan/tuoguan/zzlaws_table_b1.FnResolveFindsAPartByItsOwnName", spec := "fnResolveFindsAPartByItsOwnName", make := .lifted ["publicsums"], apart := false }
def FnResolveFindsAPartByItsOwnNameSaid : Prop := fnResolveFindsAPartByItsOwnNameRow.holds Trym.pinned (OpenSpec.ofChange fnResolveFindsAPartByItsOwnNameSpec)

/-- ITS FALSE NEIGHBOUR: 'it returns false'. Refute it at one input. -/
def fnResolveFindsAPartByItsOwnNameWrong : ChangeSpec := { name := "fnResolveFindsAPartByItsOwnName", fn := fun _ => fun
  | [d1, d2] => { results := [.lit (.bool false)], args := [d1, d2] }
  | _ => none }
def FnResolveFindsAPartByItsOwnNameWrongFalsely : Prop := fnResolveFindsAPartByItsOwnNameRow.holds Trym.pinned (OpenSpec.ofChange fnResolveFindsAPartByItsOwnNameWrong)

end Rows
end Go.Proofs.Qxb6604474aMods
