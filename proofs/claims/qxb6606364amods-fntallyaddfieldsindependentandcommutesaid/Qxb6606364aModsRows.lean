/-
  No cell of these rows narrows 'for every input' (looked for: loops, veiled, ifaces, maps, wideKeys, modest, calm, conditions, laid).
  DERIVED. THE GIVEN ROWS OF THIS SEAT. 3 by the template 'for every input the law returns true; each argument reads behind the call as it read before'; 0 by the template 'total and deterministic' (their statements: Qxb6606364aModsTotals.lean).
  GIVEN WITH THE SEED: the statements are not yours to turn. If you find one false, say at which input.
  Laid BY PROGRAM, IN A SANDBOX (cutbox-rows.mjs): the forced cells as the released guide's own fill.sh prints them over the translation e551ff81c693b766… (all of the seat's roots in one cut). By AI agents, Wed Nov 11 2026. No macro, syntax, notation, axiom, sorry.
-/
import Derived.Test.Qxb6606364aModsChecked
import GoSem.Claim
import GoSem.ClaimJoined
import GoSem.ClaimMapViews
import Derived.JoinedTies
import Derived.KernelRfl
namespace Go.Proofs.Qxb6606364aMods
/- THE CELL 'sum', in the pinned program and in every row, IS THE sha256 OF THE DUMP (.gsa) THAT Qxb6606364aModsProg.lean LOADS. Nothing in Lean hashes anything: it is a label: what it is worth is what the hold of that sum in a sandbox is worth. -/
noncomputable def Trym.pinned : Pinned := { name := "qxb6606364amods", sum := "e551ff81c693b76624c6ab584198359f551d061d5ab567617bda1a4544ebf76b", checked := Trym.checked }
namespace Rows
def none {H : Type} : Left H := { results := [], args := [] }

/-- 'zzlaws_internal_sharder_b1.FnTallyAddFieldsIndependentAndCommute': WHATEVER THE INPUT: true; the input reads as it did. -/
def fnTallyAddFieldsIndependentAndCommuteSpec : ChangeSpec := { name := "fnTallyAddFieldsIndependentAndCommute", fn := fun _ => fun
  | [d1, d2, d3, d4, d5, d6, d7, d8, d9, d10] => { results := [.lit (.bool true)], args := [d1, d2, d3, d4, d5, d6, d7, d8, d9, d10] }
  | _ => none }
def fnTallyAddFieldsIndependentAndCommuteRow : OpenClaim := { program := "qxb6606364amods", sum := "e551ff81c693b76624c6ab584198359f551d061d5ab567617bda1a4544ebf76b", func := "example.com/coral-ring/coral-ring/zzlaws_internal_sharder_b1.FnTallyAddFieldsIndependentAndCommute", spec := "fnTallyAddFieldsIndependentAndCommute", make := .lifted ["publicsums"], apart := false }
def FnTallyAddFieldsIndependentAndCommuteSaid : Prop := fnTallyAddFieldsIndependentAndCommuteRow.holds Trym.pinned (OpenSpec.ofChange fnTallyAddFieldsIndependentAndCommuteSpec)

/-- ITS FALSE NEIGHBOUR: 'it returns false'. Refute it at one input. -/
def fnTallyAddFieldsIndependentAndCommuteWrong : ChangeSpec := { name := "fnTallyAddFieldsIndependentAndCommute", fn := fun _ => fun
  | [d1, d2, d3, d4, d5, d6, d7, d8, d9, d10] => { results := [.lit (.bool false)], args := [d1, d2, d3, d4, d5, d6, d7, d8, d9, d10] }
  | _ => none }
def FnTallyAddFieldsIndependentAndCommuteWrongFalsely : Prop := fnTallyAddFieldsIndependentAndCommuteRow.holds Trym.pinned (OpenSpec.ofChange fnTallyAddFieldsIndependentAndCommuteWrong)

/-- 'zzlaws_internal_sharder_b1.FnTallyAddZeroIsIdentity': WHATEVER THE INPUT: true; the input reads as it did. -/
def fnTallyAddZeroIsIdentitySpec : ChangeSpec := { name := "fnTallyAddZeroIsIdentity", fn := fun _ => fun
  | [d1, d2, d3, d4, d5] => { results := [.lit (.bool true)], args := [d1, d2, d3, d4, d5] }
  | _ => none }
def fnTallyAddZeroIsIdentityRow : OpenClaim := { program := "qxb6606364amods", sum := "e551ff81c693b76624c6ab584198359f551d061d5ab567617bda1a4544ebf76b", func := "example.com/coral-ring/coral-ring/zzlaws_internal_sharder_b1.FnTallyAddZeroIsIdentity", spec := "fnTallyAddZeroIsIdentity", make := .lifted ["publicsums"], apart := false }
def FnTallyAddZeroIsIdentitySaid : Prop := fnTallyAddZeroIsIdentityRow.holds Trym.pinned (OpenSpec.ofChange fnTallyAddZeroIsIdentitySpec)

/-- ITS FALSE NEIGHBOUR: 'it returns false'. Refute it at one input. -/
def fnTallyAddZeroIsIdentityWrong : ChangeSpec := { name := "fnTallyAddZeroIsIdentity", fn := fun _ => fun
  | [d1, d2, d3, d4, d5] => { results := [.lit (.bool false)], args := [d1, d2, d3, d4, d5] }
  | _ => none }
def FnTallyAddZeroIsIdentityWrongFalsely : Prop := fnTallyAddZeroIsIdentityRow.holds Trym.pinned (OpenSpec.ofChange fnTallyAddZeroIsIdentityWrong)

/-- 'zzlaws_internal_sharder_b1.FnTallyAddUndoneByNegation': WHATEVER THE INPUT: true; the input reads as it did. -/
def fnTallyAddUndoneByNegationSpec : ChangeSpec := { name := "fnTallyAddUndoneByNegation", fn := fun _ => fun
  | [d1, d2, d3, d4, d5, d6, d7, d8, d9, d10] => { results := [.lit (.bool true)], args := [d1, d2, d3, d4, d5, d6, d7, d8, d9, d10] }
  | _ => none }
def fnTallyAddUndoneByNegationRow : OpenClaim := { program := "qxb6606364amods", sum := "e551ff81c693b76624c6ab584198359f551d061d5ab567617bda1a4544ebf76b", func := "example.com/coral-ring/coral-ring/zzlaws_internal_sharder_b1.FnTallyAddUndoneByNegation", spec := "fnTallyAddUndoneByNegation", make := .lifted ["publicsums"], apart := false }
def FnTallyAddUndoneByNegationSaid : Prop := fnTallyAddUndoneByNegationRow.holds Trym.pinned (OpenSpec.ofChange fnTallyAddUndoneByNegationSpec)

/-- ITS FALSE NEIGHBOUR: 'it returns false'. Refute it at one input. -/
def fnTallyAddUndoneByNegationWrong : ChangeSpec := { name := "fnTallyAddUndoneByNegation", fn := fun _ => fun
  | [d1, d2, d3, d4, d5, d6, d7, d8, d9, d10] => { results := [.lit (.bool false)], args := [d1, d2, d3, d4, d5, d6, d7, d8, d9, d10] }
  | _ => none }
def FnTallyAddUndoneByNegationWrongFalsely : Prop := fnTallyAddUndoneByNegationRow.holds Trym.pinned (OpenSpec.ofChange fnTallyAddUndoneByNegationWrong)

end Rows
end Go.Proofs.Qxb6606364aMods
