/-
  No cell of these rows narrows 'for every input' (looked for: loops, veiled, ifaces, maps, wideKeys, modest, calm, conditions, laid).
  DERIVED. THE GIVEN ROWS OF THIS SEAT. 2 by the template 'for every input the law returns true; each argument reads behind the call as it read before'; 0 by the template 'total and deterministic' (their statements: Qxb6604646aModsTotals.lean).
  GIVEN WITH THE SEED: the statements are not yours to turn. If you find one false, say at which input.
  Laid BY PROGRAM, IN A SANDBOX (cutbox-rows.mjs): the forced cells as the released guide's own fill.sh prints them over the translation bf395db8de3f2c9e… (all of the seat's roots in one cut). By AI agents, Wed Nov 11 2026. No macro, syntax, notation, axiom, sorry.
-/
import Derived.Test.Qxb6604646aModsChecked
import GoSem.Claim
import GoSem.ClaimJoined
import GoSem.ClaimMapViews
import Derived.JoinedTies
import Derived.KernelRfl
namespace Go.Proofs.Qxb6604646aMods
/- THE CELL 'sum', in the pinned program and in every row, IS THE sha256 OF THE DUMP (.gsa) THAT Qxb6604646aModsProg.lean LOADS. Nothing in Lean hashes anything: it is a label: what it is worth is what the hold of that sum in a sandbox is worth. -/
noncomputable def Trym.pinned : Pinned := { name := "qxb6604646amods", sum := "bf395db8de3f2c9ed30ef2b93bada15149eeaf6e8da78b9e0b636017e58c2018", checked := Trym.checked }
namespace Rows
def none {H : Type} : Left H := { results := [], args := [] }

/-- 'zzlaws_root_b1.FnNamesSplitOverConcatenation': WHATEVER THE INPUT: true; the input reads as it did. -/
def fnNamesSplitOverConcatenationSpec : ChangeSpec := { name := "fnNamesSplitOverConcatenation", fn := fun _ => fun
  | [d1, d2, d3] => { results := [.lit (.bool true)], args := [d1, d2, d3] }
  | _ => none }
def fnNamesSplitOverConcatenationRow : OpenClaim := { program := "qxb6604646amods", sum := "bf395db8de3f2c9ed30ef2b93bada15149eeaf6e8da78b9e0b636017e58c2018", func := "example.com/neocortex/neocortex/zzlaws_root_b1.FnNamesSplitOverConcatenation", spec := "fnNamesSplitOverConcatenation", make := .lifted ["publicsums"], apart := false }
def FnNamesSplitOverConcatenationSaid : Prop := fnNamesSplitOverConcatenationRow.holds Trym.pinned (OpenSpec.ofChange fnNamesSplitOverConcatenationSpec)

/-- ITS FALSE NEIGHBOUR: 'it returns false'. Refute it at one input. -/
def fnNamesSplitOverConcatenationWrong : ChangeSpec := { name := "fnNamesSplitOverConcatenation", fn := fun _ => fun
  | [d1, d2, d3] => { results := [.lit (.bool false)], args := [d1, d2, d3] }
  | _ => none }
def FnNamesSplitOverConcatenationWrongFalsely : Prop := fnNamesSplitOverConcatenationRow.holds Trym.pinned (OpenSpec.ofChange fnNamesSplitOverConcatenationWrong)

/-- 'zzlaws_root_b1.FnHoldersGrowsByEachAddedTerm': WHATEVER THE INPUT: true; the input reads as it did. -/
def fnHoldersGrowsByEachAddedTermSpec : ChangeSpec := { name := "fnHoldersGrowsByEachAddedTerm", fn := fun _ => fun
  | [d1, d2] => { results := [.lit (.bool true)], args := [d1, d2] }
  | _ => none }
def fnHoldersGrowsByEachAddedTermRow : OpenClaim := { program := "qxb6604646amods", sum := "bf395db8de3f2c9ed30ef2b93bada15149eeaf6e8da78b9e0b636017e58c2018", func := "example.com/neocortex/neocortex/zzlaws_root_b1.FnHoldersGrowsByEachAddedTerm", spec := "fnHoldersGrowsByEachAddedTerm", make := .lifted ["publicsums"], apart := false }
def FnHoldersGrowsByEachAddedTermSaid : Prop := fnHoldersGrowsByEachAddedTermRow.holds Trym.pinned (OpenSpec.ofChange fnHoldersGrowsByEachAddedTermSpec)

/-- ITS FALSE NEIGHBOUR: 'it returns false'. Refute it at one input. -/
def fnHoldersGrowsByEachAddedTermWrong : ChangeSpec := { name := "fnHoldersGrowsByEachAddedTerm", fn := fun _ => fun
  | [d1, d2] => { results := [.lit (.bool false)], args := [d1, d2] }
  | _ => none }
def FnHoldersGrowsByEachAddedTermWrongFalsely : Prop := fnHoldersGrowsByEachAddedTermRow.holds Trym.pinned (OpenSpec.ofChange fnHoldersGrowsByEachAddedTermWrong)

end Rows
end Go.Proofs.Qxb6604646aMods
