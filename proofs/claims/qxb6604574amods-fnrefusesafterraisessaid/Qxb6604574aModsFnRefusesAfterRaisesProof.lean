/-
  THE PROOF OF 'Rows.FnRefusesAfterRaisesSaid', after the guide's frame for a law over a slice.
-/
import Derived.Test.Qxb6604574aModsRows
import Derived.Test.Qxb6604574aModsWalkAfter
import Derived.Test.Qxb6604574aModsOpen
import Derived.WalkKit
import Derived.ProofKit
import Derived.OpenShut
import Derived.ShutString
import Derived.ChangeOld
import Derived.Below
namespace Go.Proofs.Qxb6604574aMods.fnRefusesAfterRaises
open Go.ChangeShapes Go.WideShapes Go.ChangeAt Go.RowKit
open Go.ChangeMaps (open_string shut_string)
set_option linter.unusedVariables false

theorem own : ownKnob Trym.prog.godebug = none := by kernel_rfl
theorem laidOut : laidOutB Trym.prog = true := by kernel_rfl

/-! ### STEP 1: THE WALK: the Go text returns true and writes nothing that was there. -/
theorem walk (a0 : Option Addr) (len0 cap0 : Nat) (S : Nat → ByteArray) (E : Nat → Int) (a1 : ByteArray) (a2 : Int) (w : World) (w0 : Told w a0 len0 cap0 S E) (w1 : a1.size ≤ maxLen) (w2 : (Lit.int .u64 a2).wf = true) :
    Calls Trym.prog 5 #[.slice a0 len0 cap0, .string a1, .int .u64 a2] w fun e w' => e = .returned (.bool true) ∧ Below w.heap.size w w' := by
  obtain ⟨hlen, hnil, hfs, hS, hE⟩ := w0
  have hw1 := w1
  unfold maxLen at w1
  by_cases h0 : len0 ≤ 65536
  · by_cases h1 : a1.size ≤ 65536
    · exact after_walk a0 len0 cap0 a1 a2 S E w h0 h1 w2 hnil hfs hS hE
    · have d0 : decide ((65536 : Int) < (len0 : Int)) = false := decide_eq_false (by omega)
      have d1 : decide ((65536 : Int) < (a1.size : Int)) = true := decide_eq_true (by omega)
      go_enter Trym.func5, Trym.ntmps5
      go_wp2_with fail
      refine (guard14 a0 len0 cap0 a1 a2 S E w hlen hw1 hfs hS).mono ?_
      rintro r x ⟨⟨z, rfl⟩, rfl⟩
      cases z
      · go_wp2
        go_ret
        exact ⟨rfl, Below.refl _ _⟩
      · go_wp2
        go_ret
        exact ⟨rfl, Below.refl _ _⟩
  · have d0 : decide ((65536 : Int) < (len0 : Int)) = true := decide_eq_true (by omega)
    have hl2 : len0 ≤ 9223372036854775807 := by have := hlen; unfold maxLen at this; omega
    go_enter Trym.func5, Trym.ntmps5
    go_wp2_with fail
    refine (guard14 a0 len0 cap0 a1 a2 S E w hlen hw1 hfs hS).mono ?_
    rintro r x ⟨⟨z, rfl⟩, rfl⟩
    cases z
    · go_wp2
      go_ret
      exact ⟨rfl, Below.refl _ _⟩
    · go_wp2
      go_ret
      exact ⟨rfl, Below.refl _ _⟩

/-! ### THE ROW's STEP -/
set_option maxRecDepth 100000 in
theorem lifted (os : Os) (started : os.Started) (H : Type) (enc : TypeId × Value → H) :
    ReturnsInHanded {} Trym.checked os 5 .any (Rows.fnRefusesAfterRaisesSpec.pre6 enc Trym.prog Trym.f5 Rows.fnRefusesAfterRaisesRow.domain false) (Rows.fnRefusesAfterRaisesSpec.post enc Trym.prog Trym.f5 false true false false) := by
  refine returnsInHanded_of_change (C := Trym.checked) own started (by kernel_rfl) Trym.func5
    (ChangeSpec.witness6 (enc := enc) (C := Trym.checked) false ⟨#[], #[.slice none 0 0, .string ByteArray.empty, .int .u64 0], []⟩ 8 (by kernel_rfl) (by kernel_rfl) (by kernel_rfl) (by kernel_rfl)) ?_
  intro W base args ds gs before hval0 hW hcnd _
  have hval : ∀ (j : Nat) t v, Trym.f5.params[j]? = some t → args[j]? = some v → Value.okWide Trym.prog W .any base t v := hval0
  have hW' := hW
  obtain ⟨p, q, hA0, hV, rfl, hfz, hnd⟩ := hW
  have hA : DataW.TrodAll enc Trym.prog W 0 (fun _ => true) true Trym.f5.params.toList args.toList ds p := hA0
  rw [Trym.params5] at hA hval
  obtain ⟨v0, vs0, d0, ds0, p0, q0, hargs, rfl, rfl, h0, r0⟩ := trodAll_cons hA
  obtain ⟨v1, vs1, d1, ds1, p1, q1, rfl, rfl, rfl, h1, r1⟩ := trodAll_cons r0
  obtain ⟨v2, vs2, d2, ds2, p2, q2, rfl, rfl, rfl, h2, r2⟩ := trodAll_cons r1
  obtain ⟨rfl, rfl, rfl⟩ := trodAll_nil r2
  obtain rfl : args = #[v0, v1, v2] := by cases args; simp_all
  obtain ⟨rfl, rfl⟩ := trodVars_none hV
  obtain ⟨a0, len0, cap0, rfl⟩ := okWide_slice Trym.underlying22 (hval 0 22 v0 rfl rfl)
  have k0 := h0
  have lt0 : ∀ x ∈ p0, x.block < W.heap.size := by obtain ⟨m, hm⟩ := k0; exact DataW.trod_lt m _ _ _ hm
  obtain ⟨S, E, w0⟩ : ∃ S E, Told W a0 len0 cap0 S E := by
    obtain ⟨fuel, hf⟩ := h0
    exact open_fences (by simpa [Value.cells] using hf)
  obtain ⟨a1, rfl, rfl, rfl, w1⟩ := open_string Trym.underlying9 (hval 1 9 v1 rfl rfl) h1
  obtain ⟨a2, rfl, rfl, rfl, w2⟩ := open_int Trym.underlying23 (hval 2 23 v2 rfl rfl) h2
  clear hA0 hval0
  refine (walk a0 len0 cap0 S E a1 a2 W w0 w1 w2).mono fun e W' ⟨he, bel⟩ => ?_
  subst he
  exact ⟨_, rfl, _, _, _, [], _, [], hW', trodAll_mk1 (shut_bool Trym.underlying4 _), (trodAll_cons_mk (Below.trod laidOut (by kernel_rfl) (of_decide_eq_true (by kernel_rfl)) k0 bel lt0) (trodAll_cons_mk (shut_string Trym.underlying9 w1) (trodAll_cons_mk (shut_int Trym.underlying23 w2) trodAll_mk0))), rfl, bel.frame _, fun h => by cases h⟩

theorem over : Rows.fnRefusesAfterRaisesRow.holds Trym.pinned (OpenSpec.ofChange Rows.fnRefusesAfterRaisesSpec) :=
  OpenClaim.holds_of_wide 5 Trym.f5 rfl rfl rfl rfl rfl rfl rfl ⟨rfl, rfl, rfl, rfl, rfl⟩ rfl rfl rfl rfl rfl (by kernel_rfl) Trym.func5 (by kernel_rfl)
    (of_decide_eq_true (by kernel_rfl)) (by unfold Func.isWrapper; first | (rw [if_pos (by decide +kernel)]; kernel_rfl) | (rw [if_neg (by decide +kernel)]; exact ⟨rfl, rfl⟩))
    (fun os started H enc _ => lifted os started H enc)

/-- ████ THE STATEMENT ████ -/
theorem proved : Rows.FnRefusesAfterRaisesSaid := over
#print axioms proved
end Go.Proofs.Qxb6604574aMods.fnRefusesAfterRaises
