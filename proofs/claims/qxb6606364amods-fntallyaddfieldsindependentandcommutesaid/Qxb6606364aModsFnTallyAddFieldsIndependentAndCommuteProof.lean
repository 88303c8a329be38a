/-
  THE PROOF OF 'Rows.FnTallyAddFieldsIndependentAndCommuteSaid': the given shell of this law with its walk filled in.
-/
import Derived.Test.Qxb6606364aModsRows
import Derived.Test.Qxb6606364aModsWalkAdd
import Derived.WalkKit
import Derived.ProofKit
import Derived.OpenShut
import Derived.ShutString
namespace Go.Proofs.Qxb6606364aMods.fnTallyAddFieldsIndependentAndCommute
open Go.ChangeShapes Go.WideShapes Go.ChangeAt Go.RowKit
open Go.ChangeMaps (open_string shut_string)
set_option linter.unusedVariables false      -- a walk need not use every 'w<i>' (that an integer argument fits its kind)

theorem own : ownKnob Trym.prog.godebug = none := by kernel_rfl

/-! ### STEP 1: THE WALK: the Go text returns true. 'Grown w w'': the world has at most new blocks (Derived/RowKit3.lean). Part the cases AHEAD of 'go_enter' where a test parts the walk; take each callee by a contract of your own. -/
set_option maxHeartbeats 1000000 in
set_option maxRecDepth 100000 in
theorem walk (a0 : Int) (a1 : Int) (a2 : Int) (a3 : Int) (a4 : Int) (a5 : Int) (a6 : Int) (a7 : Int) (a8 : Int) (a9 : Int) (w0 : (Lit.int .i64 a0).wf = true) (w1 : (Lit.int .i64 a1).wf = true) (w2 : (Lit.int .i64 a2).wf = true) (w3 : (Lit.int .i64 a3).wf = true) (w4 : (Lit.int .i64 a4).wf = true) (w5 : (Lit.int .i64 a5).wf = true) (w6 : (Lit.int .i64 a6).wf = true) (w7 : (Lit.int .i64 a7).wf = true) (w8 : (Lit.int .i64 a8).wf = true) (w9 : (Lit.int .i64 a9).wf = true) (w : World) :
    Calls Trym.prog 3 #[.int .i64 a0, .int .i64 a1, .int .i64 a2, .int .i64 a3, .int .i64 a4, .int .i64 a5, .int .i64 a6, .int .i64 a7, .int .i64 a8, .int .i64 a9] w fun e w' => e = .returned (.bool true) ∧ Grown w w' := by
  obtain ⟨r0, h0⟩ : ∃ r, wrap64 (a0 + a5) = r := ⟨_, rfl⟩
  have H0 : Hid (wrap64 (a0 + a5) = r0) := h0
  clear h0
  obtain ⟨r1, h1⟩ : ∃ r, wrap64 (a1 + a6) = r := ⟨_, rfl⟩
  have H1 : Hid (wrap64 (a1 + a6) = r1) := h1
  clear h1
  obtain ⟨r2, h2⟩ : ∃ r, wrap64 (a2 + a7) = r := ⟨_, rfl⟩
  have H2 : Hid (wrap64 (a2 + a7) = r2) := h2
  clear h2
  obtain ⟨r3, h3⟩ : ∃ r, wrap64 (a3 + a8) = r := ⟨_, rfl⟩
  have H3 : Hid (wrap64 (a3 + a8) = r3) := h3
  clear h3
  obtain ⟨r4, h4⟩ : ∃ r, wrap64 (a4 + a9) = r := ⟨_, rfl⟩
  have H4 : Hid (wrap64 (a4 + a9) = r4) := h4
  clear h4
  go_enter Trym.func3, Trym.ntmps3
  go_wp2_with fail
  refine (zzadd_eq a0 a1 a2 a3 a4 a5 a6 a7 a8 a9 r0 r1 r2 r3 r4 _ H0.out H1.out H2.out H3.out H4.out).mono ?_
  rintro e x1 ⟨rfl, g1⟩
  go_wp2_with fail
  refine (zzadd_eq a5 a6 a7 a8 a9 a0 a1 a2 a3 a4 r0 r1 r2 r3 r4 _ (wrap_comm H0.out) (wrap_comm H1.out) (wrap_comm H2.out) (wrap_comm H3.out) (wrap_comm H4.out)).mono ?_
  rintro e x2 ⟨rfl, g2⟩
  go_wp2_with fail
  refine (zzadd_eq a0 0 0 0 0 a5 0 0 0 0 r0 0 0 0 0 _ H0.out wrap_zero_zero wrap_zero_zero wrap_zero_zero wrap_zero_zero).mono ?_
  rintro e x3 ⟨rfl, g3⟩
  go_wp2_with fail
  refine (zzadd_eq 0 a1 0 0 0 0 a6 0 0 0 0 r1 0 0 0 _ wrap_zero_zero H1.out wrap_zero_zero wrap_zero_zero wrap_zero_zero).mono ?_
  rintro e x4 ⟨rfl, g4⟩
  go_wp2_with fail
  refine (zzadd_eq 0 0 a2 0 0 0 0 a7 0 0 0 0 r2 0 0 _ wrap_zero_zero wrap_zero_zero H2.out wrap_zero_zero wrap_zero_zero).mono ?_
  rintro e x5 ⟨rfl, g5⟩
  go_wp2_with fail
  refine (zzadd_eq 0 0 0 a3 0 0 0 0 a8 0 0 0 0 r3 0 _ wrap_zero_zero wrap_zero_zero wrap_zero_zero H3.out wrap_zero_zero).mono ?_
  rintro e x6 ⟨rfl, g6⟩
  go_wp2_with fail
  refine (zzadd_eq 0 0 0 0 a4 0 0 0 0 a9 0 0 0 0 r4 _ wrap_zero_zero wrap_zero_zero wrap_zero_zero wrap_zero_zero H4.out).mono ?_
  rintro e x7 ⟨rfl, g7⟩
  go_wp2
  go_ret
  exact ⟨rfl, grown_trans g1 (grown_trans g2 (grown_trans g3 (grown_trans g4 (grown_trans g5 (grown_trans g6 g7)))))⟩

/-! ### THE ROW's STEP: WRITTEN OUT: LEAVE IT -/
set_option maxRecDepth 100000 in
theorem lifted (os : Os) (started : os.Started) (H : Type) (enc : TypeId × Value → H) :
    ReturnsInHanded {} Trym.checked os 3 .any (Rows.fnTallyAddFieldsIndependentAndCommuteSpec.pre6 enc Trym.prog Trym.f3 Rows.fnTallyAddFieldsIndependentAndCommuteRow.domain false) (Rows.fnTallyAddFieldsIndependentAndCommuteSpec.post enc Trym.prog Trym.f3 false true false false) := by
  refine returnsInHanded_of_change (C := Trym.checked) own started (by kernel_rfl) Trym.func3
    (ChangeSpec.witness6 (enc := enc) (C := Trym.checked) false ⟨#[], #[.int .i64 0, .int .i64 0, .int .i64 0, .int .i64 0, .int .i64 0, .int .i64 0, .int .i64 0, .int .i64 0, .int .i64 0, .int .i64 0], []⟩ 8 (by kernel_rfl) (by kernel_rfl) (by kernel_rfl) (by kernel_rfl)) ?_
  intro W base args ds gs before hval0 hW hcnd _
  have hval : ∀ (j : Nat) t v, Trym.f3.params[j]? = some t → args[j]? = some v → Value.okWide Trym.prog W .any base t v := hval0
  have hW' := hW
  obtain ⟨p, q, hA0, hV, rfl, hfz, hnd⟩ := hW
  have hA : DataW.TrodAll enc Trym.prog W 0 (fun _ => true) true Trym.f3.params.toList args.toList ds p := hA0
  rw [Trym.params3] at hA hval
  obtain ⟨v0, vs0, d0, ds0, p0, q0, hargs, rfl, rfl, h0, r0⟩ := trodAll_cons hA
  obtain ⟨v1, vs1, d1, ds1, p1, q1, rfl, rfl, rfl, h1, r1⟩ := trodAll_cons r0
  obtain ⟨v2, vs2, d2, ds2, p2, q2, rfl, rfl, rfl, h2, r2⟩ := trodAll_cons r1
  obtain ⟨v3, vs3, d3, ds3, p3, q3, rfl, rfl, rfl, h3, r3⟩ := trodAll_cons r2
  obtain ⟨v4, vs4, d4, ds4, p4, q4, rfl, rfl, rfl, h4, r4⟩ := trodAll_cons r3
  obtain ⟨v5, vs5, d5, ds5, p5, q5, rfl, rfl, rfl, h5, r5⟩ := trodAll_cons r4
  obtain ⟨v6, vs6, d6, ds6, p6, q6, rfl, rfl, rfl, h6, r6⟩ := trodAll_cons r5
  obtain ⟨v7, vs7, d7, ds7, p7, q7, rfl, rfl, rfl, h7, r7⟩ := trodAll_cons r6
  obtain ⟨v8, vs8, d8, ds8, p8, q8, rfl, rfl, rfl, h8, r8⟩ := trodAll_cons r7
  obtain ⟨v9, vs9, d9, ds9, p9, q9, rfl, rfl, rfl, h9, r9⟩ := trodAll_cons r8
  obtain ⟨rfl, rfl, rfl⟩ := trodAll_nil r9
  obtain rfl : args = #[v0, v1, v2, v3, v4, v5, v6, v7, v8, v9] := by cases args; simp_all
  obtain ⟨rfl, rfl⟩ := trodVars_none hV
  obtain ⟨a0, rfl, rfl, rfl, w0⟩ := open_int Trym.underlying3 (hval 0 3 v0 rfl rfl) h0
  obtain ⟨a1, rfl, rfl, rfl, w1⟩ := open_int Trym.underlying3 (hval 1 3 v1 rfl rfl) h1
  obtain ⟨a2, rfl, rfl, rfl, w2⟩ := open_int Trym.underlying3 (hval 2 3 v2 rfl rfl) h2
  obtain ⟨a3, rfl, rfl, rfl, w3⟩ := open_int Trym.underlying3 (hval 3 3 v3 rfl rfl) h3
  obtain ⟨a4, rfl, rfl, rfl, w4⟩ := open_int Trym.underlying3 (hval 4 3 v4 rfl rfl) h4
  obtain ⟨a5, rfl, rfl, rfl, w5⟩ := open_int Trym.underlying3 (hval 5 3 v5 rfl rfl) h5
  obtain ⟨a6, rfl, rfl, rfl, w6⟩ := open_int Trym.underlying3 (hval 6 3 v6 rfl rfl) h6
  obtain ⟨a7, rfl, rfl, rfl, w7⟩ := open_int Trym.underlying3 (hval 7 3 v7 rfl rfl) h7
  obtain ⟨a8, rfl, rfl, rfl, w8⟩ := open_int Trym.underlying3 (hval 8 3 v8 rfl rfl) h8
  obtain ⟨a9, rfl, rfl, rfl, w9⟩ := open_int Trym.underlying3 (hval 9 3 v9 rfl rfl) h9
  clear hA0 hval0
  simp only [List.append_nil] at hW'
  refine (walk a0 a1 a2 a3 a4 a5 a6 a7 a8 a9 w0 w1 w2 w3 w4 w5 w6 w7 w8 w9 W).mono fun e W' ⟨he, hg⟩ => ?_
  subst he
  exact ⟨_, rfl, post_of_same (pa := []) (pv := []) hW' (fun _ _ _ => (trodAll_cons_mk (shut_bool Trym.underlying4 _) trodAll_mk0)) (fun sp _ => (trodAll_cons_mk (shut_int Trym.underlying3 w0) (trodAll_cons_mk (shut_int Trym.underlying3 w1) (trodAll_cons_mk (shut_int Trym.underlying3 w2) (trodAll_cons_mk (shut_int Trym.underlying3 w3) (trodAll_cons_mk (shut_int Trym.underlying3 w4) (trodAll_cons_mk (shut_int Trym.underlying3 w5) (trodAll_cons_mk (shut_int Trym.underlying3 w6) (trodAll_cons_mk (shut_int Trym.underlying3 w7) (trodAll_cons_mk (shut_int Trym.underlying3 w8) (trodAll_cons_mk (shut_int Trym.underlying3 w9) trodAll_mk0))))))))))) (fun _ _ => rfl) rfl
    (hg.frame _) hg.2.1 (ok_one (by kernel_rfl) rfl (okWide_bool_mk Trym.underlying4 _))⟩

theorem over : Rows.fnTallyAddFieldsIndependentAndCommuteRow.holds Trym.pinned (OpenSpec.ofChange Rows.fnTallyAddFieldsIndependentAndCommuteSpec) :=
  OpenClaim.holds_of_wide 3 Trym.f3 rfl rfl rfl rfl rfl rfl rfl ⟨rfl, rfl, rfl, rfl, rfl⟩ rfl rfl rfl rfl rfl (by kernel_rfl) Trym.func3 (by kernel_rfl)
    (of_decide_eq_true (by kernel_rfl)) (by unfold Func.isWrapper; first | (rw [if_pos (by decide +kernel)]; kernel_rfl) | (rw [if_neg (by decide +kernel)]; exact ⟨rfl, rfl⟩))
    (fun os started H enc _ => lifted os started H enc)

/-- ████ THE STATEMENT ████ -/
theorem proved : Rows.FnTallyAddFieldsIndependentAndCommuteSaid :=
  over
#print axioms proved
end Go.Proofs.Qxb6606364aMods.fnTallyAddFieldsIndependentAndCommute
