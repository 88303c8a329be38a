/-
  THE WALKS of '(*tally).add' (function 7) and 'ZZTallyAdd' (function 6).
-/
import Derived.Test.Qxb6606364aModsRows
import Derived.WalkKit
import Derived.ProofKit
import Derived.RegionTactic
import Derived.ChangeAlike
import Derived.Deep.QuietTactic
import Derived.BigQuiet
import Derived.RowKit3
import Derived.OpenShut
namespace Go.Proofs.Qxb6606364aMods
open Go.RowKit

set_option maxHeartbeats 1000000 in
theorem add_any (a1 a2 a3 a4 a5 b1 b2 b3 b4 b5 : Int) (w : World) :
    Calls Trym.prog 7 #[.pointer (some ⟨w.heap.size, 0, none⟩), .agg #[.int .i64 b1, .int .i64 b2, .int .i64 b3, .int .i64 b4, .int .i64 b5]] (w.alloc (.cells #[.int .i64 a1, .int .i64 a2, .int .i64 a3, .int .i64 a4, .int .i64 a5] 27)) fun e w' =>
      e = .returned (.tuple #[]) ∧ ∃ n, w' = World.drewN ((w.alloc (.cells #[.int .i64 (wrap64 (a1 + b1)), .int .i64 (wrap64 (a2 + b2)), .int .i64 (wrap64 (a3 + b3)), .int .i64 (wrap64 (a4 + b4)), .int .i64 (wrap64 (a5 + b5))] 27)).alloc (.cells #[.int .i64 b1, .int .i64 b2, .int .i64 b3, .int .i64 b4, .int .i64 b5] 27)) n := by
  go_enter Trym.func7, Trym.ntmps7
  go_wp2
  go_region
  go_wp2
  go_region
  go_wp2
  go_region
  go_wp2
  go_region
  go_wp2
  go_region
  go_end0
  exact ⟨rfl, 5, rfl⟩

set_option maxHeartbeats 1000000 in
theorem zzadd_any (a1 a2 a3 a4 a5 b1 b2 b3 b4 b5 : Int) (w : World) :
    Calls Trym.prog 6 #[.int .i64 a1, .int .i64 a2, .int .i64 a3, .int .i64 a4, .int .i64 a5, .int .i64 b1, .int .i64 b2, .int .i64 b3, .int .i64 b4, .int .i64 b5] w fun e w' =>
      e = .returned (.tuple #[.int .i64 (wrap64 (a1 + b1)), .int .i64 (wrap64 (a2 + b2)), .int .i64 (wrap64 (a3 + b3)), .int .i64 (wrap64 (a4 + b4)), .int .i64 (wrap64 (a5 + b5))]) ∧ Grown w w' := by
  go_enter Trym.func6, Trym.ntmps6
  go_wp2_with (go_at_call 7; refine (add_any a1 a2 a3 a4 a5 b1 b2 b3 b4 b5 _).mono ?_; rintro e w' ⟨rfl, n, rfl⟩)
  go_quiet (fail)
  go_wp2
  exact bodyPost_ret (v := .tuple #[.int .i64 (wrap64 (a1 + b1)), .int .i64 (wrap64 (a2 + b2)), .int .i64 (wrap64 (a3 + b3)), .int .i64 (wrap64 (a4 + b4)), .int .i64 (wrap64 (a5 + b5))]) (by simp [results, Trym.results6, go_sem]) rfl ⟨rfl, by repeat (first | exact Grown.refl _ | apply Grown.drew | apply Grown.alloc)⟩

theorem grown_trans {a b c : World} (h : Grown a b) (k : Grown b c) : Grown a c :=
  ⟨World.keptBut_trans h.1 (World.keptBut_mono (fun _ f => f) ⟨k.1.1, k.1.2.1, fun i hi => k.1.2.2 i hi⟩), fun x => (k.2.1 x).trans (h.2.1 x), Nat.le_trans h.2.2 k.2.2⟩

/-- 'ZZTallyAdd', its five sums under names. -/
theorem zzadd_eq (a1 a2 a3 a4 a5 b1 b2 b3 b4 b5 r1 r2 r3 r4 r5 : Int) (w : World) (h1 : wrap64 (a1 + b1) = r1) (h2 : wrap64 (a2 + b2) = r2) (h3 : wrap64 (a3 + b3) = r3) (h4 : wrap64 (a4 + b4) = r4) (h5 : wrap64 (a5 + b5) = r5) :
    Calls Trym.prog 6 #[.int .i64 a1, .int .i64 a2, .int .i64 a3, .int .i64 a4, .int .i64 a5, .int .i64 b1, .int .i64 b2, .int .i64 b3, .int .i64 b4, .int .i64 b5] w fun e w' =>
      e = .returned (.tuple #[.int .i64 r1, .int .i64 r2, .int .i64 r3, .int .i64 r4, .int .i64 r5]) ∧ Grown w w' := by
  subst h1 h2 h3 h4 h5
  exact zzadd_any a1 a2 a3 a4 a5 b1 b2 b3 b4 b5 w

theorem wrap_zero_right {a : Int} (h : (Lit.int .i64 a).wf = true) : wrap64 (a + 0) = a := by
  have := bounds_i64 h
  unfold wrap64; omega
theorem wrap_zero_left {a : Int} (h : (Lit.int .i64 a).wf = true) : wrap64 (0 + a) = a := by
  have := bounds_i64 h
  unfold wrap64; omega
theorem wrap_zero_zero : wrap64 (0 + 0) = 0 := by unfold wrap64; omega
theorem wrap_comm {a b r : Int} (h : wrap64 (a + b) = r) : wrap64 (b + a) = r := by rw [Int.add_comm]; exact h
end Go.Proofs.Qxb6606364aMods
