/-
  THE WALK of 'FnResolveMatchesSegmentModel' (3).
-/
import Derived.Test.Qxb6604474aModsWalkModel
import Derived.Test.Qxb6604474aModsWalkModelRel
import Derived.Test.Qxb6604474aModsWalkModelEmpty
namespace Go.Proofs.Qxb6604474aMods
open Go.RowKit Go.Lib

theorem guard5 (s t : ByteArray) (w : World) (hs : s.size ≤ maxLen) (ht : t.size ≤ maxLen) :
    Calls Trym.prog 5 #[.string s, .string t] w fun e w' => ∃ b : Bool, e = .returned (.bool b) ∧ w = w' ∧ (s.size ≤ 65536 → t.size ≤ 65536 → b = true) := by
  unfold maxLen at hs ht
  go_enter Trym.func5, Trym.ntmps5
  go_wp2
  all_goals go_ret
  all_goals exact ⟨_, rfl, rfl, by intro h1 h2; first | rfl | omega⟩

/-- 'zzResolveModel' answers as 'resolve' does. -/
theorem model_any (s t R : ByteArray) (w : World) (hs : s.size ≤ 65536) (ht : t.size ≤ 65536) (hR : R = str (res s.data.toList t.data.toList)) :
    Calls Trym.prog 7 #[.string s, .string t] w fun e w' => e = .returned (.string R) ∧ Below w.heap.size w w' := by
  subst hR
  rw [← model_res]
  by_cases hp : t.data.toList.head? = some 47
  · exact model_abs s t w hs ht hp
  · by_cases h0 : t.size = 0
    · exact model_empty s t w hs ht h0 hp
    · exact model_rel s t w hs ht (by omega) hp

theorem resolve_any (s t R : ByteArray) (w : World) (hs : s.size ≤ 65536) (ht : t.size ≤ 65536) (hR : R = str (res s.data.toList t.data.toList)) :
    Calls Trym.prog 6 #[.string s, .string t] w fun e w' => e = .returned (.string R) ∧ Below w.heap.size w w' := by
  subst hR
  exact zzresolve_walk s t w (by omega) (by omega)

set_option maxHeartbeats 1000000 in
theorem matches_walk (s t : ByteArray) (w : World) (hs : s.size ≤ 65536) (ht : t.size ≤ 65536) :
    Calls Trym.prog 3 #[.string s, .string t] w fun e w' => e = .returned (.bool true) ∧ Below w.heap.size w w' := by
  have hs' : decide ((65536 : Int) < (s.size : Int)) = false := decide_eq_false (by omega)
  have ht' : decide ((65536 : Int) < (t.size : Int)) = false := decide_eq_false (by omega)
  obtain ⟨R, hR⟩ : ∃ R, R = str (res s.data.toList t.data.toList) := ⟨_, rfl⟩
  have HR := hid hR
  clear hR
  go_enter Trym.func3, Trym.ntmps3
  go_wp2_with fail
  refine (guard5 s t w (by unfold maxLen; omega) (by unfold maxLen; omega)).mono ?_
  rintro e x ⟨b, rfl, rfl, hb⟩
  have hb1 := hb hs ht
  subst hb1
  clear hb
  go_wp2_with fail
  refine (resolve_any s t R _ hs ht HR.out).mono ?_
  rintro e w1 ⟨rfl, hb1⟩
  have B1 := hid hb1
  clear hb1
  go_wp2_with fail
  refine (model_any s t R _ hs ht HR.out).mono ?_
  rintro e w2 ⟨rfl, hb2⟩
  have B2 := hid (B1.out.trans (hb2.mono B1.out.size))
  clear hb2 B1
  go_wp2
  go_ret
  exact ⟨rfl, B2.out⟩
end Go.Proofs.Qxb6604474aMods
