/-
  THE WALK of 'FnResolveFindsAPartByItsOwnName' (4), and of its callees 8 (the length guard) and 9 ('zzHasSuffix').
-/
import Derived.Test.Qxb6604474aModsWalkResolve
namespace Go.Proofs.Qxb6604474aMods
open Go.RowKit Go.Lib

theorem ret_bool {a b : Bool} (h : a = b) : Ending.returned (.bool a) = .returned (.bool b) := by rw [h]

theorem guard8 (s t : ByteArray) (w : World) (hs : s.size ≤ maxLen) (ht : t.size ≤ maxLen) :
    Calls Trym.prog 8 #[.string s, .string t] w fun e w' => ∃ b : Bool, e = .returned (.bool b) ∧ w = w' ∧ (s.size ≤ 65536 → t.size ≤ 65536 → b = true) := by
  unfold maxLen at hs ht
  go_enter Trym.func8, Trym.ntmps8
  go_wp2
  all_goals go_ret
  all_goals exact ⟨_, rfl, rfl, by intro h1 h2; first | rfl | omega⟩

theorem suffix_true (u v : ByteArray) (A : List UInt8) (w : World) (hu : u.size ≤ 4194304) (h : u.data.toList = A ++ v.data.toList) :
    Calls Trym.prog 9 #[.string u, .string v] w fun e w' => e = .returned (.bool true) ∧ w = w' := by
  have hl : v.size ≤ u.size := by rw [Lib.size_eq, Lib.size_eq, h]; simp
  have he : u.extract (u.size - v.size) u.size = v := by
    rw [Pa.extract_from, h, List.drop_append_of_le_length (by rw [Lib.size_eq, Lib.size_eq, h]; simp)]
    rw [List.drop_of_length_le (by rw [Lib.size_eq, Lib.size_eq, h]; simp)]
    simp
  have hgt : decide ((u.size : Int) < (v.size : Int)) = false := decide_eq_false (by omega)
  have h0 : (0 : Int) ≤ (u.size : Int) - (v.size : Int) := by omega
  have h1 : (u.size : Int) - (v.size : Int) ≤ (u.size : Int) := by omega
  have h2 : ((u.size : Int) - (v.size : Int)).toNat = u.size - v.size := by omega
  clear h
  go_enter Trym.func9, Trym.ntmps9
  go_wp2
  go_ret
  exact ⟨rfl, rfl⟩

/-- 'ZZresolve', its answer under a name. -/
theorem zzresolve_eq (s t R : ByteArray) (w : World) (hs : s.size ≤ 1048576) (ht : t.size ≤ 1048576) (hR : R = str (res s.data.toList t.data.toList)) :
    Calls Trym.prog 6 #[.string s, .string t] w fun e w' => e = .returned (.string R) ∧ Below w.heap.size w w' := by
  subst hR
  exact zzresolve_walk s t w hs ht

theorem far_length (l : List UInt8) : (inter (stk (Pa.els l)).reverse).length ≤ l.length := by
  have h := Pa.clean_length_le (l := 47 :: l) (by simp)
  rw [Pa.clean_eq_cleanEls, Pa.cleanEls_abs _ (by simp) (by simp), Pa.els_slash, List.foldl_cons, Pa.step_nil] at h
  simp only [List.length_cons] at h
  unfold inter stk
  omega

set_option maxHeartbeats 1000000 in
theorem own_name (s o : ByteArray) (w : World) (hs : s.size ≤ 65536) (ho : o.size ≤ 65536) :
    Calls Trym.prog 4 #[.string s, .string o] w fun e w' => e = .returned (.bool true) ∧ Below w.heap.size w w' := by
  have hs' : decide ((65536 : Int) < (s.size : Int)) = false := decide_eq_false (by omega)
  have ho' : decide ((65536 : Int) < (o.size : Int)) = false := decide_eq_false (by omega)
  go_enter Trym.func4, Trym.ntmps4
  go_wp2_with fail
  refine (guard8 s o w (by unfold maxLen; omega) (by unfold maxLen; omega)).mono ?_
  rintro e x ⟨b, rfl, rfl, hb⟩
  have hb1 := hb hs ho
  subst hb1
  clear hb
  go_wp2_with fail
  go_loop [5, 6] (fun st i => ∃ k q : Nat, k ≤ s.size ∧ q ≤ k ∧ i = .int .i64 k ∧ st = .int .i64 q ∧ Hid (Pa.lastIdx s.data.toList 47 k + 1 = (q : Int))) (fun _ i => s.size - (RowKit.intOf i).toNat)
  case atStart => exact ⟨0, 0, Nat.zero_le _, Nat.le_refl _, rfl, rfl, rfl⟩
  case round =>
    obtain ⟨k, q, hk, hq, rfl, rfl, HQ⟩ := hrel
    by_cases hlt : k < s.size
    · by_cases h47 : s[k] = 47
      · have hb47 : ((s[k].toNat : Int) == 47) = true := by rw [Pa.beq47]; simp [h47]
        have HN : Hid (Pa.lastIdx s.data.toList 47 (k + 1) + 1 = ((k + 1 : Nat) : Int)) := by
          show _ = _
          rw [Pa.lastIdx, if_pos (by rw [Pa.at_eq s k hlt, h47])]
          omega
        clear h47
        go_wp2
        go_round
        case rel => exact ⟨k + 1, k + 1, by omega, by omega, by go_num, by go_num, HN⟩
        case measure => simp [RowKit.intOf]; omega
      · have hb47 : ((s[k].toNat : Int) == 47) = false := by rw [Pa.beq47]; simp [h47]
        have HN : Hid (Pa.lastIdx s.data.toList 47 (k + 1) + 1 = (q : Int)) := by
          show _ = _
          rw [Pa.lastIdx, if_neg (by rw [Pa.at_eq s k hlt]; simpa using h47)]
          exact HQ.out
        clear h47
        go_wp2
        go_round
        case rel => exact ⟨k + 1, q, by omega, by omega, by go_num, by go_num, HN⟩
        case measure => simp [RowKit.intOf]; omega
    · have hkn : k = s.size := by omega
      subst hkn
      obtain ⟨nm, hnm⟩ : ∃ nm, s.extract q s.size = nm := ⟨_, rfl⟩
      have HNM : Hid (nm.data.toList = (Pa.split s.data.toList).2) := by
        show _ = _
        rw [← hnm, Pa.extract_from]
        show s.data.toList.drop q = s.data.toList.drop (Pa.lastIndexByte s.data.toList 47 + 1).toNat
        have : Pa.lastIndexByte s.data.toList 47 + 1 = (q : Int) := by
          unfold Pa.lastIndexByte
          rw [← Lib.size_eq]
          exact HQ.out
        rw [this, Int.toNat_natCast]
      clear HQ
      by_cases h0 : nm.data.toList = []
      · have e0 : nm.toList.isEmpty = true := by rw [Lib.toList_data, h0]; rfl
        clear h0 HNM
        go_wp2
        go_ret
        exact ⟨rfl, Below.refl _ _⟩
      have e0 : nm.toList.isEmpty = false := by rw [Lib.toList_data]; simpa using h0
      by_cases h1 : nm.data.toList = [46]
      · have e1 : (nm.toList == [46]) = true := by rw [Lib.toList_data, h1]; rfl
        clear h0 h1 HNM
        go_wp2
        go_ret
        exact ⟨rfl, Below.refl _ _⟩
      have e1 : (nm.toList == [46]) = false := by rw [Lib.toList_data]; simpa using h1
      by_cases h2 : nm.data.toList = [46, 46]
      · have e2 : (nm.toList == [46, 46]) = true := by rw [Lib.toList_data, h2]; rfl
        clear h0 h1 h2 HNM
        go_wp2
        go_ret
        exact ⟨rfl, Below.refl _ _⟩
      have e2 : (nm.toList == [46, 46]) = false := by rw [Lib.toList_data]; simpa using h2
      obtain ⟨R, hR⟩ : ∃ R, R = str (inter (stk (Pa.els s.data.toList)).reverse) := ⟨_, rfl⟩
      have HR : Hid (R = str (inter (stk (Pa.els s.data.toList)).reverse)) := hR
      have hns : nm.size ≤ 65536 := by rw [← hnm, ByteArray.size_extract]; omega
      have hRs : R.size ≤ 65536 := by
        rw [hR, Lib.size_eq, str_data]
        have := far_length s.data.toList
        rw [← Lib.size_eq] at this
        omega
      have HE : Hid (R.data.toList = nm.data.toList ∨ ∃ A, R.data.toList = A ++ 47 :: nm.data.toList) := by
        rw [HNM.out] at h0 h1 h2
        have := near_ends s.data.toList h0 h1 h2
        rw [← HNM.out] at this
        rw [hR]
        exact this
      clear hR h0 h1 h2
      go_wp2_with fail
      refine (zzresolve_eq s nm R _ (by omega) (by omega) (by rw [HNM.out, (near_far s.data.toList o.data.toList).1]; exact HR.out)).mono ?_
      rintro e w1 ⟨rfl, hb1⟩
      have B1 : Hid (Below w.heap.size w w1) := hb1
      clear hb1
      have hsz : (1 : Int) + (s.size : Int) ≤ 9223372036854775807 := by omega
      go_wp2_with fail
      refine (zzresolve_eq o _ R _ (by omega) (by rw [slash_size]; omega) (by rw [slash_append, str_data, (near_far s.data.toList o.data.toList).2]; exact HR.out)).mono ?_
      rintro e w2 ⟨rfl, hb2⟩
      have B2 : Hid (Below w.heap.size w w2) := B1.out.trans (hb2.mono B1.out.size)
      clear hb2 B1
      have hnsz : (1 : Int) + (nm.size : Int) ≤ 9223372036854775807 := by omega
      by_cases hRn : R.data.toList = nm.data.toList
      · have e3 : (R.toList == nm.toList) = true := by rw [Lib.toList_data, Lib.toList_data, hRn]; simp
        clear hRn
        go_wp2
        go_ret
        exact ⟨rfl, B2.out⟩
      · have e3 : (R.toList == nm.toList) = false := by rw [Lib.toList_data, Lib.toList_data]; simpa using hRn
        obtain ⟨A, hA⟩ : ∃ A, R.data.toList = A ++ 47 :: nm.data.toList := by
          rcases HE.out with h | h
          · exact absurd h hRn
          · exact h
        have HA : Hid (R.data.toList = A ++ ((⟨#[47]⟩ : ByteArray) ++ nm).data.toList) := by
          show _ = _
          rw [slash_append, str_data]
          exact hA
        clear hRn hA
        go_wp2_with fail
        refine (suffix_true R _ A _ (by omega) HA.out).mono ?_
        rintro e x ⟨rfl, rfl⟩
        go_wp2
        go_ret
        exact ⟨rfl, B2.out⟩
end Go.Proofs.Qxb6604474aMods
