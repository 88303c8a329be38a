/-
  THE WALKS of 'resolve' (10) and 'ZZresolve' (6): they answer 'res'.
-/
import Derived.Test.Qxb6604474aModsRows
import Derived.Test.Qxb6604474aModsShelf
import Derived.Test.Qxb6604474aModsPlain
import Derived.WalkKit
import Derived.ProofKit
import Derived.WalkSpells
import Derived.Lib.CleanLen
import Derived.Lib.CleanTop
namespace Go.Proofs.Qxb6604474aMods
open Go.RowKit Go.Lib

/-- A list of bytes as a string. -/
def str (l : List UInt8) : ByteArray := ⟨l.toArray⟩

theorem str_data (l : List UInt8) : (str l).data.toList = l := rfl

theorem slash_append (s : ByteArray) : ((⟨#[47]⟩ : ByteArray) ++ s) = str (47 :: s.data.toList) := by
  apply ByteArray.ext
  simp [str]

theorem slash_size (s : ByteArray) : ((⟨#[47]⟩ : ByteArray) ++ s).size = s.size + 1 := by
  rw [slash_append, Lib.size_eq, str_data, List.length_cons, ← Lib.size_eq]

theorem dir_call (s D : ByteArray) (w : World) (hs : s.size ≤ 1048576) (hD : D = str (Pa.cleanEls (Pa.split (47 :: s.data.toList)).1)) :
    Calls Trym.prog 16 #[.string ((⟨#[47]⟩ : ByteArray) ++ s)] w fun e w' => e = .returned (.string D) ∧ Below w.heap.size w w' := by
  subst hD
  refine (Trym.path_Dir_rules ((⟨#[47]⟩ : ByteArray) ++ s) w (by rw [slash_size]; omega)).mono ?_
  rw [slash_append, str_data]
  exact fun e w' h => h

theorem join_call (D t J : ByteArray) (w : World) (hD : D.size ≤ 1048580) (ht : t.size ≤ 1048576) (hJ : J = str (Pa.join [D.data.toList, t.data.toList])) :
    Calls Trym.prog 15 #[.slice (some ⟨w.heap.size, 0, none⟩) 2 2] (w.alloc (.cells #[.string D, .string t] 9)) fun e w' => e = .returned (.string J) ∧ Below (w.heap.size + 1) (w.alloc (.cells #[.string D, .string t] 9)) w' := by
  subst hJ
  refine (Trym.path_Join_rules w.heap.size 0 2 [D, t] (w.alloc (.cells #[.string D, .string t] 9)) ?_ (by simp) ?_).mono ?_
  · intro j x hx
    match j, hx with
    | 0, hx => simp at hx; subst hx; simp [go_sem]
    | 1, hx => simp at hx; subst hx; simp [go_sem]
  · simp only [Pa.lens, List.map_cons, List.map_nil, List.sum_cons, List.sum_nil, List.length_cons, List.length_nil]
    rw [← Lib.size_eq, ← Lib.size_eq]
    omega
  · rintro e w' ⟨rfl, hb⟩
    exact ⟨rfl, hb.mono (by simp)⟩

set_option maxHeartbeats 400000 in
theorem resolve_walk (s t : ByteArray) (w : World) (hs : s.size ≤ 1048576) (ht : t.size ≤ 1048576) :
    Calls Trym.prog 10 #[.string s, .string t] w fun e w' => e = .returned (.string (str (res s.data.toList t.data.toList))) ∧ Below w.heap.size w w' := by
  by_cases hp : t.data.toList.head? = some 47
  · have HP : Hid (Lib.hasPrefix t.data.toList [47] = true) := (hasPrefix_slash _).2 hp
    have HR : Hid (Lib.trimPrefix (Pa.cleanEls t.data.toList) [47] = res s.data.toList t.data.toList) := resolve_abs _ _ hp
    clear hp
    go_enter Trym.func10, Trym.ntmps10
    go_wp2_with fail
    refine (Trym.strings_HasPrefix t ⟨#[47]⟩ _).mono ?_
    rw [show (⟨#[47]⟩ : ByteArray).data.toList = [47] from rfl, HP.out]
    rintro e x ⟨rfl, rfl⟩
    go_wp2_with fail
    refine (Trym.path_Clean_rules t _ (by omega)).mono ?_
    rintro e w1 ⟨rfl, hb⟩
    go_wp2_with fail
    refine (Trym.strings_TrimPrefix _ ⟨#[47]⟩ _).mono ?_
    rintro e x ⟨rfl, rfl⟩
    go_wp2
    go_ret
    refine ⟨?_, hb⟩
    show Ending.returned (Value.string ⟨(Lib.trimPrefix (Pa.cleanEls t.data.toList) [47]).toArray⟩) = _
    rw [HR.out]
    rfl
  · have HP : Hid (Lib.hasPrefix t.data.toList [47] = false) := by
      have h := (not_congr (hasPrefix_slash t.data.toList)).2 hp
      exact (by simpa using h : Lib.hasPrefix t.data.toList [47] = false)
    have HR : Hid (Lib.trimPrefix (Pa.join [Pa.cleanEls (Pa.split (47 :: s.data.toList)).1, t.data.toList]) [47] = res s.data.toList t.data.toList) := resolve_rel _ _ hp
    clear hp
    have hsz : (1 : Int) + (s.size : Int) ≤ 9223372036854775807 := by omega
    go_enter Trym.func10, Trym.ntmps10
    go_wp2_with fail
    refine (Trym.strings_HasPrefix t ⟨#[47]⟩ _).mono ?_
    rw [show (⟨#[47]⟩ : ByteArray).data.toList = [47] from rfl, HP.out]
    rintro e x ⟨rfl, rfl⟩
    obtain ⟨D, hD⟩ : ∃ D, D = str (Pa.cleanEls (Pa.split (47 :: s.data.toList)).1) := ⟨_, rfl⟩
    have HD : Hid (D = str (Pa.cleanEls (Pa.split (47 :: s.data.toList)).1)) := hD
    have hDs : D.size ≤ 1048580 := by
      rw [hD, Lib.size_eq, str_data, ← Pa.clean_eq_cleanEls]
      have h1 := Pa.clean_length_le_succ (Pa.split (47 :: s.data.toList)).1
      have h2 := Pa.split_fst_le (47 :: s.data.toList)
      rw [List.length_cons, ← Lib.size_eq] at h2
      omega
    clear hD
    go_wp2_with fail
    refine (dir_call s D _ hs HD.out).mono ?_
    rintro e w1 ⟨rfl, hb1⟩
    obtain ⟨J, hJ⟩ : ∃ J, J = str (Pa.join [D.data.toList, t.data.toList]) := ⟨_, rfl⟩
    have HJ : Hid (J = str (Pa.join [D.data.toList, t.data.toList])) := hJ
    clear hJ
    go_wp2_with fail
    refine (join_call D t J _ hDs ht HJ.out).mono ?_
    rintro e w2 ⟨rfl, hb2⟩
    go_wp2_with fail
    refine (Trym.strings_TrimPrefix J ⟨#[47]⟩ _).mono ?_
    rintro e x ⟨rfl, rfl⟩
    go_wp2
    go_ret
    refine ⟨?_, (hb1.alloc hb1.size _).trans (hb2.mono (Nat.le_succ_of_le hb1.size))⟩
    have e1 : Lib.trimPrefix J.data.toList [47] = res s.data.toList t.data.toList := by
      rw [HJ.out, str_data, HD.out, str_data]
      exact HR.out
    show Ending.returned (Value.string ⟨(Lib.trimPrefix J.data.toList [47]).toArray⟩) = _
    rw [e1]
    rfl

theorem zzresolve_walk (s t : ByteArray) (w : World) (hs : s.size ≤ 1048576) (ht : t.size ≤ 1048576) :
    Calls Trym.prog 6 #[.string s, .string t] w fun e w' => e = .returned (.string (str (res s.data.toList t.data.toList))) ∧ Below w.heap.size w w' := by
  go_enter Trym.func6, Trym.ntmps6
  go_wp2_with fail
  refine (resolve_walk s t _ hs ht).mono ?_
  rintro e w1 ⟨rfl, hb⟩
  go_wp2
  go_ret
  exact ⟨rfl, hb⟩
end Go.Proofs.Qxb6604474aMods
