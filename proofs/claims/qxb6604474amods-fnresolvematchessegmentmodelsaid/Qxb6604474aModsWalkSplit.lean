/-
  THE WALK of 'zzSplitSlash' (11): it answers a new slice that holds the elements between the slashes.
-/
import Derived.Test.Qxb6604474aModsWalkResolve
import Derived.Maps.AppendAt
import Derived.Lib.AppendStr
import Derived.WalkSmall
namespace Go.Proofs.Qxb6604474aMods
open Go.RowKit Go.Lib

/-! ### plain -/
theorem els_length : ∀ l : List UInt8, (Pa.els l).length ≤ l.length + 1
  | [] => by simp [Pa.els]
  | c :: t => by
    have ih := els_length t
    obtain ⟨x, r, hx⟩ := Pa.els_ne t
    rw [Pa.els]
    rw [hx] at ih ⊢
    split <;> simp at ih ⊢ <;> omega

theorem els_snoc_slash (A : List UInt8) : Pa.els (A ++ [47]) = Pa.els A ++ [[]] := Pa.els_app A []

theorem els_snoc_other (A : List UInt8) (c : UInt8) (hc : c ≠ 47) (D : List (List UInt8)) (p : List UInt8) (h : Pa.els A = D ++ [p]) : Pa.els (A ++ [c]) = D ++ [p ++ [c]] := by
  rcases split_cases A with ⟨h1, _, _⟩ | ⟨X, Y, hl, hY, _, _⟩
  · rw [els_single A h1] at h
    have h2 : D = [] ∧ p = A := by
      cases D with
      | nil => simp at h; exact ⟨rfl, h.symm⟩
      | cons d r => have := congrArg List.length h; simp at this
    rw [h2.1, h2.2, els_single (A ++ [c]) (by simp [h1, hc.symm])]
    rfl
  · have e1 : Pa.els A = Pa.els X ++ [Y] := by rw [hl, Pa.els_app, els_single Y hY]
    rw [e1] at h
    have h2 := List.append_inj' h rfl
    have h3 : Y = p := by simpa using h2.2
    rw [hl, List.append_assoc, List.cons_append, Pa.els_app, els_single (Y ++ [c]) (by simp [hY, hc.symm]), ← h2.1, h3]

def strs (xs : List (List UInt8)) : List Value := xs.map fun x => .string (str x)

theorem strs_append (xs ys : List (List UInt8)) : strs (xs ++ ys) = strs xs ++ strs ys := List.map_append
theorem strs_length (xs : List (List UInt8)) : (strs xs).length = xs.length := List.length_map ..

theorem extract_str (s : ByteArray) (q k : Nat) : s.extract q k = str ((s.data.toList.take k).drop q) := by
  rw [Lib.extract_eq, List.drop_take]
  rfl

theorem Trym.info9 : (Trym.prog.info? 9).map (fun i => (i.zero, i.size, i.bytes)) = some (some (.string ⟨#[]⟩), 1, 16) := by kernel_rfl
theorem Trym.info5 : (Trym.prog.info? 5).map (fun i => (i.zero, i.size, i.bytes)) = some (some (.int .u8 0), 1, 1) := by kernel_rfl

theorem take_snoc (s : ByteArray) (k : Nat) (h : k < s.size) : s.data.toList.take (k + 1) = s.data.toList.take k ++ [s[k]] := by
  rw [List.take_add_one, Pa.at_eq s k h]
  rfl

/-- The relation of the loop. -/
def SplitRel (s : ByteArray) (w wr : World) (k q : Nat) (v : Value) (D : List (List UInt8)) : Prop :=
  Pa.els (s.data.toList.take k) = D ++ [(s.data.toList.take k).drop q] ∧ wr.ownsRow w.heap.size 9 1 v D.length (strs D) ∧ Below w.heap.size w wr

theorem SplitRel.len {s : ByteArray} {w wr : World} {k q : Nat} {v : Value} {D : List (List UInt8)} (h : SplitRel s w wr k q v D) (hk : k ≤ 65536) : D.length ≤ 65536 := by
  have h1 := els_length (s.data.toList.take k)
  rw [h.1] at h1
  simp at h1
  omega

theorem SplitRel.hit {s : ByteArray} {w wr w1 : World} {k q : Nat} {v v' : Value} {D : List (List UInt8)} {pc : ByteArray} {o : Obj} (h : SplitRel s w wr k q v D) (hk : k ≤ s.size) (ht : s.data.toList.take (k + 1) = s.data.toList.take k ++ [47])
    (hpc : pc = str ((s.data.toList.take k).drop q)) (hown : w1.ownsRow w.heap.size 9 1 v' (D.length + 1) (strs D ++ [.string pc])) (hg : (wr.alloc o).grownBy w1 v.ownBlock) :
    SplitRel s w w1 (k + 1) (k + 1) v' (D ++ [(s.data.toList.take k).drop q]) := by
  have hs := h.2.2.size
  refine ⟨?_, ?_, ?_⟩
  · have e2 : (s.data.toList.take k ++ [47]).drop (k + 1) = [] := List.drop_of_length_le (by simp; omega)
    rw [ht, els_snoc_slash, h.1, e2]
  · rw [strs_append, List.length_append]
    have e1 : strs [(s.data.toList.take k).drop q] = [.string pc] := by rw [hpc]; rfl
    rw [e1]
    exact hown
  · exact (h.2.2.alloc hs _).grown hg (by simp; omega) (fun j hj => (h.2.1.lt j hj).1)

theorem SplitRel.miss {s : ByteArray} {w wr : World} {k q : Nat} {v : Value} {D : List (List UInt8)} (h : SplitRel s w wr k q v D) (hk : k < s.size) (hq : q ≤ k) (h47 : s[k] ≠ 47) : SplitRel s w wr (k + 1) q v D := by
  refine ⟨?_, h.2.1, h.2.2⟩
  rw [take_snoc s k hk, els_snoc_other _ _ h47 _ _ h.1, List.drop_append_of_le_length (by rw [List.length_take, ← Lib.size_eq]; omega)]

theorem SplitRel.done {s : ByteArray} {w wr w1 : World} {q : Nat} {v v' : Value} {D : List (List UInt8)} {pc : ByteArray} {o : Obj} (h : SplitRel s w wr s.size q v D)
    (hpc : pc = str (s.data.toList.drop q)) (hown : w1.ownsRow w.heap.size 9 1 v' (D.length + 1) (strs D ++ [.string pc])) (hg : (wr.alloc o).grownBy w1 v.ownBlock) :
    w1.ownsRow w.heap.size 9 1 v' (Pa.els s.data.toList).length (strs (Pa.els s.data.toList)) ∧ Below w.heap.size w w1 := by
  have hs := h.2.2.size
  have e0 := h.1
  rw [List.take_of_length_le (by rw [← Lib.size_eq]; exact Nat.le_refl _)] at e0
  refine ⟨?_, (h.2.2.alloc hs _).grown hg (by simp; omega) (fun j hj => (h.2.1.lt j hj).1)⟩
  rw [e0, strs_append, List.length_append]
  have e1 : strs [s.data.toList.drop q] = [.string pc] := by rw [hpc]; rfl
  rw [e1]
  exact hown

set_option maxHeartbeats 1000000 in
theorem split_walk (s : ByteArray) (w : World) (hs : s.size ≤ 65536) :
    Calls Trym.prog 11 #[.string s] w fun e w' => ∃ v, e = .returned v ∧ w'.ownsRow w.heap.size 9 1 v (Pa.els s.data.toList).length (strs (Pa.els s.data.toList)) ∧ Below w.heap.size w w' := by
  obtain ⟨i0, hi, hz0, hz1, hz2⟩ := info_parts Trym.info9
  go_enter Trym.func11, Trym.ntmps11
  go_wp2
  go_loopw [3, 4, 5] (fun v st i wr => ∃ k q : Nat, ∃ D, k ≤ s.size ∧ q ≤ k ∧ i = .int .i64 k ∧ st = .int .i64 q ∧ Hid (SplitRel s w wr k q v D)) (fun _ _ i _ => s.size - (RowKit.intOf i).toNat)
  case atStart => exact ⟨0, 0, [], Nat.zero_le _, Nat.le_refl _, rfl, rfl, ⟨by simp [Pa.els], World.ownsRow_nil _ _ _ _, Below.refl _ _⟩⟩
  case round =>
    obtain ⟨k, q, D, hk, hq, rfl, rfl, HR⟩ := hrel
    have hDl := HR.out.len (by omega)
    by_cases hlt : k < s.size
    · by_cases h47 : s[k] = 47
      · have hb47 : ((s[k].toNat : Int) == 47) = true := by rw [Pa.beq47]; simp [h47]
        obtain ⟨pc, hpc⟩ : ∃ pc, s.extract q k = pc := ⟨_, rfl⟩
        have HP : Hid (pc = str ((s.data.toList.take k).drop q)) := by rw [← hpc]; exact extract_str s q k
        have HT : Hid (s.data.toList.take (k + 1) = s.data.toList.take k ++ [47]) := by
          show _ = _
          rw [take_snoc s k hlt, h47]
        have hsz : w.heap.size ≤ wr.heap.size := HR.out.2.2.size
        clear h47
        go_wp2_with (first | (at_builtin; refine wpList_append_own_at _ rfl _ _ 24 rfl w.heap.size 9 i0 (.string ⟨#[]⟩) 1 16 Trym.underlying24 hi hz0 hz1 hz2 rfl (by decide) _ _ _ rfl (HR.out.2.1.alloc _) ⟨wr.heap.size, 0, none⟩ 1 1 [.string pc] rfl rfl ?c1 ?c2 ?c3 ?c4 ?c5 ?_) | go_in)
        case c1 => exact cell_one_new _ _ _
        case c2 => intro u hu; simp at hu; subst hu; rfl
        case c3 => unfold maxLen; omega
        case c4 => omega
        case c5 => simp; omega
        intro v' w1 hown' hgrow _ _
        have RN : Hid (SplitRel s w w1 (k + 1) (k + 1) v' (D ++ [(s.data.toList.take k).drop q])) := HR.out.hit (by omega) HT.out HP.out hown' hgrow
        clear hown' hgrow HR HP HT hpc
        go_wp2
        go_roundw
        case rel => exact ⟨k + 1, k + 1, _, by omega, by omega, by go_num, by go_num, RN⟩
        case measure => simp [RowKit.intOf]; omega
      · have hb47 : ((s[k].toNat : Int) == 47) = false := by rw [Pa.beq47]; simp [h47]
        have RN : Hid (SplitRel s w wr (k + 1) q _ D) := HR.out.miss hlt hq h47
        clear h47 HR
        go_wp2
        go_roundw
        case rel => exact ⟨k + 1, q, _, by omega, by omega, by go_num, by go_num, RN⟩
        case measure => simp [RowKit.intOf]; omega
    · have hkn : k = s.size := by omega
      subst hkn
      obtain ⟨pc, hpc⟩ : ∃ pc, s.extract q s.size = pc := ⟨_, rfl⟩
      have HP : Hid (pc = str (s.data.toList.drop q)) := by rw [← hpc]; exact Pa.extract_from s q
      have hsz : w.heap.size ≤ wr.heap.size := HR.out.2.2.size
      go_wp2_with (first | (at_builtin; refine wpList_append_own_at _ rfl _ _ 24 rfl w.heap.size 9 i0 (.string ⟨#[]⟩) 1 16 Trym.underlying24 hi hz0 hz1 hz2 rfl (by decide) _ _ _ rfl (HR.out.2.1.alloc _) ⟨wr.heap.size, 0, none⟩ 1 1 [.string pc] rfl rfl ?d1 ?d2 ?d3 ?d4 ?d5 ?_) | go_in)
      case d1 => exact cell_one_new _ _ _
      case d2 => intro u hu; simp at hu; subst hu; rfl
      case d3 => unfold maxLen; omega
      case d4 => omega
      case d5 => simp; omega
      intro v' w1 hown' hgrow _ _
      have RN : Hid (w1.ownsRow w.heap.size 9 1 v' (Pa.els s.data.toList).length (strs (Pa.els s.data.toList)) ∧ Below w.heap.size w w1) := HR.out.done HP.out hown' hgrow
      clear hown' hgrow HR HP hpc
      go_wp2
      go_ret
      exact ⟨_, rfl, RN.out.1, RN.out.2⟩
end Go.Proofs.Qxb6604474aMods
