/-
  THE PLAIN LAW of path resolution: no Go in sight. Bytes are lists; '/' is 47, '.' is 46.
-/
import Derived.Lib.CleanSame
import Derived.Lib.JoinSame2
import Derived.Lib.PathFns
namespace Go.Proofs.Qxb6604474aMods
open Go.Lib

def inter (xs : List (List UInt8)) : List UInt8 := ([47] : List UInt8).intercalate xs

/-- The kept segments, the last first. -/
def stk (segs : List (List UInt8)) : List (List UInt8) := segs.foldl (Pa.cleanStep true) []

def segsOf (source target : List UInt8) : List (List UInt8) :=
  if target.head? = some 47 then Pa.els target else (Pa.els source).dropLast ++ Pa.els target

/-- What 'resolve' answers. -/
def res (source target : List UInt8) : List UInt8 := inter (stk (segsOf source target)).reverse

/-- A segment that can be kept. -/
def Good (e : List UInt8) : Prop := 47 ∉ e ∧ e ≠ [] ∧ e ≠ [46] ∧ e ≠ [46, 46]

theorem els_no47 : ∀ (l : List UInt8), ∀ e ∈ Pa.els l, 47 ∉ e
  | [], e, he => by simp [Pa.els] at he; subst he; simp
  | c :: t, e, he => by
    have ih := els_no47 t
    obtain ⟨x, r, hx⟩ := Pa.els_ne t
    rw [Pa.els] at he
    by_cases hc : c = 47
    · rw [if_pos hc] at he
      rcases List.mem_cons.1 he with h | h
      · subst h; simp
      · exact ih e h
    · rw [if_neg hc, hx] at he
      rw [hx] at ih
      rcases List.mem_cons.1 he with h | h
      · subst h
        intro hm
        rcases List.mem_cons.1 hm with h | h
        · exact hc h.symm
        · exact ih x (by simp) h
      · exact ih e (by simp [h])

theorem step_good (st : List (List UInt8)) (e : List UInt8) (hs : ∀ x ∈ st, Good x) (he : 47 ∉ e) : ∀ x ∈ Pa.cleanStep true st e, Good x := by
  unfold Pa.cleanStep
  by_cases h1 : e = [] ∨ e = [46]
  · rw [if_pos h1]; exact hs
  · rw [if_neg h1]
    by_cases h2 : e = [46, 46]
    · rw [if_pos h2]
      match st, hs with
      | [], _ => simp
      | y :: r, hs =>
        have hy := hs y (by simp)
        simp only [if_neg hy.2.2.2]
        exact fun x hx => hs x (by simp [hx])
    · rw [if_neg h2]
      intro x hx
      rcases List.mem_cons.1 hx with h | h
      · subst h
        exact ⟨he, fun e0 => h1 (.inl e0), fun e0 => h1 (.inr e0), h2⟩
      · exact hs x h

theorem fold_good : ∀ (segs st : List (List UInt8)), (∀ x ∈ st, Good x) → (∀ e ∈ segs, 47 ∉ e) → ∀ x ∈ segs.foldl (Pa.cleanStep true) st, Good x
  | [], _, hs, _ => hs
  | e :: r, st, hs, he => fold_good r _ (step_good st e hs (he e (by simp))) (fun x hx => he x (by simp [hx]))

theorem stk_good (segs : List (List UInt8)) (he : ∀ e ∈ segs, 47 ∉ e) : ∀ x ∈ stk segs, Good x := fold_good segs [] (by simp) he

theorem step_of_good (st : List (List UInt8)) (e : List UInt8) (h : Good e) : Pa.cleanStep true st e = e :: st := Pa.step_elem true st e h.2.1 h.2.2.1 h.2.2.2

theorem fold_of_good : ∀ (S st : List (List UInt8)), (∀ x ∈ S, Good x) → S.foldl (Pa.cleanStep true) st = S.reverse ++ st
  | [], _, _ => rfl
  | e :: r, st, h => by
    rw [List.foldl_cons, step_of_good st e (h e (by simp)), fold_of_good r _ (fun x hx => h x (by simp [hx]))]
    simp

theorem els_single (e : List UInt8) (h : 47 ∉ e) : Pa.els e = [e] := by
  have := Pa.els_elem e [] h (.inl rfl)
  simpa [Pa.tailEls] using this

theorem flatMap_els : ∀ (S : List (List UInt8)), (∀ x ∈ S, Good x) → S.flatMap Pa.els = S
  | [], _ => rfl
  | e :: r, h => by
    rw [List.flatMap_cons, els_single e (h e (by simp)).1, flatMap_els r (fun x hx => h x (by simp [hx]))]
    rfl

/-- What was joined is taken apart again. -/
theorem fold_inter (S : List (List UInt8)) (h : ∀ x ∈ S, Good x) : (Pa.els (inter S)).foldl (Pa.cleanStep true) [] = S.reverse := by
  match S, h with
  | [], _ => simp [inter, Pa.els, Pa.cleanStep]
  | y :: Y, h =>
    unfold inter
    rw [Pa.els_J, flatMap_els _ h, fold_of_good _ _ h]
    simp

theorem trim_slash (x : List UInt8) : Lib.trimPrefix (47 :: x) [47] = x := by
  simp [Lib.trimPrefix, Lib.hasPrefix]

theorem hasPrefix_slash (t : List UInt8) : Lib.hasPrefix t [47] = true ↔ t.head? = some 47 := by
  cases t with
  | nil => simp [Lib.hasPrefix]
  | cons c r => simp [Lib.hasPrefix, List.isPrefixOf]; exact eq_comm

/-- The absolute way. -/
theorem resolve_abs (source target : List UInt8) (h : target.head? = some 47) : Lib.trimPrefix (Pa.cleanEls target) [47] = res source target := by
  have hne : target ≠ [] := by intro e; rw [e] at h; simp at h
  rw [Pa.cleanEls_abs target hne (by simp [h]), trim_slash]
  unfold res segsOf inter stk
  rw [if_pos h]

/-- A text parted at its last slash. -/
theorem split_cases (l : List UInt8) : (47 ∉ l ∧ (Pa.split l).1 = [] ∧ (Pa.split l).2 = l) ∨ ∃ A B, l = A ++ 47 :: B ∧ 47 ∉ B ∧ (Pa.split l).1 = A ++ [47] ∧ (Pa.split l).2 = B := by
  rcases Pa.lastIndexByte_spec l 47 with ⟨h1, h2⟩ | ⟨i, h1, h2, h3⟩
  · refine .inl ⟨fun hm => ?_, ?_, ?_⟩
    · obtain ⟨j, hj, e⟩ := List.mem_iff_getElem.1 hm
      exact h2 j (by rw [List.getElem?_eq_getElem hj, e])
    · unfold Pa.split; rw [h1]; rfl
    · unfold Pa.split; rw [h1]; rfl
  · refine .inr ⟨l.take i, l.drop (i + 1), ?_, ?_, ?_, ?_⟩
    · obtain ⟨hi, e⟩ := List.getElem?_eq_some_iff.1 h2
      rw [← e, List.getElem_cons_drop, List.take_append_drop]
    · intro hm
      obtain ⟨j, hj, e⟩ := List.mem_iff_getElem.1 hm
      rw [List.getElem_drop] at e
      rw [List.length_drop] at hj
      exact h3 (i + 1 + j) (by omega) (by rw [List.getElem?_eq_getElem (by omega), e])
    · unfold Pa.split
      rw [h1]
      show l.take ((i : Int) + 1).toNat = _
      rw [show ((i : Int) + 1).toNat = i + 1 by omega, List.take_add_one, h2]
      rfl
    · unfold Pa.split
      rw [h1]
      show l.drop ((i : Int) + 1).toNat = _
      rw [show ((i : Int) + 1).toNat = i + 1 by omega]

theorem split_snd_no47 (l : List UInt8) : 47 ∉ (Pa.split l).2 := by
  rcases split_cases l with ⟨h, _, e⟩ | ⟨A, B, _, h, _, e⟩
  · rw [e]; exact h
  · rw [e]; exact h

/-- The last segment is what stands behind the last slash. -/
theorem els_split (l : List UInt8) : Pa.els l = (Pa.els l).dropLast ++ [(Pa.split l).2] := by
  rcases split_cases l with ⟨h, _, e⟩ | ⟨A, B, hl, h, _, e⟩
  · rw [e, els_single l h]; rfl
  · rw [e, hl, Pa.els_app, els_single B h, List.dropLast_concat]

/-- The directory's segments. -/
theorem els_dir (l A B : List UInt8) (hl : l = A ++ 47 :: B) (h : 47 ∉ B) : Pa.els (A ++ [47]) = (Pa.els l).dropLast ++ [[]] := by
  have e1 : Pa.els (A ++ [47]) = Pa.els A ++ [[]] := Pa.els_app A []
  rw [e1, hl, Pa.els_app, els_single B h, List.dropLast_concat]

theorem dropLast_els_slash (s : List UInt8) : (Pa.els (47 :: s)).dropLast = [] :: (Pa.els s).dropLast := by
  obtain ⟨x, r, hx⟩ := Pa.els_ne s
  rw [Pa.els_slash, hx]
  rfl

/-- What path.Dir('/' + source) answers. -/
theorem dir_slash (s : List UInt8) : Pa.cleanEls (Pa.split (47 :: s)).1 = 47 :: inter (stk (Pa.els s).dropLast).reverse := by
  rcases split_cases (47 :: s) with ⟨h, _, _⟩ | ⟨A, B, hl, hB, e, _⟩
  · exact absurd (List.mem_cons_self ..) h
  · rw [e]
    have hh : ((A ++ [47]).head? == some 47) = true := by
      cases A with
      | nil => rfl
      | cons a r => simp at hl; simp [hl.1]
    rw [Pa.cleanEls_abs _ (by simp) hh, els_dir _ A B hl hB, dropLast_els_slash, List.foldl_append]
    simp only [List.foldl_cons, List.foldl_nil, Pa.step_nil]
    rfl

theorem mem_dropLast_no47 (l : List UInt8) : ∀ e ∈ (Pa.els l).dropLast, 47 ∉ e := fun e he => els_no47 l e (List.dropLast_subset _ he)

/-- The relative way. -/
theorem resolve_rel (source target : List UInt8) (h : target.head? ≠ some 47) : Lib.trimPrefix (Pa.join [Pa.cleanEls (Pa.split (47 :: source)).1, target]) [47] = res source target := by
  have hg : ∀ x ∈ (stk (Pa.els source).dropLast).reverse, Good x := fun x hx => stk_good _ (mem_dropLast_no47 source) x (by simpa using hx)
  rw [dir_slash]
  unfold Pa.join
  by_cases ht : target = []
  · subst ht
    rw [if_neg (by simp), show ([47 :: inter (stk (Pa.els source).dropLast).reverse, []] : List (List UInt8)).filter (· ≠ []) = [47 :: inter (stk (Pa.els source).dropLast).reverse] from by simp, Pa.J_one, Pa.clean_eq_cleanEls,
      Pa.cleanEls_abs _ (by simp) (by simp), trim_slash, Pa.els_slash, List.foldl_cons, Pa.step_nil, fold_inter _ hg]
    unfold res segsOf inter
    rw [if_neg (by simp)]
    unfold stk
    rw [List.foldl_append]
    simp [Pa.els, Pa.step_nil]
  · rw [if_neg (by simp), show ([47 :: inter (stk (Pa.els source).dropLast).reverse, target] : List (List UInt8)).filter (· ≠ []) = [47 :: inter (stk (Pa.els source).dropLast).reverse, target] from by simp [ht], Pa.J_cons, Pa.J_one, Pa.clean_eq_cleanEls,
      Pa.cleanEls_abs _ (by simp) (by simp), trim_slash, Pa.els_app, Pa.els_slash, List.cons_append, List.foldl_cons, Pa.step_nil, List.foldl_append, fold_inter _ hg]
    unfold res segsOf inter
    rw [if_neg h]
    unfold stk
    rw [List.foldl_append, List.reverse_reverse]

/-! ### a part found by its own name -/
theorem near_far (source other : List UInt8) : res source (Pa.split source).2 = inter (stk (Pa.els source)).reverse ∧ res other (47 :: source) = inter (stk (Pa.els source)).reverse := by
  have hn := split_snd_no47 source
  constructor
  · unfold res segsOf
    rw [if_neg (by intro e; exact hn (List.mem_of_mem_head? e)), els_single _ hn, ← els_split]
  · unfold res segsOf
    rw [if_pos (show (47 :: source).head? = some 47 from rfl), Pa.els_slash]
    unfold stk
    rw [List.foldl_cons, Pa.step_nil]

theorem near_ends (source : List UInt8) (h0 : (Pa.split source).2 ≠ []) (h1 : (Pa.split source).2 ≠ [46]) (h2 : (Pa.split source).2 ≠ [46, 46]) :
    inter (stk (Pa.els source)).reverse = (Pa.split source).2 ∨ ∃ A, inter (stk (Pa.els source)).reverse = A ++ 47 :: (Pa.split source).2 := by
  have e : stk (Pa.els source) = (Pa.split source).2 :: stk (Pa.els source).dropLast := by
    unfold stk
    conv => lhs; rw [els_split, List.foldl_append]
    rw [List.foldl_cons, List.foldl_nil, Pa.step_elem true _ _ h0 h1 h2]
  rw [e, List.reverse_cons]
  unfold inter
  by_cases hs : (stk (Pa.els source).dropLast).reverse = []
  · left; rw [hs]; simp [List.intercalate]
  · right; exact ⟨_, Pa.inter_snoc _ _ hs⟩

/-! ### the stack as the model keeps it: the last segment last -/
def gstep (st : List (List UInt8)) (e : List UInt8) : List (List UInt8) :=
  if e = [] ∨ e = [46] then st else if e = [46, 46] then st.dropLast else st ++ [e]

theorem gstep_step (st : List (List UInt8)) (e : List UInt8) (hs : ∀ x ∈ st, Good x) : gstep st.reverse e = (Pa.cleanStep true st e).reverse := by
  unfold gstep Pa.cleanStep
  by_cases h1 : e = [] ∨ e = [46]
  · rw [if_pos h1, if_pos h1]
  · rw [if_neg h1, if_neg h1]
    by_cases h2 : e = [46, 46]
    · rw [if_pos h2, if_pos h2]
      match st, hs with
      | [], _ => simp
      | y :: r, hs =>
        have hy := hs y (by simp)
        simp only [if_neg hy.2.2.2]
        simp
    · rw [if_neg h2, if_neg h2]
      simp

theorem gfold : ∀ (segs st : List (List UInt8)), (∀ x ∈ st, Good x) → (∀ e ∈ segs, 47 ∉ e) → segs.foldl gstep st.reverse = (segs.foldl (Pa.cleanStep true) st).reverse
  | [], _, _, _ => rfl
  | e :: r, st, hs, he => by
    rw [List.foldl_cons, gstep_step st e hs, gfold r _ (step_good st e hs (he e (by simp))) (fun x hx => he x (by simp [hx]))]
    rfl

theorem segs_no47 (source target : List UInt8) : ∀ e ∈ segsOf source target, 47 ∉ e := by
  unfold segsOf
  split
  · exact els_no47 target
  · intro e he
    rcases List.mem_append.1 he with h | h
    · exact mem_dropLast_no47 source e h
    · exact els_no47 target e h

/-- The model's answer is 'res'. -/
theorem model_res (source target : List UInt8) : inter ((segsOf source target).foldl gstep []) = res source target := by
  have := gfold (segsOf source target) [] (by simp) (segs_no47 source target)
  rw [List.reverse_nil] at this
  rw [this]
  rfl
end Go.Proofs.Qxb6604474aMods
