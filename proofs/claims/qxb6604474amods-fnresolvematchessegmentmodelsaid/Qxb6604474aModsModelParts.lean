/-
  WHAT THE LOOPS OF 'zzResolveModel' DO TO MEMORY: one lemma a step, outside the walk.
-/
import Derived.Test.Qxb6604474aModsWalkSplit
import Derived.Laws.BytesArg
import Derived.Lib.LazyBuf
namespace Go.Proofs.Qxb6604474aMods
open Go.RowKit Go.Lib

theorem hid {p : Prop} (h : p) : Hid p := h

/-- A row of strings that lies in block g. -/
def Lies (w : World) (g : Nat) (xs : List (List UInt8)) : Prop := ∀ j, j < xs.length → w.cell? ⟨g, j, none⟩ = some (.string (str (xs.getD j [])))

theorem Lies.below {w w' : World} {B g : Nat} {xs : List (List UInt8)} (h : Lies w g xs) (hb : Below B w w') (hg : g < B) : Lies w' g xs :=
  fun j hj => (hb.cell (p := ⟨g, j, none⟩) hg).trans (h j hj)

theorem strs_get (xs : List (List UInt8)) (j : Nat) (h : j < xs.length) : (strs xs)[j]? = some (.string (str (xs.getD j []))) := by
  unfold strs
  rw [List.getElem?_map, List.getElem?_eq_getElem h, List.getD_eq_getElem?_getD, List.getElem?_eq_getElem h]
  rfl

theorem own_shape {w : World} {B n : Nat} {e : TypeId} {v : Value} {xs : List Value} (h : w.ownsRow B e 1 v n xs) : ∃ a cap, v = .slice a n cap ∧ n ≤ cap := by
  rcases h.2 with ⟨h1, h2⟩ | ⟨g, cap, cur, h1, _, _, h4, _⟩
  · subst h2; exact ⟨_, _, h1, Nat.le_refl _⟩
  · exact ⟨_, _, h1, h4⟩

theorem own_form {w : World} {B n : Nat} {v : Value} {xs : List (List UInt8)} (h : w.ownsRow B 9 1 v n (strs xs)) (hn : xs.length = n) (hpos : 0 < n) :
    ∃ g cap, v = .slice (some ⟨g, 0, none⟩) n cap ∧ n ≤ cap ∧ B ≤ g ∧ g < w.heap.size ∧ Lies w g xs := by
  have hh := h
  rcases h.2 with ⟨h1, h2⟩ | ⟨g, cap, cur, h1, h3, h5, h4, _⟩
  · omega
  · subst h1
    refine ⟨g, cap, rfl, h4, h3, (hh.lt g rfl).2, fun j hj => ?_⟩
    rw [hh.cellAt j (by omega), strs_get xs j hj]

theorem take_succ_snoc (X : List (List UInt8)) (k : Nat) (h : k < X.length) : X.take (k + 1) = X.take k ++ [X.getD k []] := by
  rw [List.take_add_one, List.getElem?_eq_getElem h, List.getD_eq_getElem?_getD, List.getElem?_eq_getElem h]
  rfl

/-! ### copying a row onto another -/
/-- v owns the strings xs, in rows from block B on; what lay below B is as it was. -/
def Holds (B : Nat) (w0 wr : World) (v : Value) (xs : List (List UInt8)) : Prop := wr.ownsRow B 9 1 v xs.length (strs xs) ∧ Below B w0 wr

theorem Holds.snoc {B : Nat} {w0 wr w1 : World} {v v' : Value} {xs : List (List UInt8)} {x : List UInt8} {o : Obj} (h : Holds B w0 wr v xs) (hB : B ≤ wr.heap.size)
    (hown : w1.ownsRow B 9 1 v' (xs.length + 1) (strs xs ++ [.string (str x)])) (hg : (wr.alloc o).grownBy w1 v.ownBlock) : Holds B w0 w1 v' (xs ++ [x]) := by
  refine ⟨?_, (h.2.alloc hB _).grown hg (by simp; omega) (fun j hj => (h.1.lt j hj).1)⟩
  rw [strs_append, List.length_append]
  exact hown

theorem Holds.carry {B : Nat} {w0 wr w' : World} {v : Value} {xs : List (List UInt8)} (h : Holds B w0 wr v xs) (hB : B ≤ wr.heap.size) (hb : Below wr.heap.size wr w') : Holds B w0 w' v xs :=
  ⟨h.1.kept (row := none) ⟨hb.os, hb.tape, hb.output, hb.size, fun i hi _ => hb.block i hi⟩ (by cases h0 : v.ownBlock with
    | none => exact .inl rfl
    | some k => exact .inr (by simp)), h.2.trans (hb.mono hB)⟩

/-- v grows, while the strings ys lie in a younger block. -/
def Beside (B : Nat) (w0 wr : World) (v : Value) (xs : List (List UInt8)) (g : Nat) (ys : List (List UInt8)) : Prop :=
  Holds B w0 wr v xs ∧ Lies wr g ys ∧ g < wr.heap.size ∧ v.ownBlock ≠ some g

theorem Beside.snoc {B : Nat} {w0 wr w1 : World} {v v' : Value} {xs ys : List (List UInt8)} {g : Nat} {x : List UInt8} {o : Obj} (h : Beside B w0 wr v xs g ys) (hB : B ≤ wr.heap.size)
    (hown : w1.ownsRow B 9 1 v' (xs.length + 1) (strs xs ++ [.string (str x)])) (hg : (wr.alloc o).grownBy w1 v.ownBlock) (hloc : v'.ownBlock = v.ownBlock ∨ v'.ownBlock = some (wr.heap.size + 1)) : Beside B w0 w1 v' (xs ++ [x]) g ys := by
  obtain ⟨h1, h2, h3, h4⟩ := h
  refine ⟨h1.snoc hB hown hg, fun j hj => ?_, ?_, ?_⟩
  · have e := h2 j hj
    have e' : (wr.alloc o).cell? ⟨g, j, none⟩ = some (.string (str (ys.getD j []))) := (World.cell?_of_block (Below.heap_alloc wr o g h3)).trans e
    exact hg.cell e' (fun e1 => h4 e1.symm)
  · have := hg.size
    simp at this
    omega
  · rcases hloc with h | h
    · rw [h]; exact h4
    · rw [h]
      simp
      omega

/-! ### the stack -/
def stkOf (X : List (List UInt8)) (k : Nat) : List (List UInt8) := (X.take k).foldl gstep []

theorem stkOf_succ (X : List (List UInt8)) (k : Nat) (h : k < X.length) : stkOf X (k + 1) = gstep (stkOf X k) (X.getD k []) := by
  unfold stkOf
  rw [take_succ_snoc X k h, List.foldl_append]
  rfl

theorem gstep_length (st : List (List UInt8)) (e : List UInt8) : (gstep st e).length ≤ st.length + 1 := by
  unfold gstep
  split
  · omega
  · split
    · simp; omega
    · simp

theorem stkOf_length (X : List (List UInt8)) : ∀ k, k ≤ X.length → (stkOf X k).length ≤ k
  | 0, _ => by simp [stkOf]
  | k + 1, h => by
    rw [stkOf_succ X k (by omega)]
    have h1 := stkOf_length X k (by omega)
    have h2 := gstep_length (stkOf X k) (X.getD k [])
    omega

theorem gstep_mem (st : List (List UInt8)) (e x : List UInt8) (h : x ∈ gstep st e) : x ∈ st ∨ x = e := by
  unfold gstep at h
  split at h
  · exact .inl h
  · split at h
    · exact .inl (List.dropLast_subset _ h)
    · simpa using h

theorem stkOf_mem (X : List (List UInt8)) (x : List UInt8) : ∀ k, k ≤ X.length → x ∈ stkOf X k → x ∈ X
  | 0, _, h => by simp [stkOf] at h
  | k + 1, hk, h => by
    rw [stkOf_succ X k (by omega)] at h
    rcases gstep_mem _ _ _ h with h | h
    · exact stkOf_mem X x k (by omega) h
    · rw [h, List.getD_eq_getElem?_getD, List.getElem?_eq_getElem (by omega)]
      exact List.getElem_mem _

theorem gstep_skip (st : List (List UInt8)) (e : List UInt8) (h : e = [] ∨ e = [46] ∨ (e = [46, 46] ∧ st = [])) : gstep st e = st := by
  unfold gstep
  rcases h with h | h | ⟨h, h'⟩
  · rw [if_pos (.inl h)]
  · rw [if_pos (.inr h)]
  · subst h h'; simp
theorem gstep_pop (st : List (List UInt8)) : gstep st [46, 46] = st.dropLast := by simp [gstep]
theorem gstep_push (st : List (List UInt8)) (e : List UInt8) (h0 : e ≠ []) (h1 : e ≠ [46]) (h2 : e ≠ [46, 46]) : gstep st e = st ++ [e] := by simp [gstep, h0, h1, h2]

theorem Holds.pop {B : Nat} {w0 wr : World} {g cap n : Nat} {xs : List (List UInt8)} (h : Holds B w0 wr (.slice (some ⟨g, 0, none⟩) (n + 1) cap) xs) (hn : xs.length = n + 1) :
    Holds B w0 wr (.slice (some ⟨g, 0, none⟩) n cap) xs.dropLast := by
  refine ⟨?_, h.2⟩
  have hne : xs ≠ [] := by intro e; rw [e] at hn; simp at hn
  have e1 : strs xs = strs xs.dropLast ++ [.string (str (xs.getLast hne))] := by
    conv => lhs; rw [← List.dropLast_concat_getLast hne]
    rw [strs_append]
    rfl
  have e2 : xs.dropLast.length = n := by rw [List.length_dropLast]; omega
  have h1 := h.1
  rw [hn, e1] at h1
  rw [e2]
  exact ownsRow_pop (by rw [strs_length, e2]; omega) h1

/-! ### the answer's bytes -/
def bytesV (l : List UInt8) : List Value := l.map fun b => .int .u8 b.toNat

theorem bytesV_append (a b : List UInt8) : bytesV (a ++ b) = bytesV a ++ bytesV b := List.map_append

def HoldsB (B : Nat) (w0 wr : World) (v : Value) (l : List UInt8) : Prop := wr.ownsRow B 5 1 v l.length (bytesV l) ∧ Below B w0 wr

theorem HoldsB.slash {B : Nat} {w0 wr w1 : World} {v v' : Value} {l : List UInt8} {o : Obj} (h : HoldsB B w0 wr v l) (hB : B ≤ wr.heap.size)
    (hown : w1.ownsRow B 5 1 v' (l.length + 1) (bytesV l ++ [.int .u8 47])) (hg : (wr.alloc o).grownBy w1 v.ownBlock) : HoldsB B w0 w1 v' (l ++ [47]) := by
  refine ⟨?_, (h.2.alloc hB _).grown hg (by simp; omega) (fun j hj => (h.1.lt j hj).1)⟩
  rw [bytesV_append, List.length_append]
  exact hown

theorem HoldsB.str {B : Nat} {w0 wr w1 : World} {v v' : Value} {l : List UInt8} {s : ByteArray} (h : HoldsB B w0 wr v l) (hB : B ≤ wr.heap.size)
    (hown : w1.ownsRow B 5 1 v' (l.length + s.size) (bytesV l ++ strCells s)) (hg : wr.grownBy w1 v.ownBlock) : HoldsB B w0 w1 v' (l ++ s.data.toList) := by
  refine ⟨?_, h.2.grown hg hB (fun j hj => (h.1.lt j hj).1)⟩
  rw [bytesV_append, List.length_append, ← Lib.size_eq]
  exact hown

/-- 'string(out)'. -/
theorem conv_own {B : Nat} {w0 wr : World} {v : Value} {l : List UInt8} (h : HoldsB B w0 wr v l) : (convert 26 9 v).run Trym.prog wr = .ok (.string (Qxb6604474aMods.str l)) wr := by
  have hh := h.1
  rcases h.1.2 with ⟨h1, h2⟩ | ⟨g, cap, cur, h1, _⟩
  · subst h1
    have e : l = [] := List.eq_nil_of_length_eq_zero h2
    subst e
    exact run_convert_bytes_nil wr 26 5 Trym.underlying26 Trym.underlying5 0 0 9 Trym.underlying9
  · subst h1
    have g1 := run_convert_bytes_arg (P := Trym.prog) wr 26 5 Trym.underlying26 Trym.underlying5 g 0 l.length cap (l.map fun c => (c.toNat : Int)) (by rw [List.length_map]) (fun i hi => by
      rw [Nat.zero_add, hh.cellAt i (by omega), Lz.getD_map]
      unfold bytesV
      rw [List.getElem?_map, List.getElem?_eq_getElem hi]
      rfl) 9 Trym.underlying9
    rw [Lz.strOfNums_map] at g1
    exact g1

theorem inter_nil : inter [] = [] := by simp [inter]
theorem inter_first (S : List (List UInt8)) (h : 0 < S.length) : inter (S.take 1) = S.getD 0 [] := by
  rw [take_succ_snoc S 0 h]
  unfold inter
  simp
theorem inter_next (S : List (List UInt8)) (k : Nat) (h : k < S.length) (hk : 0 < k) : inter (S.take (k + 1)) = inter (S.take k) ++ [47] ++ S.getD k [] := by
  rw [take_succ_snoc S k h]
  have hne : S.take k ≠ [] := by
    intro e
    have h1 := congrArg List.length e
    rw [List.length_take, List.length_nil] at h1
    omega
  unfold inter
  rw [Pa.inter_snoc _ _ hne, List.append_assoc]
  rfl

theorem inter_len (M : Nat) (S : List (List UInt8)) (hM : ∀ x ∈ S, x.length ≤ M) : ∀ k, k ≤ S.length → (inter (S.take k)).length ≤ k * (M + 1)
  | 0, _ => by simp [inter]
  | k + 1, h => by
    have ih := inter_len M S hM k (by omega)
    have hx : (S.getD k []).length ≤ M := by
      rw [List.getD_eq_getElem?_getD, List.getElem?_eq_getElem (by omega)]
      exact hM _ (List.getElem_mem _)
    by_cases hk : 0 < k
    · rw [inter_next S k (by omega) hk]
      simp only [List.length_append, List.length_cons, List.length_nil]
      have : (k + 1) * (M + 1) = k * (M + 1) + (M + 1) := Nat.succ_mul _ _
      omega
    · obtain rfl : k = 0 := by omega
      rw [inter_first S (by omega)]
      omega

theorem els_elem_length : ∀ (l : List UInt8), ∀ x ∈ Pa.els l, x.length ≤ l.length
  | [], x, h => by simp [Pa.els] at h; subst h; simp
  | c :: t, x, h => by
    have ih := els_elem_length t
    obtain ⟨y, r, hy⟩ := Pa.els_ne t
    rw [Pa.els] at h
    rw [hy] at ih h
    split at h
    · rcases List.mem_cons.1 h with h | h
      · subst h; simp
      · have := ih x h; simp; omega
    · rcases List.mem_cons.1 h with h | h
      · subst h
        have := ih y (by simp)
        simp; omega
      · have := ih x (by simp [h])
        simp; omega

theorem segs_elem_length (s t : List UInt8) (M : Nat) (hs : s.length ≤ M) (ht : t.length ≤ M) : ∀ x ∈ segsOf s t, x.length ≤ M := by
  intro x hx
  unfold segsOf at hx
  split at hx
  · exact Nat.le_trans (els_elem_length t x hx) ht
  · rcases List.mem_append.1 hx with h | h
    · exact Nat.le_trans (els_elem_length s x (List.dropLast_subset _ h)) hs
    · exact Nat.le_trans (els_elem_length t x h) ht
end Go.Proofs.Qxb6604474aMods
