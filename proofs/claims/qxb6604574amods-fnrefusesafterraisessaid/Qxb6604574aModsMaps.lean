/-
  A MAP FROM STRINGS TO uint64 THAT THE CALL HAS MADE, told by a plain function: 'MapIs w b n M s': block b is a map that holds at key k what 'M k' says, of s entries (at most n).
-/
import Derived.Test.Qxb6604574aModsRows
import Derived.WalkKit
import Derived.ProofKit
import Derived.WalkSpells
import Derived.Maps.OwnSet
import Derived.Below
import Derived.OpenShut
namespace Go.Proofs.Qxb6604574aMods
open Go.RowKit Go.Maps Go.WideMaps

theorem hid {p : Prop} (h : p) : Hid p := h

theorem law : Keyed Trym.prog 9 := string_keyed Trym.underlying9
theorem zeroE (w : World) : (zeroValue 23).run Trym.prog w = .ok (.int .u64 0) w := by kernel_rfl

abbrev Key := List UInt8

/-- The map with k set to v. -/
def setM (M : Key → Option Int) (k : Key) (v : Int) : Key → Option Int := fun k' => if k' = k then some v else M k'
def setS (M : Key → Option Int) (k : Key) (s : Nat) : Nat := if (M k).isSome then s else s + 1

theorem setM_same (M : Key → Option Int) (k : Key) (v : Int) : setM M k v k = some v := by simp [setM]
theorem setM_other (M : Key → Option Int) (k k' : Key) (v : Int) (h : k' ≠ k) : setM M k v k' = M k' := by simp [setM, h]

def MapIs (w : World) (b n : Nat) (M : Key → Option Int) (s : Nat) : Prop :=
  ∃ D : DataW Unit, w.ownsMap Trym.prog 9 (plainElem Trym.prog 23) b n D ∧ Maps.size D = s ∧
    ∀ k, Maps.has D (.string k) = (M k).isSome ∧ D.atKey (.string k) (.lit (.int .u64 0)) = .lit (.int .u64 ((M k).getD 0))

theorem mapIs_made (w : World) : MapIs (w.alloc (.map #[] 0)) w.heap.size 0 (fun _ => none) 0 :=
  ⟨_, World.ownsMap_made w _ _ _, rfl, fun _ => ⟨rfl, rfl⟩⟩

theorem MapIs.kept {w w' : World} {b n s : Nat} {M : Key → Option Int} {row : Option Nat} (h : MapIs w b n M s) (hg : w.grownBy w' row) (hne : some b ≠ row) : MapIs w' b n M s := by
  obtain ⟨D, h1, h2, h3⟩ := h
  exact ⟨D, h1.kept hg hne, h2, h3⟩
theorem MapIs.alloc {w : World} {b n s : Nat} {M : Key → Option Int} (h : MapIs w b n M s) (o : Obj) : MapIs (w.alloc o) b n M s := h.kept (World.grownBy_alloc w o none) (by simp)
theorem MapIs.drew {w : World} {b n s : Nat} {M : Key → Option Int} (h : MapIs w b n M s) : MapIs w.drew b n M s := h
theorem MapIs.lt {w : World} {b n s : Nat} {M : Key → Option Int} (h : MapIs w b n M s) : b < w.heap.size := by
  obtain ⟨D, h1, _⟩ := h
  exact h1.lt
theorem MapIs.below {w w' : World} {b n s B : Nat} {M : Key → Option Int} (h : MapIs w b n M s) (hb : Below B w w') (hB : b < B) : MapIs w' b n M s := by
  obtain ⟨D, ⟨es, clock, h1, h2⟩, h3⟩ := h
  exact ⟨D, ⟨es, clock, (hb.block b hB).trans h1, h2⟩, h3⟩
theorem MapIs.size_le {w : World} {b n s : Nat} {M : Key → Option Int} (h : MapIs w b n M s) : s ≤ n := by
  obtain ⟨D, h1, h2, _⟩ := h
  rw [← h2]
  exact h1.size_le
theorem MapIs.mono {w : World} {b n n' s : Nat} {M : Key → Option Int} (h : MapIs w b n M s) (hn : n ≤ n') : MapIs w b n' M s := by
  obtain ⟨D, h1, h2⟩ := h
  exact ⟨D, h1.mono hn, h2⟩

theorem u64_inj {a b : Int} (h : (DataW.lit (.int .u64 a) : DataW Unit) = .lit (.int .u64 b)) : a = b := by simpa using h

/-- 'v, ok := m[k]'. -/
theorem MapIs.look_ok {w : World} {b n s : Nat} {M : Key → Option Int} (h : MapIs w b n M s) (t : TypeId) (ht : Trym.prog.underlying t = some (.map 9 23)) (x : ByteArray) (hx : x.size ≤ maxLen) :
    (Instr.lookup t (.map (some b)) (.string x) true).run Trym.prog w = .ok (.tuple #[.int .u64 ((M x.data.toList).getD 0), .bool (M x.data.toList).isSome]) w := by
  obtain ⟨D, h1, h2, h3⟩ := h
  obtain ⟨v, ps, hrun, hv⟩ := h1.look_ok law ht (zeroE w) (plainElem_int Trym.underlying23 (by decide)) (keyOf_string_mk Trym.underlying9 hx)
  obtain ⟨c, rfl, hc, hwc⟩ := plainElem_int_inv Trym.underlying23 hv
  have hc1 := congrArg Prod.fst hc
  rw [(h3 x.data.toList).2] at hc1
  rw [hrun, (h3 x.data.toList).1, u64_inj hc1]

/-- 'm[k]'. -/
theorem MapIs.look {w : World} {b n s : Nat} {M : Key → Option Int} (h : MapIs w b n M s) (t : TypeId) (ht : Trym.prog.underlying t = some (.map 9 23)) (x : ByteArray) (hx : x.size ≤ maxLen) :
    (Instr.lookup t (.map (some b)) (.string x) false).run Trym.prog w = .ok (.int .u64 ((M x.data.toList).getD 0)) w := by
  obtain ⟨D, h1, h2, h3⟩ := h
  obtain ⟨c, hrun, hat, _⟩ := h1.lookup_int law ht Trym.underlying23 (zeroE w) (keyOf_string_mk Trym.underlying9 hx)
  rw [(h3 x.data.toList).2] at hat
  rw [hrun, u64_inj hat]

/-- 'len(m)'. -/
theorem MapIs.len {w : World} {b n s : Nat} {M : Key → Option Int} (h : MapIs w b n M s) (t : TypeId) (ht : Trym.prog.underlying t = some (.map 9 23)) (ty : TypeId) :
    (Builtin.len_ #[t] ty #[.map (some b)]).run Trym.prog w = .ok (.int .i64 s) w := by
  obtain ⟨D, h1, h2, h3⟩ := h
  rw [h1.len ht ty, h2]

/-- 'm[k] = v'. -/
theorem MapIs.update {w : World} {b n s : Nat} {M : Key → Option Int} (h : MapIs w b n M s) (t : TypeId) (ht : Trym.prog.underlying t = some (.map 9 23)) (hn : n < maxLen) (x : ByteArray) (hx : x.size ≤ maxLen) (v : Int) (hv : (Lit.int .u64 v).wf = true) :
    ∃ w', (Instr.mapUpdate t (.map (some b)) (.string x) (.int .u64 v)).run Trym.prog w = .ok () w' ∧ MapIs w' b (n + 1) (setM M x.data.toList v) (setS M x.data.toList s) ∧ w.grownBy w' (some b) := by
  obtain ⟨D, h1, h2, h3⟩ := h
  obtain ⟨w', hrun, h4, h5⟩ := h1.update law ht hn (keyOf_string_mk Trym.underlying9 hx) (plainElem_int Trym.underlying23 hv)
  refine ⟨w', hrun, ⟨_, h4, ?_, fun k => ?_⟩, h5⟩
  · rw [size_put (h1.tidy law), (h3 x.data.toList).1, h2]
    rfl
  · by_cases hk : k = x.data.toList
    · subst hk
      have hk : WideAt.IsKeyLit (.string x.data.toList) := trivial
      rw [has_put_same h1.isMap hk, atKey_put_same h1.isMap hk, setM_same]
      exact ⟨rfl, rfl⟩
    · have hne : (Lit.string k) ≠ .string x.data.toList := by intro e; exact hk (by injection e)
      rw [has_put_other hne, atKey_put_other hne, setM_other _ _ _ _ hk]
      exact h3 k
end Go.Proofs.Qxb6604574aMods
