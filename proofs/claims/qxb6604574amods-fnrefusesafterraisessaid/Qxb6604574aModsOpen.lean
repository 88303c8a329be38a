/-
  HOW A SLICE OF FENCES THAT CAME IN IS OPENED: what the walks are told of it.
-/
import Derived.Test.Qxb6604574aModsWalkFences
import Derived.Deep.SlicePairs
namespace Go.Proofs.Qxb6604574aMods
open Go.RowKit Go.Deep Go.ChangeShapes Go.WideShapes Go.ChangeAt

theorem Trym.cells33 : Trym.prog.cellsOf 33 = 2 := by kernel_rfl
theorem Trym.cells9 : Trym.prog.cellsOf 9 = 1 := by kernel_rfl
theorem Trym.cells23 : Trym.prog.cellsOf 23 = 1 := by kernel_rfl

def strOf : Value → ByteArray
  | .string s => s
  | _ => ByteArray.empty
def numOf : Value → Int
  | .int _ n => n
  | _ => 0

/-- What is told of the argument. -/
def Told (W : World) (a : Option Addr) (len cap : Nat) (S : Nat → ByteArray) (E : Nat → Int) : Prop :=
  len ≤ maxLen ∧ (a = none → len = 0 ∧ cap = 0) ∧ Fences W a len S E ∧ (∀ i, i < len → (S i).size ≤ maxLen) ∧ ∀ i, i < len → (Lit.int .u64 (E i)).wf = true

theorem open_fences {H : Type} {enc : TypeId × Value → H} {W : World} {base : Nat} {spare : Nat → Bool} {held : Bool} {fuel : Nat} {a : Option Addr} {len cap : Nat} {x : DataW H × List MemPlace}
    (hf : DataW.trod enc Trym.prog W base spare held fuel 22 [.slice a len cap] = some x) : ∃ S E, Told W a len cap S E := by
  rcases open_slice_pairs Trym.underlying22 Trym.underlying33 Trym.cells33 rfl rfl Trym.cells9 Trym.cells23 hf with ⟨hcs, _⟩ | ⟨y, l, c, m, k, V0, V1, D0, D1, P0, P1, hcs, _, hl, hm, hmm, _, hall⟩
  · simp at hcs
    obtain ⟨rfl, rfl, rfl⟩ := hcs
    exact ⟨fun _ => ByteArray.empty, fun _ => 0, Nat.zero_le _, fun _ => ⟨rfl, rfl⟩, .inl rfl, fun i hi => by omega, fun i hi => by omega⟩
  · simp at hcs
    obtain ⟨rfl, rfl, rfl⟩ := hcs
    have hlm : len ≤ m := by rw [hmm]; split <;> omega
    have hv : ∀ i, i < len → (∃ s : ByteArray, V0 i = .string s ∧ s.size ≤ maxLen) ∧ ∃ n, V1 i = .int .u64 n ∧ (Lit.int .u64 n).wf = true := by
      intro i hi
      obtain ⟨_, _, h0, h1⟩ := hall i (by omega)
      constructor
      · obtain ⟨s, e0, _, hs⟩ := DataW.trod_string Trym.underlying9 h0
        simp at e0
        exact ⟨s, e0, hs⟩
      · obtain ⟨n, e0, _, hn⟩ := DataW.trod_int Trym.underlying23 h1
        simp at e0
        exact ⟨n, e0, hn⟩
    refine ⟨fun i => strOf (V0 i), fun i => numOf (V1 i), by omega, (fun e => by cases e), ?_, fun i hi => ?_, fun i hi => ?_⟩
    · by_cases h0 : len = 0
      · exact .inl h0
      · obtain ⟨b, off, spot⟩ := y
        have hs0 := World.cell?_spot (hall 0 (by omega)).1
        have hsp : spot = none := by simpa [Addr.add] using hs0
        subst hsp
        refine .inr ⟨b, off, rfl, ?_, fun i hi => ?_⟩
        · have := World.block_lt_of_cell? _ _ (hall 0 (by omega)).1
          rw [add_plain] at this
          exact this
        · obtain ⟨⟨s, e1, _⟩, n, e2, _⟩ := hv i hi
          have h1 := (hall i (by omega)).1
          have h2 := (hall i (by omega)).2.1
          rw [add_plain] at h1 h2
          rw [e1] at h1
          rw [e2] at h2
          show W.cell? ⟨b, off + i * 2, none⟩ = some (.string (strOf (V0 i))) ∧ W.cell? ⟨b, off + i * 2 + 1, none⟩ = some (.int .u64 (numOf (V1 i)))
          rw [e1, e2]
          exact ⟨h1, h2⟩
    · obtain ⟨⟨s, e1, hs⟩, _⟩ := hv i hi
      show (strOf (V0 i)).size ≤ maxLen
      rw [e1]
      exact hs
    · obtain ⟨_, n, e2, hn⟩ := hv i hi
      show (Lit.int .u64 (numOf (V1 i))).wf = true
      rw [e2]
      exact hn
end Go.Proofs.Qxb6604574aMods
