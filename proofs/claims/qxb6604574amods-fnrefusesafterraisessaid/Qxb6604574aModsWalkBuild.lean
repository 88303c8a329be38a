/-
  THE WALK of 'buildFences' (10): for each holder the epoch of its last fence.
-/
import Derived.Test.Qxb6604574aModsWalkCopy
import Derived.RegionTactic
import Derived.ChangeAlike
namespace Go.Proofs.Qxb6604574aMods
open Go.RowKit Go.Maps

def buildM (S : Nat → ByteArray) (E : Nat → Int) : Nat → Key → Option Int
  | 0 => fun _ => none
  | k + 1 => setM (buildM S E k) (S k).data.toList (E k)

def buildS (S : Nat → ByteArray) (E : Nat → Int) : Nat → Nat
  | 0 => 0
  | k + 1 => setS (buildM S E k) (S k).data.toList (buildS S E k)

set_option maxHeartbeats 1000000 in
theorem build_walk (a : Option Addr) (n c : Nat) (S : Nat → ByteArray) (E : Nat → Int) (w : World) (hn : n ≤ 1048576) (hf : Fences w a n S E) (hS : ∀ i, i < n → (S i).size ≤ maxLen) (hE : ∀ i, i < n → (Lit.int .u64 (E i)).wf = true) :
    Calls Trym.prog 10 #[.slice a n c] w fun r w' => r = .returned (.map (some w.heap.size)) ∧ MapIs w' w.heap.size n (buildM S E n) (buildS S E n) ∧ Below w.heap.size w w' := by
  have hmm := @run_makeMap Trym.prog
  have HF := hid hf
  have HS := hid hS
  have HE := hid hE
  clear hf hS hE
  go_enter Trym.func10, Trym.ntmps10
  go_wp2
  go_loopw [4] (fun i wr => ∃ k : Nat, k ≤ n ∧ i = .int .i64 k ∧ Hid (MapIs wr w.heap.size k (buildM S E k) (buildS S E k) ∧ Below w.heap.size w wr)) (fun i _ => n - (intOf i).toNat)
  case atStart => exact ⟨0, Nat.zero_le _, rfl, ⟨mapIs_made w, (Below.refl _ _).alloc (Nat.le_refl _) _⟩⟩
  case round =>
    clear hmm
    obtain ⟨k, hk, rfl, HR⟩ := hrel
    by_cases hlt : k < n
    · rcases HF.out with h0 | ⟨b, off, rfl, hb, hcells⟩
      · omega
      have hc0 : wr.cell? ⟨b, off + k * 2, none⟩ = some (.string (S k)) := (HR.out.2.cell hb).trans (hcells k hlt).1
      have hc1 : wr.cell? ⟨b, off + k * 2 + 1, none⟩ = some (.int .u64 (E k)) := (HR.out.2.cell hb).trans (hcells k hlt).2
      obtain ⟨w2, hrun, hm2, hg2⟩ := HR.out.1.drew.update 27 Trym.underlying27 (by unfold maxLen; omega) (S k) (HS.out k hlt) (E k) (HE.out k hlt)
      have RN : Hid (MapIs w2 w.heap.size (k + 1) (buildM S E (k + 1)) (buildS S E (k + 1)) ∧ Below w.heap.size w w2) := ⟨hm2, HR.out.2.drew.grown hg2 HR.out.2.size (fun j hj => by cases hj; exact Nat.le_refl _)⟩
      have hlti : (k : Int) < (n : Int) := by omega
      clear hcells hm2 hg2 HR
      go_wp2
      go_region
      go_wp2
      go_roundw
      case rel => exact ⟨k + 1, by omega, by go_num, RN⟩
      case measure => simp [intOf]; omega
    · have hkn : k = n := by omega
      subst hkn
      go_wp2
      go_ret
      exact ⟨rfl, HR.out.1, HR.out.2⟩
end Go.Proofs.Qxb6604574aMods
