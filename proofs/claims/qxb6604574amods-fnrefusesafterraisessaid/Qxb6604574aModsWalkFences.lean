/-
  THE WALKS over a slice of fences: the length guards (7, 12, 14), 'fenceBytes' (8), 'copyFences' (9), 'buildFences' (10).
-/
import Derived.Test.Qxb6604574aModsWalkRaise
import Derived.Deep.OwnRows
namespace Go.Proofs.Qxb6604574aMods
open Go.RowKit Go.Maps

/-- What the walk is told of a slice of fences: its holders S, its epochs E. -/
def Fences (w : World) (a : Option Addr) (n : Nat) (S : Nat → ByteArray) (E : Nat → Int) : Prop :=
  n = 0 ∨ ∃ b off, a = some ⟨b, off, none⟩ ∧ b < w.heap.size ∧ ∀ i, i < n → w.cell? ⟨b, off + i * 2, none⟩ = some (.string (S i)) ∧ w.cell? ⟨b, off + i * 2 + 1, none⟩ = some (.int .u64 (E i))

/-- Some bool is answered. -/
def AnyBool (r : Ending) : Prop := ∃ z, r = .returned (.bool z)

set_option maxHeartbeats 400000 in
theorem bytes_walk (a : Option Addr) (n c : Nat) (S : Nat → ByteArray) (E : Nat → Int) (w : World) (hn : n ≤ 1048576) (hf : Fences w a n S E) (hS : ∀ i, i < n → (S i).size ≤ maxLen) :
    Calls Trym.prog 8 #[.slice a n c] w fun r w' => (∃ z, r = .returned (.int .i64 z)) ∧ w = w' := by
  have HF := hid hf
  have HS := hid hS
  clear hf hS
  go_enter Trym.func8, Trym.ntmps8
  go_wp2
  go_loop [3, 4] (fun t i => ∃ k : Nat, ∃ z : Int, k ≤ n ∧ i = .int .i64 k ∧ t = .int .i64 z) (fun _ i => n - (intOf i).toNat)
  case atStart => exact ⟨0, 0, Nat.zero_le _, rfl, rfl⟩
  case round =>
    obtain ⟨k, z, hk, rfl, rfl⟩ := hrel
    by_cases hlt : k < n
    · rcases HF.out with h0 | ⟨b, off, rfl, hb, hcells⟩
      · omega
      have hc0 := (hcells k hlt).1
      have hsz := HS.out k hlt
      unfold maxLen at hsz
      clear hcells
      go_wp2
      · go_ret
        exact ⟨⟨_, rfl⟩, rfl⟩
      · go_ret
        exact ⟨⟨_, rfl⟩, rfl⟩
      · go_round
        case rel => exact ⟨k + 1, _, by omega, by go_num, rfl⟩
        case measure => simp [intOf]; omega
    · go_wp2
      go_ret
      exact ⟨⟨_, rfl⟩, rfl⟩

set_option maxHeartbeats 400000 in
theorem guard7 (a : Option Addr) (n c : Nat) (x : ByteArray) (e : Int) (S : Nat → ByteArray) (E : Nat → Int) (w : World) (hn : n ≤ maxLen) (_hx : x.size ≤ maxLen) (hf : Fences w a n S E) (hS : ∀ i, i < n → (S i).size ≤ maxLen) :
    Calls Trym.prog 7 #[.slice a n c, .string x, .int .u64 e] w fun r w' => AnyBool r ∧ w = w' := by
  have HF := hid hf
  have HS := hid hS
  clear hf hS
  unfold maxLen at hn
  by_cases hbig : n ≤ 1048576
  · have h1 : decide ((1048576 : Int) < (n : Int)) = false := decide_eq_false (by omega)
    go_enter Trym.func7, Trym.ntmps7
    go_wp2
    go_loop [7, 8] (fun t i => ∃ k : Nat, ∃ z : Int, k ≤ n ∧ i = .int .i64 k ∧ t = .int .i64 z) (fun _ i => n - (intOf i).toNat)
    case atStart => exact ⟨0, _, Nat.zero_le _, rfl, rfl⟩
    case round =>
      obtain ⟨k, z, hk, rfl, rfl⟩ := hrel
      by_cases hlt : k < n
      · rcases HF.out with h0 | ⟨b, off, rfl, hb, hcells⟩
        · omega
        have hc0 := (hcells k hlt).1
        have hsz := HS.out k hlt
        unfold maxLen at hsz
        clear hcells
        go_wp2
        · go_ret
          exact ⟨⟨_, rfl⟩, rfl⟩
        · go_ret
          exact ⟨⟨_, rfl⟩, rfl⟩
        · go_round
          case rel => exact ⟨k + 1, _, by omega, by go_num, rfl⟩
          case measure => simp [intOf]; omega
      · go_wp2
        all_goals (go_ret; exact ⟨⟨_, rfl⟩, rfl⟩)
  · have h1 : decide ((1048576 : Int) < (n : Int)) = true := decide_eq_true (by omega)
    go_enter Trym.func7, Trym.ntmps7
    go_wp2
    go_ret
    exact ⟨⟨_, rfl⟩, rfl⟩

set_option maxHeartbeats 400000 in
theorem guard12 (a : Option Addr) (n c : Nat) (x : ByteArray) (e : Int) (S : Nat → ByteArray) (E : Nat → Int) (w : World) (hn : n ≤ maxLen) (_hx : x.size ≤ maxLen) (hf : Fences w a n S E) (hS : ∀ i, i < n → (S i).size ≤ maxLen) :
    Calls Trym.prog 12 #[.slice a n c, .string x, .int .u64 e] w fun r w' => AnyBool r ∧ w = w' := by
  have HF := hid hf
  have HS := hid hS
  clear hf hS
  unfold maxLen at hn
  by_cases hbig : n ≤ 1048576
  · have h1 : decide ((1048576 : Int) < (n : Int)) = false := decide_eq_false (by omega)
    go_enter Trym.func12, Trym.ntmps12
    go_wp2
    go_loop [7, 8] (fun t i => ∃ k : Nat, ∃ z : Int, k ≤ n ∧ i = .int .i64 k ∧ t = .int .i64 z) (fun _ i => n - (intOf i).toNat)
    case atStart => exact ⟨0, _, Nat.zero_le _, rfl, rfl⟩
    case round =>
      obtain ⟨k, z, hk, rfl, rfl⟩ := hrel
      by_cases hlt : k < n
      · rcases HF.out with h0 | ⟨b, off, rfl, hb, hcells⟩
        · omega
        have hc0 := (hcells k hlt).1
        have hsz := HS.out k hlt
        unfold maxLen at hsz
        clear hcells
        go_wp2
        · go_ret
          exact ⟨⟨_, rfl⟩, rfl⟩
        · go_ret
          exact ⟨⟨_, rfl⟩, rfl⟩
        · go_round
          case rel => exact ⟨k + 1, _, by omega, by go_num, rfl⟩
          case measure => simp [intOf]; omega
      · go_wp2
        all_goals (go_ret; exact ⟨⟨_, rfl⟩, rfl⟩)
  · have h1 : decide ((1048576 : Int) < (n : Int)) = true := decide_eq_true (by omega)
    go_enter Trym.func12, Trym.ntmps12
    go_wp2
    go_ret
    exact ⟨⟨_, rfl⟩, rfl⟩

set_option maxHeartbeats 400000 in
theorem guard14 (a : Option Addr) (n c : Nat) (x : ByteArray) (e : Int) (S : Nat → ByteArray) (E : Nat → Int) (w : World) (hn : n ≤ maxLen) (_hx : x.size ≤ maxLen) (hf : Fences w a n S E) (hS : ∀ i, i < n → (S i).size ≤ maxLen) :
    Calls Trym.prog 14 #[.slice a n c, .string x, .int .u64 e] w fun r w' => AnyBool r ∧ w = w' := by
  have HF := hid hf
  have HS := hid hS
  clear hf hS
  unfold maxLen at hn
  by_cases hbig : n ≤ 1048576
  · have h1 : decide ((1048576 : Int) < (n : Int)) = false := decide_eq_false (by omega)
    go_enter Trym.func14, Trym.ntmps14
    go_wp2
    go_loop [7, 8] (fun t i => ∃ k : Nat, ∃ z : Int, k ≤ n ∧ i = .int .i64 k ∧ t = .int .i64 z) (fun _ i => n - (intOf i).toNat)
    case atStart => exact ⟨0, _, Nat.zero_le _, rfl, rfl⟩
    case round =>
      obtain ⟨k, z, hk, rfl, rfl⟩ := hrel
      by_cases hlt : k < n
      · rcases HF.out with h0 | ⟨b, off, rfl, hb, hcells⟩
        · omega
        have hc0 := (hcells k hlt).1
        have hsz := HS.out k hlt
        unfold maxLen at hsz
        clear hcells
        go_wp2
        · go_ret
          exact ⟨⟨_, rfl⟩, rfl⟩
        · go_ret
          exact ⟨⟨_, rfl⟩, rfl⟩
        · go_round
          case rel => exact ⟨k + 1, _, by omega, by go_num, rfl⟩
          case measure => simp [intOf]; omega
      · go_wp2
        all_goals (go_ret; exact ⟨⟨_, rfl⟩, rfl⟩)
  · have h1 : decide ((1048576 : Int) < (n : Int)) = true := decide_eq_true (by omega)
    go_enter Trym.func14, Trym.ntmps14
    go_wp2
    go_ret
    exact ⟨⟨_, rfl⟩, rfl⟩
end Go.Proofs.Qxb6604574aMods
