/-
  THE WALKS of the callees: 'holders' (17), 'ZZHolders' (14), 'ZZNewOwnMatches' (15), 'cloneInts' (13), the length guard (12).
-/
import Derived.Test.Qxb6604646aModsRows
import Derived.WalkKit
import Derived.ProofKit
import Derived.WalkSpells
import Derived.Deep.OwnRows
import Derived.Below
namespace Go.Proofs.Qxb6604646aMods
open Go.RowKit

/-- The sum of the first n, as the loop reckons it: each step wraps. -/
def sumTo (f : Nat → Int) : Nat → Int
  | 0 => 0
  | n + 1 => wrap64 (sumTo f n + f n)

theorem ret_int {k : IntKind} {a b : Int} (h : a = b) : Ending.returned (.int k a) = .returned (.int k b) := by rw [h]

theorem ret_bool {a b : Bool} (h : a = b) : Ending.returned (.bool a) = .returned (.bool b) := by rw [h]

set_option maxHeartbeats 400000 in
/-- '(*ownMatches).holders' over a row of n numbers. -/
theorem holders_any (p : Nat) (b off n c : Nat) (f : Nat → Int) (w : World) (hn : n ≤ 1048576) (hp : w.cell? ⟨p, 4, none⟩ = some (.slice (some ⟨b, off, none⟩) n c))
    (hc : ∀ i, i < n → w.cell? ⟨b, off + i, none⟩ = some (.int .i64 (f i))) :
    Calls Trym.prog 17 #[.pointer (some ⟨p, 0, none⟩)] w fun e w' => e = .returned (.int .i64 (sumTo f n)) ∧ w = w' := by
  go_enter Trym.func17, Trym.ntmps17
  go_wp2
  go_loop [3, 11] (fun s i => ∃ k : Nat, k ≤ n ∧ i = .int .i64 k ∧ s = .int .i64 (sumTo f k)) (fun _ i => n - (intOf i).toNat)
  case atStart => exact ⟨0, Nat.zero_le _, rfl, rfl⟩
  case round =>
    obtain ⟨k, hk, rfl, rfl⟩ := hrel
    by_cases hlt : k < n
    · have hck := hc k hlt
      clear hc
      go_wp2
      go_round
      case rel => exact ⟨k + 1, by omega, by go_num, rfl⟩
      case measure => simp [intOf]; omega
    · have : k = n := by omega
      subst this
      go_wp2
      go_ret
      exact ⟨rfl, rfl⟩

set_option maxHeartbeats 400000 in
/-- .. over no number at all. -/
theorem holders_none (p : Nat) (a : Option Addr) (c : Nat) (f : Nat → Int) (w : World) (hp : w.cell? ⟨p, 4, none⟩ = some (.slice a 0 c)) :
    Calls Trym.prog 17 #[.pointer (some ⟨p, 0, none⟩)] w fun e w' => e = .returned (.int .i64 (sumTo f 0)) ∧ w = w' := by
  go_enter Trym.func17, Trym.ntmps17
  go_wp2
  refine wp_loop_rounds 1 ?_
  rw [rounds_succ]
  go_wp2
  go_ret
  exact ⟨rfl, rfl⟩

theorem newown_any (a : Option Addr) (n c : Nat) (w : World) :
    Calls Trym.prog 15 #[.slice a n c] w fun e w' => ∃ p, e = .returned (.pointer (some ⟨p, 0, none⟩)) ∧ w'.cell? ⟨p, 4, none⟩ = some (.slice a n c) ∧ Below w.heap.size w w' := by
  go_enter Trym.func15, Trym.ntmps15
  go_wp2
  go_ret
  exact ⟨_, rfl, by simp [go_sem], (Below.refl _ _).alloc (Nat.le_refl _) _⟩

/-- What a slice value of n numbers is good for. -/
def Nums (w : World) (a : Option Addr) (n : Nat) (f : Nat → Int) : Prop :=
  n = 0 ∨ ∃ b off, a = some ⟨b, off, none⟩ ∧ ∀ i, i < n → w.cell? ⟨b, off + i, none⟩ = some (.int .i64 (f i))

theorem zzholders_any (p : Nat) (a : Option Addr) (n c : Nat) (f : Nat → Int) (w : World) (hn : n ≤ 1048576) (hp : w.cell? ⟨p, 4, none⟩ = some (.slice a n c)) (hr : Nums w a n f) :
    Calls Trym.prog 14 #[.pointer (some ⟨p, 0, none⟩)] w fun e w' => e = .returned (.int .i64 (sumTo f n)) ∧ w = w' := by
  rcases hr with rfl | ⟨b, off, rfl, hc⟩
  · have H : Hid (Calls Trym.prog 17 #[.pointer (some ⟨p, 0, none⟩)] w fun e w' => e = .returned (.int .i64 (sumTo f 0)) ∧ w = w') := holders_none p a c f w hp
    clear hp
    go_enter Trym.func14, Trym.ntmps14
    go_wp2_with (go_at_call 17; refine H.out.mono ?_; rintro e w' ⟨rfl, rfl⟩)
    go_ret
    exact ⟨rfl, rfl⟩
  · have H : Hid (Calls Trym.prog 17 #[.pointer (some ⟨p, 0, none⟩)] w fun e w' => e = .returned (.int .i64 (sumTo f n)) ∧ w = w') := holders_any p b off n c f w hn hp hc
    clear hp hc
    go_enter Trym.func14, Trym.ntmps14
    go_wp2_with (go_at_call 17; refine H.out.mono ?_; rintro e w' ⟨rfl, rfl⟩)
    go_ret
    exact ⟨rfl, rfl⟩

theorem guard_any (a : Option Addr) (n c : Nat) (d : Int) (w : World) (hn : n ≤ maxLen) :
    Calls Trym.prog 12 #[.slice a n c, .int .i64 d] w fun e w' => e = .returned (.bool (decide (n ≤ 1048576))) ∧ w = w' := by
  unfold maxLen at hn
  by_cases h : n ≤ 1048576
  · have h1 : ¬ (1048576 : Int) < (n : Int) := by omega
    go_enter Trym.func12, Trym.ntmps12
    go_wp2
    go_ret
    exact ⟨rfl, rfl⟩
  · have h1 : (1048576 : Int) < (n : Int) := by omega
    go_enter Trym.func12, Trym.ntmps12
    go_wp2
    go_ret
    exact ⟨ret_bool (decide_eq_false h).symm, rfl⟩

theorem size_setCell (w : World) (a : Addr) (v : Value) : (w.setCell a v).heap.size = w.heap.size := by simp [World.setCell]

theorem Trym.info3 : (Trym.prog.info? 3).map (fun i => (i.zero, i.size, i.bytes)) = some (some (.int .i64 0), 1, 8) := by kernel_rfl

theorem clone_nil (w : World) : Calls Trym.prog 13 #[.slice none 0 0] w fun e w' => e = .returned (.slice none 0 0) ∧ w = w' := by
  have hq : ∀ (w : World) (a : Option Addr) (n c n' c' : Nat), (binOp .eql 67 (.slice a n c) (.slice none n' c')).run Trym.prog w = .ok (.bool a.isNone) w := fun w a n c n' c' => Lib.run_eql_slice_nil w _ _ a n c n' c' Trym.underlying67
  go_enter Trym.func13, Trym.ntmps13
  go_wp2
  go_ret
  exact ⟨rfl, rfl⟩

set_option maxHeartbeats 400000 in
/-- 'cloneInts' of a slice that is not nil: a new row of just these numbers. -/
theorem clone_any (x : Addr) (n c : Nat) (f : Nat → Int) (w : World) (hn : n ≤ 1048576) (hx : 0 < n → x.spot = none) (hb : 0 < n → x.block < w.heap.size) (hc : ∀ i, i < n → w.cell? ⟨x.block, x.off + i, none⟩ = some (.int .i64 (f i))) :
    Calls Trym.prog 13 #[.slice (some x) n c] w fun e w' => e = .returned (.slice (some ⟨w.heap.size, 0, none⟩) n n) ∧ w'.rowIs w.heap.size 3 n (fun i => .int .i64 (f i)) ∧ w'.heap.size = w.heap.size + 1 ∧ Below w.heap.size w w' := by
  obtain ⟨b, off, spot⟩ := x
  have hmk := run_make_row' (P := Trym.prog) 67 3 (.int .i64 0) 8 Trym.underlying67 Trym.info3 rfl .i64 .i64 n (by omega) (by omega)
  have hq : ∀ (w : World) (a : Option Addr) (n c n' c' : Nat), (binOp .eql 67 (.slice a n c) (.slice none n' c')).run Trym.prog w = .ok (.bool a.isNone) w := fun w a n c n' c' => Lib.run_eql_slice_nil w _ _ a n c n' c' Trym.underlying67
  go_enter Trym.func13, Trym.ntmps13
  go_wp2
  go_loopw [4] (fun i wr => ∃ k : Nat, k ≤ n ∧ i = .int .i64 k ∧ wr.rowIs w.heap.size 3 n (fun i => if i < k then .int .i64 (f i) else .int .i64 0) ∧ wr.heap.size = w.heap.size + 1 ∧ Below w.heap.size w wr) (fun i _ => n - (intOf i).toNat)
  case atStart => exact ⟨0, Nat.zero_le _, rfl, by simpa using World.rowIs_made w (.int .i64 0) n 3, by simp, (Below.refl _ _).alloc (Nat.le_refl _) _⟩
  case round =>
    obtain ⟨k, hk, rfl, hrow, hsz, hbel⟩ := hrel
    by_cases hlt : k < n
    · have hs : spot = none := hx (by omega)
      subst hs
      have hck : wr.cell? ⟨b, off + k, none⟩ = some (.int .i64 (f k)) := (hbel.cell (hb (by omega))).trans (hc k hlt)
      obtain ⟨v, hv⟩ : ∃ v, wr.cell? ⟨w.heap.size, k, none⟩ = some v := ⟨_, hrow.cell hlt⟩
      have hfz := hrow.frozen k
      have R1 : Hid ((wr.setCell ⟨w.heap.size, k, none⟩ (.int .i64 (f k))).rowIs w.heap.size 3 n (fun i => if i < k + 1 then .int .i64 (f i) else .int .i64 0)) := by
        refine (hrow.set k (.int .i64 (f k))).congr ?_
        intro i hi
        by_cases h1 : i = k
        · subst h1; simp
        · rw [if_neg h1]
          by_cases h2 : i < k
          · rw [if_pos h2, if_pos (by omega)]
          · rw [if_neg h2, if_neg (by omega)]
      have R2 : Hid (Below w.heap.size w (wr.setCell ⟨w.heap.size, k, none⟩ (.int .i64 (f k)))) := hbel.setCell (Nat.le_refl _) _
      have R3 : Hid ((wr.setCell ⟨w.heap.size, k, none⟩ (.int .i64 (f k))).heap.size = w.heap.size + 1) := (size_setCell _ _ _).trans hsz
      have HS : Hid (wr.heap.size = w.heap.size + 1) := hsz
      clear hc hsz hrow hbel hmk
      go_wp2
      go_roundw
      case rel => exact ⟨k + 1, by omega, by go_num, R1.out, R3.out, R2.out⟩
      case measure => simp [intOf]; omega
    · have hkn : k = n := by omega
      subst hkn
      clear hmk hc
      go_wp2
      go_ret
      exact ⟨rfl, hrow.congr (fun i hi => by rw [if_pos hi]), hsz, hbel⟩

/-- 'cloneInts', whatever came in. -/
def CameIn (w : World) (a : Option Addr) (n c : Nat) (f : Nat → Int) : Prop :=
  (a = none ∧ n = 0 ∧ c = 0) ∨ ∃ x : Addr, a = some x ∧ (0 < n → x.spot = none) ∧ (0 < n → x.block < w.heap.size) ∧ ∀ i, i < n → w.cell? ⟨x.block, x.off + i, none⟩ = some (.int .i64 (f i))

/-- A slice value that owns a row of its own of n numbers. -/
def Own (w : World) (a : Option Addr) (n : Nat) (f : Nat → Int) (N : Nat) : Prop :=
  n = 0 ∨ ∃ b, a = some ⟨b, 0, none⟩ ∧ b < N ∧ w.rowIs b 3 n (fun i => .int .i64 (f i))

theorem clone_all (a : Option Addr) (n c : Nat) (f : Nat → Int) (w : World) (hn : n ≤ 1048576) (hc : CameIn w a n c f) :
    Calls Trym.prog 13 #[.slice a n c] w fun e w' => ∃ a', e = .returned (.slice a' n n) ∧ Own w' a' n f w'.heap.size ∧ Below w.heap.size w w' := by
  rcases hc with ⟨rfl, rfl, rfl⟩ | ⟨x, rfl, h1, h2, h3⟩
  · refine (clone_nil w).mono ?_
    rintro e w' ⟨rfl, rfl⟩
    exact ⟨none, rfl, .inl rfl, Below.refl _ _⟩
  · refine (clone_any x n c f w hn h1 h2 h3).mono ?_
    rintro e w' ⟨rfl, hr, hs, hb⟩
    exact ⟨_, rfl, .inr ⟨_, rfl, by omega, hr⟩, hb⟩
end Go.Proofs.Qxb6604646aMods
