/-
  THE WALK of 'copyFences' (9): a new row of the same fences.
-/
import Derived.Test.Qxb6604574aModsWalkFences
namespace Go.Proofs.Qxb6604574aMods
open Go.RowKit Go.Maps

theorem Trym.info33 : (Trym.prog.info? 33).map (fun i => (i.zero, i.size, i.bytes)) = some (some (.agg #[.string ⟨#[]⟩, .int .u64 0]), 2, 24) := by kernel_rfl

theorem make_eq (n : Nat) (hn : n ≤ 1048576) : ∃ C : Array Value, C.size = n * 2 ∧ ∀ w, (Instr.makeSlice 22 (.int .i64 (n : Int)) (.int .i64 (n : Int))).run Trym.prog w = .ok (.slice (some ⟨w.heap.size, 0, none⟩) n n) (w.alloc (.cells C 33)) := by
  obtain ⟨i0, hi, hz0, hz1, hz2⟩ := info_parts Trym.info33
  refine ⟨madeCells (Value.cells (.agg #[.string ⟨#[]⟩, .int .u64 0])) (n * 2), size_madeCells _ _, fun w => ?_⟩
  have h := run_make (P := Trym.prog) w 22 33 i0 _ Trym.underlying22 hi hz0 .i64 .i64 (n : Int) (n : Int) (by omega) (Int.le_refl _) (by rw [hz2]; omega) (by omega)
  rw [Int.toNat_natCast, hz1] at h
  exact h

/-- The cells of fences laid one behind the other. -/
def pairV (S : Nat → ByteArray) (E : Nat → Int) (i : Nat) : Value := if i % 2 = 0 then .string (S (i / 2)) else .int .u64 (E (i / 2))

/-- The first k fences are laid. -/
def upto (C : Array Value) (S : Nat → ByteArray) (E : Nat → Int) (k i : Nat) : Value := if i < k * 2 then pairV S E i else C[i]?.getD undef

theorem size_setCell (w : World) (a : Addr) (v : Value) : (w.setCell a v).heap.size = w.heap.size := by simp [World.setCell]

theorem upto_step {C : Array Value} {S : Nat → ByteArray} {E : Nat → Int} {w wr : World} {n k : Nat} (h : wr.rowIs w.heap.size 33 (n * 2) (upto C S E k) ∧ wr.heap.size = w.heap.size + 1 ∧ Below w.heap.size w wr) :
    ((wr.setCell ⟨w.heap.size, k * 2, none⟩ (.string (S k))).setCell ⟨w.heap.size, k * 2 + 1, none⟩ (.int .u64 (E k))).rowIs w.heap.size 33 (n * 2) (upto C S E (k + 1)) ∧
    ((wr.setCell ⟨w.heap.size, k * 2, none⟩ (.string (S k))).setCell ⟨w.heap.size, k * 2 + 1, none⟩ (.int .u64 (E k))).heap.size = w.heap.size + 1 ∧
    Below w.heap.size w ((wr.setCell ⟨w.heap.size, k * 2, none⟩ (.string (S k))).setCell ⟨w.heap.size, k * 2 + 1, none⟩ (.int .u64 (E k))) := by
  obtain ⟨h1, h2, h3⟩ := h
  refine ⟨((h1.set (k * 2) _).set (k * 2 + 1) _).congr (fun i hi => ?_), by rw [size_setCell, size_setCell]; exact h2, (h3.setCell (Nat.le_refl _) _).setCell (Nat.le_refl _) _⟩
  unfold upto
  by_cases e1 : i = k * 2 + 1
  · subst e1
    rw [if_pos rfl, if_pos (by omega)]
    unfold pairV
    rw [if_neg (by omega), show (k * 2 + 1) / 2 = k by omega]
  · rw [if_neg e1]
    by_cases e0 : i = k * 2
    · subst e0
      rw [if_pos rfl, if_pos (by omega)]
      unfold pairV
      rw [if_pos (by omega), show k * 2 / 2 = k by omega]
    · rw [if_neg e0]
      by_cases e2 : i < k * 2
      · rw [if_pos e2, if_pos (by omega)]
      · rw [if_neg e2, if_neg (by omega)]

theorem upto_start (C : Array Value) (S : Nat → ByteArray) (E : Nat → Int) (w : World) (n : Nat) (hC : C.size = n * 2) :
    (w.alloc (.cells C 33)).rowIs w.heap.size 33 (n * 2) (upto C S E 0) ∧ (w.alloc (.cells C 33)).heap.size = w.heap.size + 1 ∧ Below w.heap.size w (w.alloc (.cells C 33)) := by
  refine ⟨?_, by simp, (Below.refl _ _).alloc (Nat.le_refl _) _⟩
  rw [← hC]
  refine World.rowIs_alloc w C 33 _ (fun i hi => ?_)
  unfold upto
  rw [if_neg (by omega), Array.getElem?_eq_getElem hi]
  rfl

theorem upto_end {C : Array Value} {S : Nat → ByteArray} {E : Nat → Int} {w : World} {b n : Nat} (h : w.rowIs b 33 (n * 2) (upto C S E n)) : w.rowIs b 33 (n * 2) (pairV S E) :=
  h.congr (fun i hi => by unfold upto; rw [if_pos hi])

theorem copy_nil (w : World) : Calls Trym.prog 9 #[.slice none 0 0] w fun r w' => r = .returned (.slice none 0 0) ∧ w = w' := by
  have hq : ∀ (w : World) (a : Option Addr) (n c n' c' : Nat), (binOp .eql 22 (.slice a n c) (.slice none n' c')).run Trym.prog w = .ok (.bool a.isNone) w := fun w a n c n' c' => Lib.run_eql_slice_nil w _ _ a n c n' c' Trym.underlying22
  go_enter Trym.func9, Trym.ntmps9
  go_wp2
  go_ret
  exact ⟨rfl, rfl⟩

set_option maxHeartbeats 400000 in
theorem copy_any (x : Addr) (n c : Nat) (S : Nat → ByteArray) (E : Nat → Int) (w : World) (hn : n ≤ 1048576) (hf : Fences w (some x) n S E) :
    Calls Trym.prog 9 #[.slice (some x) n c] w fun r w' => r = .returned (.slice (some ⟨w.heap.size, 0, none⟩) n n) ∧ w'.rowIs w.heap.size 33 (n * 2) (pairV S E) ∧ w'.heap.size = w.heap.size + 1 ∧ Below w.heap.size w w' := by
  obtain ⟨C, hC, hmk⟩ := make_eq n hn
  have hq : ∀ (w : World) (a : Option Addr) (n c n' c' : Nat), (binOp .eql 22 (.slice a n c) (.slice none n' c')).run Trym.prog w = .ok (.bool a.isNone) w := fun w a n c n' c' => Lib.run_eql_slice_nil w _ _ a n c n' c' Trym.underlying22
  have HF := hid hf
  have HC := hid hC
  clear hf hC
  go_enter Trym.func9, Trym.ntmps9
  go_wp2
  go_loopw [4] (fun i wr => ∃ k : Nat, k ≤ n ∧ i = .int .i64 k ∧ Hid (wr.rowIs w.heap.size 33 (n * 2) (upto C S E k) ∧ wr.heap.size = w.heap.size + 1 ∧ Below w.heap.size w wr)) (fun i _ => n - (intOf i).toNat)
  case atStart => exact ⟨0, Nat.zero_le _, rfl, upto_start C S E w n HC.out⟩
  case round =>
    obtain ⟨k, hk, rfl, HR⟩ := hrel
    by_cases hlt : k < n
    · rcases HF.out with h0 | ⟨b, off, hx, hb, hcells⟩
      · omega
      injection hx with hx
      subst hx
      have hc0 : wr.cell? ⟨b, off + k * 2, none⟩ = some (.string (S k)) := (HR.out.2.2.cell hb).trans (hcells k hlt).1
      have hc1 : wr.cell? ⟨b, off + k * 2 + 1, none⟩ = some (.int .u64 (E k)) := (HR.out.2.2.cell hb).trans (hcells k hlt).2
      obtain ⟨v0, hv0⟩ : ∃ v, wr.cell? ⟨w.heap.size, k * 2, none⟩ = some v := ⟨_, HR.out.1.cell (by omega)⟩
      obtain ⟨v1, hv1⟩ : ∃ v, wr.cell? ⟨w.heap.size, k * 2 + 1, none⟩ = some v := ⟨_, HR.out.1.cell (by omega)⟩
      have f0 := HR.out.1.frozen (k * 2)
      have f1 := HR.out.1.frozen (k * 2 + 1)
      clear hcells hmk
      have RN := hid (upto_step HR.out)
      clear HR
      go_wp2
      go_roundw
      case rel => exact ⟨k + 1, by omega, by go_num, RN⟩
      case measure => simp [intOf]; omega
    · have hkn : k = n := by omega
      subst hkn
      clear hmk
      go_wp2
      go_ret
      exact ⟨rfl, upto_end HR.out.1, HR.out.2.1, HR.out.2.2⟩

/-- A copy of its own: from block B on. -/
def OwnF (w : World) (a : Option Addr) (n : Nat) (S : Nat → ByteArray) (E : Nat → Int) : Prop :=
  n = 0 ∨ ∃ b, a = some ⟨b, 0, none⟩ ∧ w.rowIs b 33 (n * 2) (pairV S E)

theorem OwnF.fences {w : World} {a : Option Addr} {n : Nat} {S : Nat → ByteArray} {E : Nat → Int} (h : OwnF w a n S E) : Fences w a n S E := by
  rcases h with h | ⟨b, rfl, h⟩
  · exact .inl h
  · refine .inr ⟨b, 0, rfl, h.lt, fun i hi => ⟨?_, ?_⟩⟩
    · rw [Nat.zero_add, h.cell (by omega)]
      unfold pairV
      rw [if_pos (by omega), show i * 2 / 2 = i by omega]
    · rw [Nat.zero_add, h.cell (by omega)]
      unfold pairV
      rw [if_neg (by omega), show (i * 2 + 1) / 2 = i by omega]

theorem Fences.kept {w w' : World} {a : Option Addr} {n : Nat} {S : Nat → ByteArray} {E : Nat → Int} {row : Option Nat} (h : Fences w a n S E) (hg : w.grownBy w' row) (hne : ∀ k, row = some k → w.heap.size ≤ k) : Fences w' a n S E := by
  rcases h with h | ⟨b, off, h1, h2, h3⟩
  · exact .inl h
  · have hb : some b ≠ row := fun e => by have := hne b e.symm; omega
    exact .inr ⟨b, off, h1, Nat.lt_of_lt_of_le h2 hg.size, fun i hi => ⟨hg.cell (h3 i hi).1 hb, hg.cell (h3 i hi).2 hb⟩⟩

theorem Fences.below {w w' : World} {a : Option Addr} {n : Nat} {S : Nat → ByteArray} {E : Nat → Int} (h : Fences w a n S E) (hb : Below w.heap.size w w') : Fences w' a n S E :=
  h.kept (row := none) ⟨hb.os, hb.tape, hb.output, hb.size, fun i hi _ => hb.block i hi⟩ (fun _ e => by cases e)

/-- 'copyFences', whatever came in. -/
theorem copy_all (a : Option Addr) (n c : Nat) (S : Nat → ByteArray) (E : Nat → Int) (w : World) (hn : n ≤ 1048576) (hnil : a = none → n = 0 ∧ c = 0) (hf : Fences w a n S E) :
    Calls Trym.prog 9 #[.slice a n c] w fun r w' => ∃ a', r = .returned (.slice a' n n) ∧ Fences w' a' n S E ∧ Below w.heap.size w w' := by
  cases a with
  | none =>
    obtain ⟨rfl, rfl⟩ := hnil rfl
    refine (copy_nil w).mono ?_
    rintro e w' ⟨rfl, rfl⟩
    exact ⟨none, rfl, .inl rfl, Below.refl _ _⟩
  | some x =>
    refine (copy_any x n c S E w hn hf).mono ?_
    rintro e w' ⟨rfl, hr, hs, hb⟩
    exact ⟨_, rfl, OwnF.fences (.inr ⟨_, rfl, hr⟩), hb⟩
end Go.Proofs.Qxb6604574aMods
