/-
  THE WALK of 'FnHoldersGrowsByEachAddedTerm' (4).
-/
import Derived.Test.Qxb6604646aModsLaw
namespace Go.Proofs.Qxb6604646aMods
open Go.RowKit

def gA (f : Nat → Int) (k i : Nat) : Int := if i < k then f i else 0
def gP (f : Nat → Int) (k i : Nat) : Int := if 0 < i ∧ i ≤ k then f (i - 1) else 0
def gR (f : Nat → Int) (n k i : Nat) : Int := if n - k ≤ i then f (n - 1 - i) else 0

def ints (g : Nat → Int) (i : Nat) : Value := .int .i64 (g i)

/-- The clone and the three rows that the law makes, at N, N + 1, N + 2. -/
def Rows3 (w : World) (a : Option Addr) (n N : Nat) (f A P R : Nat → Int) : Prop :=
  Own w a n f N ∧ w.rowIs N 3 (n + 1) (ints A) ∧ w.rowIs (N + 1) 3 (n + 1) (ints P) ∧ w.rowIs (N + 2) 3 n (ints R) ∧ N + 3 ≤ w.heap.size

theorem Own.below {w w' : World} {a : Option Addr} {n N B : Nat} {f : Nat → Int} (h : Own w a n f N) (hb : Below B w w') (hN : N ≤ B) : Own w' a n f N := by
  rcases h with h | ⟨b, h1, h2, h3⟩
  · exact .inl h
  · exact .inr ⟨b, h1, h2, h3.of_block (hb.block b (by omega))⟩

theorem Rows3.below {w w' : World} {a : Option Addr} {n N B : Nat} {f A P R : Nat → Int} (h : Rows3 w a n N f A P R) (hb : Below B w w') (hB : N + 3 ≤ B) : Rows3 w' a n N f A P R :=
  ⟨h.1.below hb (by omega), h.2.1.of_block (hb.block _ (by omega)), h.2.2.1.of_block (hb.block _ (by omega)), h.2.2.2.1.of_block (hb.block _ (by omega)), Nat.le_trans h.2.2.2.2 hb.size⟩

theorem rows3_start {w : World} {a : Option Addr} {n : Nat} {f : Nat → Int} (h : Own w a n f w.heap.size) :
    Rows3 (((w.alloc (.cells (madeCells #[.int .i64 0] (n + 1)) 3)).alloc (.cells (madeCells #[.int .i64 0] (n + 1)) 3)).alloc (.cells (madeCells #[.int .i64 0] n) 3)) a n w.heap.size f (gA f 0) (gP f 0) (gR f n 0) := by
  have s1 : (w.alloc (.cells (madeCells #[.int .i64 0] (n + 1)) 3)).heap.size = w.heap.size + 1 := by simp
  have s2 : ((w.alloc (.cells (madeCells #[.int .i64 0] (n + 1)) 3)).alloc (.cells (madeCells #[.int .i64 0] (n + 1)) 3)).heap.size = w.heap.size + 2 := by simp
  refine ⟨h.below (((Below.refl _ _).alloc (Nat.le_refl _) _).alloc (by simp) _ |>.alloc (by simp; omega) _) (Nat.le_refl _), ?_, ?_, ?_, by simp⟩
  · refine (((World.rowIs_made w (.int .i64 0) (n + 1) 3).alloc _).alloc _).congr (fun i hi => ?_)
    simp [ints, gA]
  · have := (World.rowIs_made (w.alloc (.cells (madeCells #[.int .i64 0] (n + 1)) 3)) (.int .i64 0) (n + 1) 3).alloc (.cells (madeCells #[.int .i64 0] n) 3)
    rw [s1] at this
    refine this.congr (fun i hi => ?_)
    simp only [ints, gP]
    rw [if_neg (by omega)]
  · have := World.rowIs_made ((w.alloc (.cells (madeCells #[.int .i64 0] (n + 1)) 3)).alloc (.cells (madeCells #[.int .i64 0] (n + 1)) 3)) (.int .i64 0) n 3
    rw [s2] at this
    refine this.congr (fun i hi => ?_)
    simp only [ints, gR]
    rw [if_neg (by omega)]

theorem Own.setCell {w : World} {a : Option Addr} {n N : Nat} {f : Nat → Int} (h : Own w a n f N) {p : Addr} (hp : N ≤ p.block) (v : Value) : Own (w.setCell p v) a n f N := by
  rcases h with h | ⟨b, h1, h2, h3⟩
  · exact .inl h
  · exact .inr ⟨b, h1, h2, h3.setOther (by omega) v⟩

theorem rows3_step {w : World} {a : Option Addr} {n N k : Nat} {f : Nat → Int} (h : Rows3 w a n N f (gA f k) (gP f k) (gR f n k)) (hk : k < n) :
    Rows3 (((w.setCell ⟨N, k, none⟩ (.int .i64 (f k))).setCell ⟨N + 1, k + 1, none⟩ (.int .i64 (f k))).setCell ⟨N + 2, n - 1 - k, none⟩ (.int .i64 (f k))) a n N f (gA f (k + 1)) (gP f (k + 1)) (gR f n (k + 1)) := by
  obtain ⟨h1, h2, h3, h4, h5⟩ := h
  refine ⟨((h1.setCell (Nat.le_refl _) _).setCell (by simp) _).setCell (by simp) _, ?_, ?_, ?_, ?_⟩
  · refine (((h2.set k _).setOther (by simp) _).setOther (by simp) _).congr (fun i hi => ?_)
    simp only [ints, gA]
    by_cases e : i = k
    · subst e; simp
    · rw [if_neg e]
      by_cases e2 : i < k
      · rw [if_pos e2, if_pos (by omega)]
      · rw [if_neg e2, if_neg (by omega)]
  · refine ((((h3.setOther (by simp) _)).set (k + 1) _).setOther (by simp) _).congr (fun i hi => ?_)
    simp only [ints, gP]
    by_cases e : i = k + 1
    · subst e; simp
    · rw [if_neg e]
      by_cases e2 : 0 < i ∧ i ≤ k
      · rw [if_pos e2, if_pos (by omega)]
      · rw [if_neg e2, if_neg (by omega)]
  · refine (((h4.setOther (by simp) _).setOther (by simp) _).set (n - 1 - k) _).congr (fun i hi => ?_)
    simp only [ints, gR]
    by_cases e : i = n - 1 - k
    · subst e
      rw [if_pos rfl, if_pos (by omega), show n - 1 - (n - 1 - k) = k by omega]
    · rw [if_neg e]
      by_cases e2 : n - k ≤ i
      · rw [if_pos e2, if_pos (by omega)]
      · rw [if_neg e2, if_neg (by omega)]
  · rw [size_setCell, size_setCell, size_setCell]; exact h5

theorem rows3_end {w : World} {a : Option Addr} {n N : Nat} {f : Nat → Int} {d : Int} (h : Rows3 w a n N f (gA f n) (gP f n) (gR f n n)) :
    Rows3 ((w.setCell ⟨N, n, none⟩ (.int .i64 d)).setCell ⟨N + 1, 0, none⟩ (.int .i64 d)) a n N f (fApp f n d) (fPre f d) (fRev f n) := by
  obtain ⟨h1, h2, h3, h4, h5⟩ := h
  refine ⟨(h1.setCell (Nat.le_refl _) _).setCell (by simp) _, ?_, ?_, ?_, ?_⟩
  · refine ((h2.set n _).setOther (by simp) _).congr (fun i hi => ?_)
    simp only [ints, gA, fApp]
    by_cases e : i = n
    · subst e; simp
    · rw [if_neg e, if_pos (by omega), if_pos (by omega)]
  · refine ((h3.setOther (by simp) _).set 0 _).congr (fun i hi => ?_)
    simp only [ints, gP, fPre]
    by_cases e : i = 0
    · subst e; simp
    · rw [if_neg e, if_neg e, if_pos (by omega)]
  · refine ((h4.setOther (by simp) _).setOther (by simp) _).congr (fun i hi => ?_)
    simp only [ints, gR, fRev]
    rw [if_pos (by omega)]
  · rw [size_setCell, size_setCell]; exact h5

theorem Own.nums {w : World} {a : Option Addr} {n N : Nat} {f : Nat → Int} (h : Own w a n f N) : Nums w a n f := by
  rcases h with h | ⟨b, h1, h2, h3⟩
  · exact .inl h
  · exact .inr ⟨b, 0, h1, fun i hi => by rw [Nat.zero_add]; exact h3.cell hi⟩

theorem nums_row {w : World} {b n : Nat} {g : Nat → Int} (h : w.rowIs b 3 n (ints g)) : Nums w (some ⟨b, 0, none⟩) n g :=
  .inr ⟨b, 0, rfl, fun i hi => by rw [Nat.zero_add]; exact h.cell hi⟩

/-- The holders' count under a name. -/
theorem hold_eq (p : Nat) (a : Option Addr) (n c : Nat) (f : Nat → Int) (s : Int) (w : World) (hn : n ≤ 1048576) (hp : w.cell? ⟨p, 4, none⟩ = some (.slice a n c)) (hr : Nums w a n f) (hs : sumTo f n = s) :
    Calls Trym.prog 14 #[.pointer (some ⟨p, 0, none⟩)] w fun e w' => e = .returned (.int .i64 s) ∧ w = w' := by
  subst hs
  exact zzholders_any p a n c f w hn hp hr

set_option maxHeartbeats 1000000 in
theorem main_any (a : Option Addr) (n c : Nat) (f : Nat → Int) (d : Int) (w : World) (hn : n ≤ 131071) (hd : 0 ≤ d) (hc : CameIn w a n c f) (wd : (Lit.int .i64 d).wf = true) :
    Calls Trym.prog 4 #[.slice a n c, .int .i64 d] w fun e w' => e = .returned (.bool true) ∧ Below w.heap.size w w' := by
  have hg : Hid (decide (n ≤ 1048576) = true) := decide_eq_true (by omega)
  have HC : Hid (CameIn w a n c f) := hc
  clear hc
  have hdd := bounds_i64 wd
  have h131 : decide ((131071 : Int) < (n : Int)) = false := decide_eq_false (by omega)
  have hd0 : decide (d < 0) = false := decide_eq_false (by omega)
  go_enter Trym.func4, Trym.ntmps4
  go_wp2_with fail
  refine (guard_any a n c d w (by unfold maxLen; omega)).mono ?_
  rw [hg.out]
  rintro e x ⟨rfl, rfl⟩
  go_wp2_with fail
  go_loop [5] (fun i => ∃ k : Nat, k ≤ n ∧ i = .int .i64 k) (fun i => n - (intOf i).toNat)
  case atStart => exact ⟨0, Nat.zero_le _, rfl⟩
  case round =>
    obtain ⟨k, hk, rfl⟩ := hrel
    by_cases hlt : k < n
    · rcases HC.out with ⟨_, h0, _⟩ | ⟨⟨b, off, spot⟩, rfl, h1, h2, h3⟩
      · omega
      have hs : spot = none := h1 (by omega)
      subst hs
      have hck := h3 k hlt
      clear h1 h2 h3 HC
      by_cases hneg : f k < 0
      · have hng : decide (f k < 0) = true := decide_eq_true hneg
        go_wp2
        go_ret
        exact ⟨rfl, Below.refl _ _⟩
      · have hng : decide (f k < 0) = false := decide_eq_false hneg
        go_wp2
        go_round
        case rel => exact ⟨k + 1, by omega, by go_num⟩
        case measure => simp [intOf]; omega
    · have hkn : k = n := by omega
      subst hkn
      go_wp2_with fail
      refine (clone_all a k c f w (by omega) HC.out).mono ?_
      rintro e w1 ⟨a', rfl, hown, hb1⟩
      have hmk := run_make_row' (P := Trym.prog) 67 3 (.int .i64 0) 8 Trym.underlying67 Trym.info3 rfl .i64 .i64 k (by omega) (by omega)
      have hmk1 := run_make_row' (P := Trym.prog) 67 3 (.int .i64 0) 8 Trym.underlying67 Trym.info3 rfl .i64 .i64 (k + 1) (by omega) (by omega)
      rw [show ((k + 1 : Nat) : Int) = (k : Int) + 1 from by omega] at hmk1
      have HO : Hid (Own w1 a' k f w1.heap.size) := hown
      have HB : Hid (Below w.heap.size w w1) := hb1
      clear hown hb1 HC hlt
      go_wp2_with fail
      go_loopw [10] (fun i wr => ∃ j : Nat, j ≤ k ∧ i = .int .i64 j ∧ Rows3 wr a' k w1.heap.size f (gA f j) (gP f j) (gR f k j) ∧ Below w.heap.size w wr) (fun i _ => k - (intOf i).toNat)
      case atStart => exact ⟨0, Nat.zero_le _, rfl, rows3_start HO.out, ((HB.out.alloc HB.out.size _).alloc (by have := HB.out.size; simp; omega) _).alloc (by have := HB.out.size; simp; omega) _⟩
      case round =>
        obtain ⟨j, hj, rfl, hrows, hbel⟩ := hrel
        clear hmk hmk1
        by_cases hjk : j < k
        · have HR : Hid (Rows3 wr a' k w1.heap.size f (gA f j) (gP f j) (gR f k j)) := hrows
          have HL : Hid (Below w.heap.size w wr) := hbel
          obtain ⟨o1, o2, o3, o4, o5⟩ := hrows
          rcases o1 with h0 | ⟨b, hb', hbN, hrow⟩
          · omega
          subst hb'
          have c0 := hrow.cell hjk
          obtain ⟨v1, hv1⟩ : ∃ v, wr.cell? ⟨w1.heap.size, j, none⟩ = some v := ⟨_, o2.cell (by omega)⟩
          have fz1 := o2.frozen j
          obtain ⟨v2, hv2⟩ : ∃ v, wr.cell? ⟨w1.heap.size + 1, j + 1, none⟩ = some v := ⟨_, o3.cell (by omega)⟩
          have fz2 := o3.frozen (j + 1)
          obtain ⟨v3, hv3⟩ : ∃ v, wr.cell? ⟨w1.heap.size + 1 + 1, k - 1 - j, none⟩ = some v := ⟨_, o4.cell (by omega)⟩
          have fz3 : wr.frozen? ⟨w1.heap.size + 1 + 1, k - 1 - j, none⟩ = false := o4.frozen (k - 1 - j)
          have hne1 : b ≠ w1.heap.size := by omega
          have hne2 : b ≠ w1.heap.size + 1 := by omega
          have hB1 : Hid (w.heap.size ≤ w1.heap.size) := HB.out.size
          clear hbel o2 o3 o4 o5 hrow HO HB
          go_wp2
          go_roundw
          case rel => exact ⟨j + 1, by omega, by go_num, rows3_step HR.out hjk, ((HL.out.setCell hB1.out _).setCell (Nat.le_succ_of_le hB1.out) _).setCell (Nat.le_succ_of_le (Nat.le_succ_of_le hB1.out)) _⟩
          case measure => simp [intOf]; omega
        · have hjk' : j = k := by omega
          subst hjk'
          have HR : Hid (Rows3 ((wr.setCell ⟨w1.heap.size, j, none⟩ (.int .i64 d)).setCell ⟨w1.heap.size + 1, 0, none⟩ (.int .i64 d)) a' j w1.heap.size f (fApp f j d) (fPre f d) (fRev f j)) := rows3_end hrows
          have HL : Hid (Below w.heap.size w ((wr.setCell ⟨w1.heap.size, j, none⟩ (.int .i64 d)).setCell ⟨w1.heap.size + 1, 0, none⟩ (.int .i64 d))) := (hbel.setCell HB.out.size _).setCell (Nat.le_succ_of_le HB.out.size) _
          obtain ⟨o1, o2, o3, o4, o5⟩ := hrows
          obtain ⟨v1, hv1⟩ : ∃ v, wr.cell? ⟨w1.heap.size, j, none⟩ = some v := ⟨_, o2.cell (by omega)⟩
          have fz1 := o2.frozen j
          obtain ⟨v2, hv2⟩ : ∃ v, wr.cell? ⟨w1.heap.size + 1, 0, none⟩ = some v := ⟨_, o3.cell (by omega)⟩
          have fz2 := o3.frozen 0
          have hB1 : Hid (w.heap.size ≤ w1.heap.size) := HB.out.size
          clear hbel o1 o2 o3 o4 o5 HO HB
          go_wp2_with fail
          refine (newown_any _ _ _ _).mono ?_
          rintro e w2 ⟨p0, rfl, hp0, hb0⟩
          have R2 : Hid (Rows3 w2 a' j w1.heap.size f (fApp f j d) (fPre f d) (fRev f j)) := HR.out.below hb0 HR.out.2.2.2.2
          have L2 : Hid (Below w.heap.size w w2) := HL.out.trans (hb0.mono HL.out.size)
          obtain ⟨s0, hs0⟩ : ∃ s, sumTo f j = s := ⟨_, rfl⟩
          have HS : Hid (sumTo f j = s0) := hs0
          clear hs0 hb0 HR HL hv1 fz1 hv2 fz2
          go_wp2_with fail
          refine (hold_eq p0 a' j j f s0 _ (by omega) hp0 R2.out.1.nums HS.out).mono ?_
          rintro e x2 ⟨rfl, rfl⟩
          clear hp0
          go_wp2_with fail
          refine (newown_any _ _ _ _).mono ?_
          rintro e w3 ⟨p3, rfl, hp3, hb3⟩
          have R3 : Hid (Rows3 w3 a' j w1.heap.size f (fApp f j d) (fPre f d) (fRev f j)) := R2.out.below hb3 R2.out.2.2.2.2
          have L3 : Hid (Below w.heap.size w w3) := L2.out.trans (hb3.mono L2.out.size)
          clear hb3 R2 L2
          go_wp2_with fail
          refine (hold_eq p3 (some ⟨w1.heap.size, 0, none⟩) (j + 1) (j + 1) (fApp f j d) (wrap64 (s0 + d)) _ (by omega) hp3 (nums_row R3.out.2.1) (by rw [law_app, HS.out])).mono ?_
          rintro e x3 ⟨rfl, rfl⟩
          clear hp3
          go_wp2_with fail
          refine (newown_any _ _ _ _).mono ?_
          rintro e w4 ⟨p4, rfl, hp4, hb4⟩
          have R4 : Hid (Rows3 w4 a' j w1.heap.size f (fApp f j d) (fPre f d) (fRev f j)) := R3.out.below hb4 R3.out.2.2.2.2
          have L4 : Hid (Below w.heap.size w w4) := L3.out.trans (hb4.mono L3.out.size)
          clear hb4 R3 L3
          go_wp2_with fail
          refine (hold_eq p4 (some ⟨w1.heap.size + 1, 0, none⟩) (j + 1) (j + 1) (fPre f d) (wrap64 (s0 + d)) _ (by omega) hp4 (nums_row R4.out.2.2.1) (by rw [law_pre, HS.out])).mono ?_
          rintro e x4 ⟨rfl, rfl⟩
          clear hp4
          go_wp2_with fail
          refine (newown_any _ _ _ _).mono ?_
          rintro e w5 ⟨p5, rfl, hp5, hb5⟩
          have R5 : Hid (Rows3 w5 a' j w1.heap.size f (fApp f j d) (fPre f d) (fRev f j)) := R4.out.below hb5 R4.out.2.2.2.2
          have L5 : Hid (Below w.heap.size w w5) := L4.out.trans (hb5.mono L4.out.size)
          clear hb5 R4 L4
          go_wp2_with fail
          refine (hold_eq p5 (some ⟨w1.heap.size + 2, 0, none⟩) j j (fRev f j) s0 _ (by omega) hp5 (nums_row R5.out.2.2.2.1) (by rw [law_rev, HS.out])).mono ?_
          rintro e x5 ⟨rfl, rfl⟩
          clear hp5
          go_wp2_with fail
          refine (newown_any _ _ _ _).mono ?_
          rintro e w6 ⟨p6, rfl, hp6, hb6⟩
          have L6 : Hid (Below w.heap.size w w6) := (L5.out.alloc L5.out.size _).trans (hb6.mono (by have := L5.out.size; simp; omega))
          have c6 : w6.cell? ⟨w5.heap.size, 0, none⟩ = some (.int .i64 d) := (hb6.cell (by simp)).trans (by simp [go_sem])
          have N6 : Hid (Nums w6 (some ⟨w5.heap.size, 0, none⟩) 1 (fun _ => d)) := .inr ⟨_, 0, rfl, fun i hi => by
            obtain rfl : i = 0 := by omega
            exact c6⟩
          clear hb6 c6 L5 R5
          go_wp2_with fail
          refine (hold_eq p6 (some ⟨w5.heap.size, 0, none⟩) 1 1 (fun _ => d) d _ (by omega) hp6 N6.out (law_one d wd)).mono ?_
          rintro e x6 ⟨rfl, rfl⟩
          clear hp6 N6
          go_wp2
          go_ret
          exact ⟨rfl, L6.out⟩
end Go.Proofs.Qxb6604646aMods
