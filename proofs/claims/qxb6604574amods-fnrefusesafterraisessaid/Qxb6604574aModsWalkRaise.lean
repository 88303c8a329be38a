/-
  THE WALKS of 'raise' (24), 'refuses' (25), 'ZZraise' (11), 'ZZrefuses' (13).
-/
import Derived.Test.Qxb6604574aModsMaps
import Derived.Lib.Strings
namespace Go.Proofs.Qxb6604574aMods
open Go.RowKit Go.Maps

theorem ret_bool {a b : Bool} (h : a = b) : Ending.returned (.bool a) = .returned (.bool b) := by rw [h]

/-- Does the map hold k at e or later? -/
def held (M : Key → Option Int) (k : Key) (e : Int) : Bool := (M k).isSome && decide (e ≤ (M k).getD 0)
def raiseM (M : Key → Option Int) (k : Key) (e : Int) : Key → Option Int := if held M k e then M else setM M k e
def raiseS (M : Key → Option Int) (k : Key) (e : Int) (s : Nat) : Nat := if held M k e then s else setS M k s

set_option maxHeartbeats 400000 in
theorem raise_walk (b n s : Nat) (M : Key → Option Int) (x : ByteArray) (e : Int) (w : World) (hm : MapIs w b n M s) (hn : n < 1000000000) (hx : x.size ≤ maxLen) (we : (Lit.int .u64 e).wf = true) :
    Calls Trym.prog 24 #[.map (some b), .agg #[.string x, .int .u64 e]] w fun r w' => r = .returned (.bool (!held M x.data.toList e)) ∧ MapIs w' b (n + 1) (raiseM M x.data.toList e) (raiseS M x.data.toList e s) ∧ w.grownBy w' (some b) := by
  have hl := (hm.alloc (.cells #[.string x, .int .u64 e] 32)).look_ok 53 Trym.underlying53 x hx
  obtain ⟨w2, hrun, hm2, hg2⟩ := (hm.alloc (.cells #[.string x, .int .u64 e] 32)).update 53 Trym.underlying53 (by unfold maxLen; omega) x hx e we
  have hm1 := hid (hm.alloc (.cells #[.string x, .int .u64 e] 32))
  have HM2 := hid hm2
  have HG2 := hid hg2
  have HB := bounds_u64 we
  obtain ⟨c, hc⟩ : ∃ c, (M x.data.toList).getD 0 = c := ⟨_, rfl⟩
  obtain ⟨hd, hhd⟩ : ∃ hd, (M x.data.toList).isSome = hd := ⟨_, rfl⟩
  rw [hc, hhd] at hl
  by_cases hh : held M x.data.toList e = true
  · have h1 : hd = true ∧ e ≤ c := by
      unfold held at hh
      rw [hc, hhd] at hh
      simpa using hh
    obtain ⟨rfl, hec⟩ := h1
    have HH := hid hh
    clear hm hm2 hg2 hc hhd hh hrun
    go_enter Trym.func24, Trym.ntmps24
    go_wp2
    go_ret
    refine ⟨ret_bool (by rw [HH.out]; rfl), ?_, World.grownBy_alloc _ _ _⟩
    unfold raiseM raiseS
    rw [if_pos HH.out, if_pos HH.out]
    exact hm1.out.mono (Nat.le_succ _)
  · have HH := hid hh
    have fin : Hid (MapIs w2 b (n + 1) (raiseM M x.data.toList e) (raiseS M x.data.toList e s) ∧ w.grownBy w2 (some b)) := by
      refine ⟨?_, (World.grownBy_alloc _ _ _).trans hg2⟩
      unfold raiseM raiseS
      rw [if_neg hh, if_neg hh]
      exact hm2
    have h1 : hd = false ∨ (hd = true ∧ ¬ e ≤ c) := by
      unfold held at hh
      rw [hc, hhd] at hh
      cases hd
      · exact .inl rfl
      · right; simpa using hh
    clear hm hm2 hg2 hc hhd hh
    rcases h1 with rfl | ⟨rfl, hec⟩
    · go_enter Trym.func24, Trym.ntmps24
      go_wp2
      go_ret
      exact ⟨ret_bool (by simpa using HH.out), fin.out.1, fin.out.2⟩
    · have hd1 : decide (e ≤ c) = false := decide_eq_false hec
      go_enter Trym.func24, Trym.ntmps24
      go_wp2
      go_ret
      exact ⟨ret_bool (by simpa using HH.out), fin.out.1, fin.out.2⟩

def refB (M : Key → Option Int) (k : Key) (e : Int) : Bool := !k.isEmpty && held M k e

set_option maxHeartbeats 400000 in
theorem refuses_walk (b n s : Nat) (M : Key → Option Int) (x : ByteArray) (e : Int) (w : World) (hm : MapIs w b n M s) (hx : x.size ≤ maxLen) (we : (Lit.int .u64 e).wf = true) :
    Calls Trym.prog 25 #[.map (some b), .agg #[.string x, .int .u64 e]] w fun r w' => r = .returned (.bool (refB M x.data.toList e)) ∧ w.grownBy w' none := by
  have hl := (hm.alloc (.cells #[.string x, .int .u64 e] 32)).look_ok 53 Trym.underlying53 x hx
  have HB := bounds_u64 we
  obtain ⟨c, hc⟩ : ∃ c, (M x.data.toList).getD 0 = c := ⟨_, rfl⟩
  obtain ⟨hd, hhd⟩ : ∃ hd, (M x.data.toList).isSome = hd := ⟨_, rfl⟩
  rw [hc, hhd] at hl
  have hr : refB M x.data.toList e = (!x.toList.isEmpty && (hd && decide (e ≤ c))) := by
    unfold refB held
    rw [hc, hhd, Lib.toList_data]
  have HR := hid hr
  clear hm hc hhd hr
  by_cases hemp : x.toList.isEmpty = true
  · go_enter Trym.func25, Trym.ntmps25
    go_wp2
    go_ret
    exact ⟨ret_bool (by rw [HR.out, hemp]; rfl), World.grownBy_alloc _ _ _⟩
  · have hemp' : x.toList.isEmpty = false := by simpa using hemp
    clear hemp
    cases hd
    · go_enter Trym.func25, Trym.ntmps25
      go_wp2
      go_ret
      exact ⟨ret_bool (by rw [HR.out, hemp']; rfl), World.grownBy_alloc _ _ _⟩
    · by_cases hec : e ≤ c
      · have hd1 : decide (e ≤ c) = true := decide_eq_true hec
        go_enter Trym.func25, Trym.ntmps25
        go_wp2
        go_ret
        exact ⟨ret_bool (by rw [HR.out, hemp', hd1]; rfl), World.grownBy_alloc _ _ _⟩
      · have hd1 : decide (e ≤ c) = false := decide_eq_false hec
        go_enter Trym.func25, Trym.ntmps25
        go_wp2
        go_ret
        exact ⟨ret_bool (by rw [HR.out, hemp', hd1]; rfl), World.grownBy_alloc _ _ _⟩

theorem zzraise_walk (b n s : Nat) (M : Key → Option Int) (x : ByteArray) (e : Int) (w : World) (hm : MapIs w b n M s) (hn : n < 1000000000) (hx : x.size ≤ maxLen) (we : (Lit.int .u64 e).wf = true) :
    Calls Trym.prog 11 #[.map (some b), .agg #[.string x, .int .u64 e]] w fun r w' => r = .returned (.bool (!held M x.data.toList e)) ∧ MapIs w' b (n + 1) (raiseM M x.data.toList e) (raiseS M x.data.toList e s) ∧ w.grownBy w' (some b) := by
  have HM := hid (hm.alloc (.cells #[.string x, .int .u64 e] 32))
  clear hm
  go_enter Trym.func11, Trym.ntmps11
  go_wp2_with fail
  refine (raise_walk b n s M x e _ HM.out hn hx we).mono ?_
  rintro r w1 ⟨rfl, hm1, hg1⟩
  have H1 := hid hm1
  have H2 := hid hg1
  clear hm1 hg1
  go_wp2
  go_ret
  exact ⟨rfl, H1.out, (World.grownBy_alloc _ _ _).trans H2.out⟩

theorem zzrefuses_walk (b n s : Nat) (M : Key → Option Int) (x : ByteArray) (e : Int) (w : World) (hm : MapIs w b n M s) (hx : x.size ≤ maxLen) (we : (Lit.int .u64 e).wf = true) :
    Calls Trym.prog 13 #[.map (some b), .agg #[.string x, .int .u64 e]] w fun r w' => r = .returned (.bool (refB M x.data.toList e)) ∧ w.grownBy w' none := by
  have HM := hid (hm.alloc (.cells #[.string x, .int .u64 e] 32))
  clear hm
  go_enter Trym.func13, Trym.ntmps13
  go_wp2_with fail
  refine (refuses_walk b n s M x e _ HM.out hx we).mono ?_
  rintro r w1 ⟨rfl, hg1⟩
  have H2 := hid hg1
  clear hg1
  go_wp2
  go_ret
  exact ⟨rfl, (World.grownBy_alloc _ _ _).trans H2.out⟩
end Go.Proofs.Qxb6604574aMods
