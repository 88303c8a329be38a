/-
  THE WALK of 'FnRaiseAgreesWithRefuses' (4).
-/
import Derived.Test.Qxb6604574aModsWalkBuild
namespace Go.Proofs.Qxb6604574aMods
open Go.RowKit Go.Maps

theorem zzraise_eq (b n s : Nat) (M : Key → Option Int) (x : ByteArray) (e : Int) (r0 : Bool) (w : World) (hm : MapIs w b n M s) (hn : n < 1000000000) (hx : x.size ≤ maxLen) (we : (Lit.int .u64 e).wf = true) (hr : (!held M x.data.toList e) = r0) :
    Calls Trym.prog 11 #[.map (some b), .agg #[.string x, .int .u64 e]] w fun r w' => r = .returned (.bool r0) ∧ MapIs w' b (n + 1) (raiseM M x.data.toList e) (raiseS M x.data.toList e s) ∧ w.grownBy w' (some b) := by
  subst hr
  exact zzraise_walk b n s M x e w hm hn hx we
theorem zzrefuses_eq (b n s : Nat) (M : Key → Option Int) (x : ByteArray) (e : Int) (r0 : Bool) (w : World) (hm : MapIs w b n M s) (hx : x.size ≤ maxLen) (we : (Lit.int .u64 e).wf = true) (hr : refB M x.data.toList e = r0) :
    Calls Trym.prog 13 #[.map (some b), .agg #[.string x, .int .u64 e]] w fun r w' => r = .returned (.bool r0) ∧ w.grownBy w' none := by
  subst hr
  exact zzrefuses_walk b n s M x e w hm hx we

theorem held_raise (M : Key → Option Int) (k : Key) (e : Int) : held (raiseM M k e) k e = true := by
  unfold raiseM
  split
  · assumption
  · unfold held
    rw [setM_same]
    simp

/-- The map in block B, the lease in block L. -/
def St (w wr : World) (L B n : Nat) (M : Key → Option Int) (s : Nat) (x : ByteArray) (e : Int) : Prop :=
  MapIs wr B n M s ∧ wr.cell? ⟨L, 0, none⟩ = some (.string x) ∧ wr.cell? ⟨L, 1, none⟩ = some (.int .u64 e) ∧ L < wr.heap.size ∧ B < L ∧ w.heap.size ≤ B ∧ Below w.heap.size w wr

theorem St.start {w wr : World} {B n s : Nat} {M : Key → Option Int} {x : ByteArray} {e : Int} (hm : MapIs wr B n M s) (hB : w.heap.size ≤ B) (hb : Below w.heap.size w wr) :
    St w (wr.alloc (.cells #[.string x, .int .u64 e] 32)) wr.heap.size B n M s x e :=
  ⟨hm.alloc _, by simp [go_sem], by simp [go_sem], by simp, hm.lt, hB, hb.alloc hb.size _⟩

theorem St.quiet {w wr w' : World} {L B n s : Nat} {M : Key → Option Int} {x : ByteArray} {e : Int} (h : St w wr L B n M s x e) (hg : wr.grownBy w' none) : St w w' L B n M s x e := by
  obtain ⟨h1, h2, h3, h4, h5, h6, h7⟩ := h
  exact ⟨h1.kept hg (by simp), hg.cell h2 (by simp), hg.cell h3 (by simp), Nat.lt_of_lt_of_le h4 hg.size, h5, h6, h7.grown hg h7.size (fun _ e => by cases e)⟩

theorem St.raised {w wr w' : World} {L B n n' s s' : Nat} {M M' : Key → Option Int} {x : ByteArray} {e : Int} (h : St w wr L B n M s x e) (hg : wr.grownBy w' (some B)) (hm : MapIs w' B n' M' s') : St w w' L B n' M' s' x e := by
  obtain ⟨h1, h2, h3, h4, h5, h6, h7⟩ := h
  have hne : some L ≠ some B := by intro e; injection e; omega
  exact ⟨hm, hg.cell h2 hne, hg.cell h3 hne, Nat.lt_of_lt_of_le h4 hg.size, h5, h6, h7.grown hg h7.size (fun _ e => by cases e; exact h6)⟩

set_option maxHeartbeats 2000000 in
theorem agrees_walk (a : Option Addr) (n c : Nat) (x : ByteArray) (e : Int) (S : Nat → ByteArray) (E : Nat → Int) (w : World) (hn : n ≤ 65536) (hx : x.size ≤ 65536) (we : (Lit.int .u64 e).wf = true)
    (hnil : a = none → n = 0 ∧ c = 0) (hf : Fences w a n S E) (hS : ∀ i, i < n → (S i).size ≤ maxLen) (hE : ∀ i, i < n → (Lit.int .u64 (E i)).wf = true) :
    Calls Trym.prog 4 #[.slice a n c, .string x, .int .u64 e] w fun r w' => r = .returned (.bool true) ∧ Below w.heap.size w w' := by
  have HF := hid hf
  have HS := hid hS
  have HE := hid hE
  have HNL := hid hnil
  have hxm : x.size ≤ maxLen := by unfold maxLen; omega
  have HXM := hid hxm
  clear hf hS hE hnil hxm
  have d0 : decide ((65536 : Int) < (n : Int)) = false := decide_eq_false (by omega)
  have d1 : decide ((65536 : Int) < (x.size : Int)) = false := decide_eq_false (by omega)
  have hwe := bounds_u64 we
  go_enter Trym.func4, Trym.ntmps4
  go_wp2_with fail
  refine (guard12 a n c x e S E w (by unfold maxLen; omega) HXM.out HF.out HS.out).mono ?_
  rintro r x1 ⟨⟨z, rfl⟩, rfl⟩
  cases z
  · go_wp2
    go_ret
    exact ⟨rfl, Below.refl _ _⟩
  go_wp2_with fail
  refine (bytes_walk a n c S E w (by omega) HF.out HS.out).mono ?_
  rintro r x1 ⟨⟨z, rfl⟩, rfl⟩
  by_cases hz : (1048576 : Int) < wrap64 (z + (x.size : Int))
  · have hz1 : decide ((1048576 : Int) < wrap64 (z + (x.size : Int))) = true := decide_eq_true hz
    go_wp2
    go_ret
    exact ⟨rfl, Below.refl _ _⟩
  have hz1 : decide ((1048576 : Int) < wrap64 (z + (x.size : Int))) = false := decide_eq_false hz
  clear hz
  go_wp2_with fail
  refine (copy_all a n c S E w (by omega) HNL.out HF.out).mono ?_
  rintro r w1 ⟨a', rfl, hf1, hb1⟩
  have HF1 := hid hf1
  have HB1 := hid hb1
  clear hf1 hb1 HF HNL hz1
  go_wp2_with fail
  refine (build_walk a' n n S E w1 (by omega) HF1.out HS.out HE.out).mono ?_
  rintro r w2 ⟨rfl, hm2, hb2⟩
  obtain ⟨B, hB⟩ : ∃ B, B = w1.heap.size := ⟨_, rfl⟩
  rw [← hB] at hm2 ⊢
  have hBw : w.heap.size ≤ B := by rw [hB]; exact HB1.out.size
  obtain ⟨M, hM⟩ : ∃ M, M = buildM S E n := ⟨_, rfl⟩
  obtain ⟨s, hs⟩ : ∃ s, s = buildS S E n := ⟨_, rfl⟩
  rw [← hM, ← hs] at hm2
  have HB2 := hid (HB1.out.trans (hb2.mono HB1.out.size))
  have HM2 := hid hm2
  have hBlt : B < w2.heap.size := hm2.lt
  clear hM hs hm2 hb2 hB HB1 HF1 HS HE
  obtain ⟨h, hh⟩ : ∃ h, held M x.data.toList e = h := ⟨_, rfl⟩
  obtain ⟨em, hem⟩ : ∃ em, x.toList.isEmpty = em := ⟨_, rfl⟩
  have HH := hid hh
  have HEM : Hid (x.data.toList.isEmpty = em) := by rw [← Lib.toList_data]; exact hem
  clear hh
  have ST2 : Hid (St w (w2.alloc (.cells #[.string x, .int .u64 e] 32)) w2.heap.size B n M s x e) := St.start HM2.out hBw HB2.out
  obtain ⟨L, hL⟩ : ∃ L, L = w2.heap.size := ⟨_, rfl⟩
  clear HM2 HB2 hBlt
  go_wp2_with fail
  refine (zzrefuses_eq B n s M x e (!em && h) _ ST2.out.1 HXM.out we (by unfold refB; rw [HEM.out, HH.out])).mono ?_
  rintro r w3 ⟨rfl, hg3⟩
  have ST3 := hid (ST2.out.quiet hg3)
  rw [← hL] at ST3
  rw [← hL]
  clear hg3 ST2 hL
  have c0 := ST3.out.2.1
  have c1 := ST3.out.2.2.1
  go_wp2_with fail
  refine (zzraise_eq B n s M x e (!h) _ ST3.out.1 (by omega) HXM.out we (by rw [HH.out])).mono ?_
  rintro r w4 ⟨rfl, hm4, hg4⟩
  have ST4 := hid (ST3.out.raised hg4 hm4)
  clear hg4 hm4 ST3 c0 c1
  have c0 := ST4.out.2.1
  have c1 := ST4.out.2.2.1
  go_wp2_with fail
  refine (zzrefuses_eq B (n + 1) _ _ x e (!em) _ ST4.out.1 HXM.out we (by unfold refB; rw [HEM.out, held_raise]; simp)).mono ?_
  rintro r w5 ⟨rfl, hg5⟩
  have ST5 := hid (ST4.out.quiet hg5)
  clear hg5 ST4 c0 c1
  have c0 := ST5.out.2.1
  have c1 := ST5.out.2.2.1
  go_wp2_with fail
  refine (zzraise_eq B (n + 1) _ _ x e false _ ST5.out.1 (by omega) HXM.out we (by rw [held_raise]; rfl)).mono ?_
  rintro r w6 ⟨rfl, hm6, hg6⟩
  have ST6 := hid (ST5.out.raised hg6 hm6)
  clear hg6 hm6 ST5 c0 c1 HEM HH
  cases em <;> cases h
  all_goals
    go_wp2
    go_ret
    exact ⟨rfl, ST6.out.2.2.2.2.2.2⟩
end Go.Proofs.Qxb6604574aMods
