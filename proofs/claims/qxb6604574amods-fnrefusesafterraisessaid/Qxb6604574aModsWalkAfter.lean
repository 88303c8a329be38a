/-
  THE WALK of 'FnRefusesAfterRaises' (5).
-/
import Derived.Test.Qxb6604574aModsWalkAgrees
import Derived.Deep.RegionWith
namespace Go.Proofs.Qxb6604574aMods
open Go.RowKit Go.Maps

/-! ### THE PLAIN LAW -/
/-- The fences after the first k leases are raised on empty ones. -/
def upM (S : Nat → ByteArray) (E : Nat → Int) : Nat → Key → Option Int
  | 0 => fun _ => none
  | k + 1 => raiseM (upM S E k) (S k).data.toList (E k)

def upS (S : Nat → ByteArray) (E : Nat → Int) : Nat → Nat
  | 0 => 0
  | k + 1 => raiseS (upM S E k) (S k).data.toList (E k) (upS S E k)

/-- What the second loop keeps: was the holder found, and the greatest epoch. -/
def fnd (S : Nat → ByteArray) (x : Key) : Nat → Bool
  | 0 => false
  | k + 1 => if (S k).data.toList = x then true else fnd S x k
def top (S : Nat → ByteArray) (E : Nat → Int) (x : Key) : Nat → Int
  | 0 => 0
  | k + 1 => if (S k).data.toList = x then (if fnd S x k = false ∨ top S E x k < E k then E k else top S E x k) else top S E x k

theorem up_is (S : Nat → ByteArray) (E : Nat → Int) (x : Key) : ∀ k, (upM S E k x).isSome = fnd S x k ∧ (fnd S x k = true → (upM S E k x).getD 0 = top S E x k)
  | 0 => ⟨rfl, fun h => by simp [fnd] at h⟩
  | k + 1 => by
    obtain ⟨h1, h2⟩ := up_is S E x k
    rw [upM, fnd, top]
    by_cases e : (S k).data.toList = x
    · rw [if_pos e, if_pos e, e]
      cases hf : fnd S x k
      · have hh : held (upM S E k) x (E k) = false := by unfold held; rw [h1, hf]; rfl
        unfold raiseM
        rw [if_neg (by simp [hh]), setM_same]
        exact ⟨rfl, fun _ => by rw [if_pos (.inl rfl)]; rfl⟩
      · have h3 := h2 hf
        by_cases ht : top S E x k < E k
        · have hh : held (upM S E k) x (E k) = false := by unfold held; rw [h1, hf, h3]; simp; omega
          unfold raiseM
          rw [if_neg (by simp [hh]), setM_same]
          exact ⟨rfl, fun _ => by rw [if_pos (.inr ht)]; rfl⟩
        · have hh : held (upM S E k) x (E k) = true := by unfold held; rw [h1, hf, h3]; simp; omega
          unfold raiseM
          rw [if_pos hh]
          exact ⟨by rw [h1, hf], fun _ => by rw [if_neg (by simp; omega)]; exact h3⟩
    · rw [if_neg e, if_neg e]
      have h4 : raiseM (upM S E k) (S k).data.toList (E k) x = upM S E k x := by
        unfold raiseM
        split
        · rfl
        · exact setM_other _ _ _ _ (fun h => e h.symm)
      rw [h4]
      exact ⟨h1, h2⟩

theorem ref_is (S : Nat → ByteArray) (E : Nat → Int) (x : Key) (e : Int) (n : Nat) : refB (upM S E n) x e = (!x.isEmpty && (fnd S x n && decide (e ≤ top S E x n))) := by
  obtain ⟨h1, h2⟩ := up_is S E x n
  unfold refB held
  rw [h1]
  cases hf : fnd S x n
  · simp
  · rw [h2 hf]

/-! ### THE WALK -/
set_option maxHeartbeats 4000000 in
theorem after_walk (a : Option Addr) (n c : Nat) (x : ByteArray) (e : Int) (S : Nat → ByteArray) (E : Nat → Int) (w : World) (hn : n ≤ 65536) (hx : x.size ≤ 65536) (we : (Lit.int .u64 e).wf = true)
    (hnil : a = none → n = 0 ∧ c = 0) (hf : Fences w a n S E) (hS : ∀ i, i < n → (S i).size ≤ maxLen) (hE : ∀ i, i < n → (Lit.int .u64 (E i)).wf = true) :
    Calls Trym.prog 5 #[.slice a n c, .string x, .int .u64 e] w fun r w' => r = .returned (.bool true) ∧ Below w.heap.size w w' := by
  have hmm := @run_makeMap Trym.prog
  have HF := hid hf
  have HS := hid hS
  have HE := hid hE
  have HNL := hid hnil
  have hxm : x.size ≤ maxLen := by unfold maxLen; omega
  have HXM := hid hxm
  clear hf hS hE hnil hxm
  have d0 : decide ((65536 : Int) < (n : Int)) = false := decide_eq_false (by omega)
  have d1 : decide ((65536 : Int) < (x.size : Int)) = false := decide_eq_false (by omega)
  have hwe := bounds_u64 we
  go_enter Trym.func5, Trym.ntmps5
  go_wp2_with fail
  refine (guard14 a n c x e S E w (by unfold maxLen; omega) HXM.out HF.out HS.out).mono ?_
  rintro r x1 ⟨⟨z, rfl⟩, rfl⟩
  cases z
  · go_wp2
    go_ret
    exact ⟨rfl, Below.refl _ _⟩
  go_wp2_with fail
  refine (bytes_walk a n c S E w (by omega) HF.out HS.out).mono ?_
  rintro r x1 ⟨⟨z, rfl⟩, rfl⟩
  by_cases hz : (1048576 : Int) < wrap64 (z + (x.size : Int))
  · have hz1 : decide ((1048576 : Int) < wrap64 (z + (x.size : Int))) = true := decide_eq_true hz
    go_wp2
    go_ret
    exact ⟨rfl, Below.refl _ _⟩
  have hz1 : decide ((1048576 : Int) < wrap64 (z + (x.size : Int))) = false := decide_eq_false hz
  clear hz
  go_wp2_with fail
  refine (copy_all a n c S E w (by omega) HNL.out HF.out).mono ?_
  rintro r w1 ⟨a', rfl, hf1, hb1⟩
  have HF1 := hid hf1
  have HB1 := hid hb1
  clear hf1 hb1 HF HNL
  go_wp2_with fail
  go_loopw [8] (fun i wr => ∃ k : Nat, k ≤ n ∧ i = .int .i64 k ∧ Hid (MapIs wr w1.heap.size k (upM S E k) (upS S E k) ∧ Below w1.heap.size w1 wr)) (fun i _ => n - (intOf i).toNat)
  case atStart => exact ⟨0, Nat.zero_le _, rfl, ⟨mapIs_made w1, (Below.refl _ _).alloc (Nat.le_refl _) _⟩⟩
  case round =>
    clear hmm
    obtain ⟨k, hk, rfl, HR⟩ := hrel
    by_cases hlt : k < n
    · rcases HF1.out with h0 | ⟨b, off, rfl, hb, hcells⟩
      · omega
      have hc0 : wr.cell? ⟨b, off + k * 2, none⟩ = some (.string (S k)) := (HR.out.2.cell hb).trans (hcells k hlt).1
      have hc1 : wr.cell? ⟨b, off + k * 2 + 1, none⟩ = some (.int .u64 (E k)) := (HR.out.2.cell hb).trans (hcells k hlt).2
      have hlti : (k : Int) < (n : Int) := by omega
      have HSK := hid (HS.out k hlt)
      have HEK := hid (HE.out k hlt)
      clear hcells
      go_wp2
      go_region_with (go_at_call 11; refine (zzraise_walk w1.heap.size k (upS S E k) (upM S E k) (S k) (E k) _ HR.out.1.drew (by omega) HSK.out HEK.out).mono ?_; rintro r w2 ⟨rfl, hm2, hg2⟩; have RN : Hid (MapIs w2 w1.heap.size (k + 1) (upM S E (k + 1)) (upS S E (k + 1)) ∧ Below w1.heap.size w1 w2) := ⟨hm2, HR.out.2.drew.grown hg2 HR.out.2.size (fun j hj => by cases hj; exact Nat.le_refl _)⟩; clear hm2 hg2)
      all_goals
        go_wp2
        go_roundw
        case rel => exact ⟨k + 1, by omega, by go_num, by assumption⟩
        case measure => simp [intOf]; omega
    · have hkn : k = n := by omega
      subst hkn
      obtain ⟨r0, hr0⟩ : ∃ r0, refB (upM S E k) x.data.toList e = r0 := ⟨_, rfl⟩
      obtain ⟨em, hem⟩ : ∃ em, x.toList.isEmpty = em := ⟨_, rfl⟩
      have HR0 : Hid (r0 = (!em && (fnd S x.data.toList k && decide (e ≤ top S E x.data.toList k)))) := by
        show _ = _
        rw [← hr0, ref_is, ← hem, Lib.toList_data]
      clear hlt hk
      go_wp2_with fail
      refine (zzrefuses_eq w1.heap.size k _ _ x e r0 _ HR.out.1 HXM.out we hr0).mono ?_
      rintro r w3 ⟨rfl, hg3⟩
      have HB3 := hid (HR.out.2.grown hg3 HR.out.2.size (fun j hj => by cases hj))
      clear hg3 hr0 HR
      go_wp2_with fail
      go_loop [10, 11, 12] (fun f t i => ∃ j : Nat, j ≤ k ∧ i = .int .i64 j ∧ f = .bool (fnd S x.data.toList j) ∧ t = .int .u64 (top S E x.data.toList j)) (fun _ _ i => k - (intOf i).toNat)
      case atStart => exact ⟨0, Nat.zero_le _, rfl, rfl, rfl⟩
      case round =>
        obtain ⟨j, hj, rfl, rfl, rfl⟩ := hrel
        by_cases hlt : j < k
        · rcases (HF1.out.below HB3.out) with h0 | ⟨b, off, rfl, hb, hcells⟩
          · omega
          have hc0 := (hcells j hlt).1
          have hc1 := (hcells j hlt).2
          clear hcells
          obtain ⟨fb, hfb⟩ : ∃ fb, fnd S x.data.toList j = fb := ⟨_, rfl⟩
          obtain ⟨tp, htp⟩ : ∃ tp, top S E x.data.toList j = tp := ⟨_, rfl⟩
          have HFN : Hid (fnd S x.data.toList (j + 1) = if (S j).data.toList = x.data.toList then true else fb) := by
            show _ = _
            rw [fnd, hfb]
          have HTN : Hid (top S E x.data.toList (j + 1) = if (S j).data.toList = x.data.toList then (if fb = false ∨ tp < E j then E j else tp) else tp) := by
            show _ = _
            rw [top, hfb, htp]
          rw [hfb, htp]
          clear hfb htp
          by_cases heq : (S j).data.toList = x.data.toList
          · have hbq : ((S j).toList == x.toList) = true := by rw [Lib.toList_data, Lib.toList_data, heq]; simp
            have hbn : ((S j).toList != x.toList) = false := by rw [bne, hbq]; rfl
            have HFN1 : Hid (fnd S x.data.toList (j + 1) = true) := by rw [HFN.out, if_pos heq]; exact rfl
            cases fb
            · have HTN1 : Hid (top S E x.data.toList (j + 1) = E j) := by rw [HTN.out, if_pos heq, if_pos (.inl rfl)]; exact rfl
              clear heq HFN HTN
              go_wp2
              go_round
              case rel => exact ⟨j + 1, by omega, by go_num, by rw [HFN1.out], by rw [HTN1.out]⟩
              case measure => simp [intOf]; omega
            · by_cases ht : tp < E j
              · have HTN1 : Hid (top S E x.data.toList (j + 1) = E j) := by rw [HTN.out, if_pos heq, if_pos (.inr ht)]; exact rfl
                have hdt : decide (tp < E j) = true := decide_eq_true ht
                clear heq HFN HTN
                go_wp2
                go_round
                case rel => exact ⟨j + 1, by omega, by go_num, by rw [HFN1.out], by rw [HTN1.out]⟩
                case measure => simp [intOf]; omega
              · have HTN1 : Hid (top S E x.data.toList (j + 1) = tp) := by rw [HTN.out, if_pos heq, if_neg (by simp; omega)]; exact rfl
                have hdt : decide (tp < E j) = false := decide_eq_false ht
                clear heq HFN HTN
                go_wp2
                go_round
                case rel => exact ⟨j + 1, by omega, by go_num, by rw [HFN1.out], by rw [HTN1.out]⟩
                case measure => simp [intOf]; omega
          · have hbq : ((S j).toList == x.toList) = false := by rw [Lib.toList_data, Lib.toList_data]; simpa using heq
            have hbn : ((S j).toList != x.toList) = true := by rw [bne, hbq]; rfl
            have HFN1 : Hid (fnd S x.data.toList (j + 1) = fb) := by rw [HFN.out, if_neg heq]; exact rfl
            have HTN1 : Hid (top S E x.data.toList (j + 1) = tp) := by rw [HTN.out, if_neg heq]; exact rfl
            clear heq HFN HTN
            go_wp2
            go_round
            case rel => exact ⟨j + 1, by omega, by go_num, by rw [HFN1.out], by rw [HTN1.out]⟩
            case measure => simp [intOf]; omega
        · have hjk : j = k := by omega
          subst hjk
          obtain ⟨fb, hfb⟩ : ∃ fb, fnd S x.data.toList j = fb := ⟨_, rfl⟩
          obtain ⟨tp, htp⟩ : ∃ tp, top S E x.data.toList j = tp := ⟨_, rfl⟩
          have hr0 := HR0.out
          rw [hfb, htp] at hr0
          rw [hfb, htp]
          clear hfb htp HR0
          have HBZ := hid (HB1.out.trans (HB3.out.mono HB1.out.size))
          by_cases het : e ≤ tp
          · have hde : decide (e ≤ tp) = true := decide_eq_true het
            rw [hde] at hr0
            subst hr0
            cases em <;> cases fb
            all_goals
              go_wp2
              go_ret
              exact ⟨rfl, HBZ.out⟩
          · have hde : decide (e ≤ tp) = false := decide_eq_false het
            rw [hde] at hr0
            subst hr0
            cases em <;> cases fb
            all_goals
              go_wp2
              go_ret
              exact ⟨rfl, HBZ.out⟩
end Go.Proofs.Qxb6604574aMods
