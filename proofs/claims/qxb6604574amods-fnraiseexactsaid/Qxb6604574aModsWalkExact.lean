/-
  THE WALK of 'FnRaiseExact' (3).
-/
import Derived.Test.Qxb6604574aModsWalkAgrees
namespace Go.Proofs.Qxb6604574aMods
open Go.RowKit Go.Maps

theorem build_has (S : Nat → ByteArray) (E : Nat → Int) (i : Nat) : ∀ n, i < n → (buildM S E n (S i).data.toList).isSome = true
  | 0, h => by omega
  | n + 1, h => by
    rw [buildM]
    by_cases e : (S i).data.toList = (S n).data.toList
    · rw [e, setM_same]; rfl
    · rw [setM_other _ _ _ _ e]
      refine build_has S E i n ?_
      rcases Nat.lt_or_ge i n with h1 | h1
      · exact h1
      · exact absurd (by rw [show i = n by omega]) e

theorem raiseM_held {M : Key → Option Int} {k : Key} {e : Int} (h : held M k e = true) : raiseM M k e = M := by unfold raiseM; rw [if_pos h]
theorem raiseS_held {M : Key → Option Int} {k : Key} {e : Int} (h : held M k e = true) (s : Nat) : raiseS M k e s = s := by unfold raiseS; rw [if_pos h]
theorem raiseM_not {M : Key → Option Int} {k : Key} {e : Int} (h : held M k e = false) : raiseM M k e = setM M k e := by unfold raiseM; rw [if_neg (by simp [h])]
theorem raiseS_not {M : Key → Option Int} {k : Key} {e : Int} (h : held M k e = false) (s : Nat) : raiseS M k e s = setS M k s := by unfold raiseS; rw [if_neg (by simp [h])]

theorem raiseM_other (M : Key → Option Int) (k k' : Key) (e : Int) (h : k' ≠ k) : raiseM M k e k' = M k' := by
  unfold raiseM
  split
  · rfl
  · exact setM_other _ _ _ _ h

set_option maxHeartbeats 4000000 in
theorem exact_walk (a : Option Addr) (n c : Nat) (x : ByteArray) (e : Int) (S : Nat → ByteArray) (E : Nat → Int) (w : World) (hn : n ≤ 65536) (hx : x.size ≤ 65536) (we : (Lit.int .u64 e).wf = true)
    (hnil : a = none → n = 0 ∧ c = 0) (hf : Fences w a n S E) (hS : ∀ i, i < n → (S i).size ≤ maxLen) (hE : ∀ i, i < n → (Lit.int .u64 (E i)).wf = true) :
    Calls Trym.prog 3 #[.slice a n c, .string x, .int .u64 e] w fun r w' => r = .returned (.bool true) ∧ Below w.heap.size w w' := by
  have HF := hid hf
  have HS := hid hS
  have HE := hid hE
  have HNL := hid hnil
  have hxm : x.size ≤ maxLen := by unfold maxLen; omega
  have HXM := hid hxm
  clear hf hS hE hnil hxm
  have d0 : decide ((65536 : Int) < (n : Int)) = false := decide_eq_false (by omega)
  have d1 : decide ((65536 : Int) < (x.size : Int)) = false := decide_eq_false (by omega)
  have hwe := bounds_u64 we
  go_enter Trym.func3, Trym.ntmps3
  go_wp2_with fail
  refine (guard7 a n c x e S E w (by unfold maxLen; omega) HXM.out HF.out HS.out).mono ?_
  rintro r x1 ⟨⟨z, rfl⟩, rfl⟩
  cases z
  · go_wp2
    go_ret
    exact ⟨rfl, Below.refl _ _⟩
  go_wp2_with fail
  refine (bytes_walk a n c S E w (by omega) HF.out HS.out).mono ?_
  rintro r x1 ⟨⟨z, rfl⟩, rfl⟩
  by_cases hz : (1048576 : Int) < wrap64 (z + (x.size : Int))
  · have hz1 : decide ((1048576 : Int) < wrap64 (z + (x.size : Int))) = true := decide_eq_true hz
    go_wp2
    go_ret
    exact ⟨rfl, Below.refl _ _⟩
  have hz1 : decide ((1048576 : Int) < wrap64 (z + (x.size : Int))) = false := decide_eq_false hz
  clear hz
  go_wp2_with fail
  refine (copy_all a n c S E w (by omega) HNL.out HF.out).mono ?_
  rintro r w1 ⟨a', rfl, hf1, hb1⟩
  have HF1 := hid hf1
  have HB1 := hid hb1
  clear hf1 hb1 HF HNL
  go_wp2_with fail
  refine (build_walk a' n n S E w1 (by omega) HF1.out HS.out HE.out).mono ?_
  rintro r w2 ⟨rfl, hm2, hb2⟩
  have HM2 := hid hm2
  have HB2 := hid hb2
  clear hm2 hb2
  go_wp2_with fail
  refine (build_walk a' n n S E w2 (by omega) (HF1.out.below HB2.out) HS.out HE.out).mono ?_
  rintro r w3 ⟨rfl, hm3, hb3⟩
  have HM3 := hid hm3
  have HM31 := hid (HM2.out.below hb3 HM2.out.lt)
  have HB3 := hid (HB2.out.trans (hb3.mono HB2.out.size))
  have HBH : Hid (∀ i, i < n → (buildM S E n (S i).data.toList).isSome = true) := fun i hi => build_has S E i n hi
  obtain ⟨B1, hB1⟩ : ∃ B, B = w1.heap.size := ⟨_, rfl⟩
  obtain ⟨B2, hB2⟩ : ∃ B, B = w2.heap.size := ⟨_, rfl⟩
  have hB12 : B1 < B2 := by rw [hB1, hB2]; exact HM2.out.lt
  have HB1w : Hid (w1.heap.size ≤ B2) := by rw [hB2]; exact HB2.out.size
  rw [← hB1] at HM31
  rw [← hB2] at HM3
  rw [← hB1, ← hB2]
  clear hm3 hb3 HM2 HB2 hB1 hB2 HE
  obtain ⟨M, hM⟩ : ∃ M, M = buildM S E n := ⟨_, rfl⟩
  obtain ⟨s, hs⟩ : ∃ s, s = buildS S E n := ⟨_, rfl⟩
  rw [← hM, ← hs] at HM3 HM31
  rw [← hM] at HBH
  have hsn : s ≤ n := HM3.out.size_le
  clear hM hs
  have hl1 := HM31.out.look_ok 27 Trym.underlying27 x HXM.out
  obtain ⟨cc, hcc⟩ : ∃ cc, (M x.data.toList).getD 0 = cc := ⟨_, rfl⟩
  obtain ⟨hd, hhd⟩ : ∃ hd, (M x.data.toList).isSome = hd := ⟨_, rfl⟩
  rw [hcc, hhd] at hl1
  have HCC := hid hcc
  have HHD := hid hhd
  clear hcc hhd
  by_cases hec : hd = true ∧ e ≤ cc
  · obtain ⟨hd1, hec1⟩ := hec
    subst hd1
    have HELD : Hid (held M x.data.toList e = true) := by
      show _ = _
      unfold held
      rw [HHD.out, HCC.out]
      simpa using hec1
    by_cases hlt0 : e < cc
    · have hgt : decide (e < cc) = true := decide_eq_true hlt0
      go_wp2_with fail
      refine (zzraise_eq B2 n s M x e false _ HM3.out (by omega) HXM.out we (by rw [HELD.out]; rfl)).mono ?_
      rintro r w4 ⟨rfl, hm4, hg4⟩
      have HM41 := hid (HM31.out.kept hg4 (by intro h; injection h; omega))
      have HB4 := hid ((Below.refl w1.heap.size w1).trans (HB3.out.grown hg4 HB3.out.size (fun j hj => by cases hj; exact HB1w.out)))
      have HM4 := hid hm4
      have hl2 := hm4.look_ok 27 Trym.underlying27 x HXM.out
      have hlA : ∀ ty, (Builtin.len_ #[27] ty #[.map (some B2)]).run Trym.prog w4 = .ok (.int .i64 (s : Int)) w4 := fun ty => by
        have := hm4.len 27 Trym.underlying27 ty
        rw [raiseS_held HELD.out] at this
        simpa using this
      have hlB : ∀ ty, (Builtin.len_ #[27] ty #[.map (some B1)]).run Trym.prog w4 = .ok (.int .i64 (s : Int)) w4 := fun ty => HM41.out.len 27 Trym.underlying27 ty
      rw [raiseM_held HELD.out, HHD.out, HCC.out] at hl2
      clear hm4 hg4 HM3 HM31 HB3 hl1
      go_wp2_with fail
      go_loop [17] (fun i => ∃ j : Nat, j ≤ n ∧ i = .int .i64 j) (fun i => n - (intOf i).toNat)
      case atStart => exact ⟨0, Nat.zero_le _, rfl⟩
      case round =>
        clear hl2 hlA hlB
        obtain ⟨j, hj, rfl⟩ := hrel
        by_cases hlt : j < n
        · rcases (HF1.out.below HB4.out) with h0 | ⟨b, off, rfl, hb, hcells⟩
          · omega
          have hc0 := (hcells j hlt).1
          clear hcells
          by_cases heq : (S j).data.toList = x.data.toList
          · have hbq : ((S j).toList == x.toList) = true := by rw [Lib.toList_data, Lib.toList_data, heq]; simp
            clear heq
            go_wp2
            go_round
            case rel => exact ⟨j + 1, by omega, by go_num⟩
            case measure => simp [intOf]; omega
          · have hbq : ((S j).toList == x.toList) = false := by rw [Lib.toList_data, Lib.toList_data]; simpa using heq
            have hla := HM4.out.look_ok 27 Trym.underlying27 (S j) (HS.out j hlt)
            have hlb := HM41.out.look 27 Trym.underlying27 (S j) (HS.out j hlt)
            rw [raiseM_other _ _ _ _ heq, HBH.out j hlt] at hla
            obtain ⟨cj, hcj⟩ : ∃ cj, (M (S j).data.toList).getD 0 = cj := ⟨_, rfl⟩
            rw [hcj] at hla hlb
            clear heq hcj
            go_wp2
            go_round
            case rel => exact ⟨j + 1, by omega, by go_num⟩
            case measure => simp [intOf]; omega
        · go_wp2
          go_ret
          exact ⟨rfl, HB1.out.trans (HB4.out.mono HB1.out.size)⟩
    · have hce : e = cc := by omega
      subst hce
      go_wp2_with fail
      refine (zzraise_eq B2 n s M x e false _ HM3.out (by omega) HXM.out we (by rw [HELD.out]; rfl)).mono ?_
      rintro r w4 ⟨rfl, hm4, hg4⟩
      have HM41 := hid (HM31.out.kept hg4 (by intro h; injection h; omega))
      have HB4 := hid ((Below.refl w1.heap.size w1).trans (HB3.out.grown hg4 HB3.out.size (fun j hj => by cases hj; exact HB1w.out)))
      have HM4 := hid hm4
      have hl2 := hm4.look_ok 27 Trym.underlying27 x HXM.out
      have hlA : ∀ ty, (Builtin.len_ #[27] ty #[.map (some B2)]).run Trym.prog w4 = .ok (.int .i64 (s : Int)) w4 := fun ty => by
        have := hm4.len 27 Trym.underlying27 ty
        rw [raiseS_held HELD.out] at this
        simpa using this
      have hlB : ∀ ty, (Builtin.len_ #[27] ty #[.map (some B1)]).run Trym.prog w4 = .ok (.int .i64 (s : Int)) w4 := fun ty => HM41.out.len 27 Trym.underlying27 ty
      rw [raiseM_held HELD.out, HHD.out, HCC.out] at hl2
      clear hm4 hg4 HM3 HM31 HB3 hl1
      go_wp2_with fail
      go_loop [17] (fun i => ∃ j : Nat, j ≤ n ∧ i = .int .i64 j) (fun i => n - (intOf i).toNat)
      case atStart => exact ⟨0, Nat.zero_le _, rfl⟩
      case round =>
        clear hl2 hlA hlB
        obtain ⟨j, hj, rfl⟩ := hrel
        by_cases hlt : j < n
        · rcases (HF1.out.below HB4.out) with h0 | ⟨b, off, rfl, hb, hcells⟩
          · omega
          have hc0 := (hcells j hlt).1
          clear hcells
          by_cases heq : (S j).data.toList = x.data.toList
          · have hbq : ((S j).toList == x.toList) = true := by rw [Lib.toList_data, Lib.toList_data, heq]; simp
            clear heq
            go_wp2
            go_round
            case rel => exact ⟨j + 1, by omega, by go_num⟩
            case measure => simp [intOf]; omega
          · have hbq : ((S j).toList == x.toList) = false := by rw [Lib.toList_data, Lib.toList_data]; simpa using heq
            have hla := HM4.out.look_ok 27 Trym.underlying27 (S j) (HS.out j hlt)
            have hlb := HM41.out.look 27 Trym.underlying27 (S j) (HS.out j hlt)
            rw [raiseM_other _ _ _ _ heq, HBH.out j hlt] at hla
            obtain ⟨cj, hcj⟩ : ∃ cj, (M (S j).data.toList).getD 0 = cj := ⟨_, rfl⟩
            rw [hcj] at hla hlb
            clear heq hcj
            go_wp2
            go_round
            case rel => exact ⟨j + 1, by omega, by go_num⟩
            case measure => simp [intOf]; omega
        · go_wp2
          go_ret
          exact ⟨rfl, HB1.out.trans (HB4.out.mono HB1.out.size)⟩
  · have HELD : Hid (held M x.data.toList e = false) := by
      show _ = _
      unfold held
      rw [HHD.out, HCC.out]
      cases hd
      · rfl
      · simpa using hec
    cases hd
    · clear hec
      go_wp2_with fail
      refine (zzraise_eq B2 n s M x e true _ HM3.out (by omega) HXM.out we (by rw [HELD.out]; rfl)).mono ?_
      rintro r w4 ⟨rfl, hm4, hg4⟩
      have HM41 := hid (HM31.out.kept hg4 (by intro h; injection h; omega))
      have HB4 := hid ((Below.refl w1.heap.size w1).trans (HB3.out.grown hg4 HB3.out.size (fun j hj => by cases hj; exact HB1w.out)))
      have HM4 := hid hm4
      have hl2 := hm4.look_ok 27 Trym.underlying27 x HXM.out
      have hlA : ∀ ty, (Builtin.len_ #[27] ty #[.map (some B2)]).run Trym.prog w4 = .ok (.int .i64 ((s : Int) + 1)) w4 := fun ty => by
        have := hm4.len 27 Trym.underlying27 ty
        rw [raiseS_not HELD.out, setS, HHD.out] at this
        simpa using this
      have hlB : ∀ ty, (Builtin.len_ #[27] ty #[.map (some B1)]).run Trym.prog w4 = .ok (.int .i64 (s : Int)) w4 := fun ty => HM41.out.len 27 Trym.underlying27 ty
      rw [raiseM_not HELD.out, setM_same] at hl2
      clear hm4 hg4 HM3 HM31 HB3 hl1
      go_wp2_with fail
      go_loop [17] (fun i => ∃ j : Nat, j ≤ n ∧ i = .int .i64 j) (fun i => n - (intOf i).toNat)
      case atStart => exact ⟨0, Nat.zero_le _, rfl⟩
      case round =>
        clear hl2 hlA hlB
        obtain ⟨j, hj, rfl⟩ := hrel
        by_cases hlt : j < n
        · rcases (HF1.out.below HB4.out) with h0 | ⟨b, off, rfl, hb, hcells⟩
          · omega
          have hc0 := (hcells j hlt).1
          clear hcells
          by_cases heq : (S j).data.toList = x.data.toList
          · have hbq : ((S j).toList == x.toList) = true := by rw [Lib.toList_data, Lib.toList_data, heq]; simp
            clear heq
            go_wp2
            go_round
            case rel => exact ⟨j + 1, by omega, by go_num⟩
            case measure => simp [intOf]; omega
          · have hbq : ((S j).toList == x.toList) = false := by rw [Lib.toList_data, Lib.toList_data]; simpa using heq
            have hla := HM4.out.look_ok 27 Trym.underlying27 (S j) (HS.out j hlt)
            have hlb := HM41.out.look 27 Trym.underlying27 (S j) (HS.out j hlt)
            rw [raiseM_other _ _ _ _ heq, HBH.out j hlt] at hla
            obtain ⟨cj, hcj⟩ : ∃ cj, (M (S j).data.toList).getD 0 = cj := ⟨_, rfl⟩
            rw [hcj] at hla hlb
            clear heq hcj
            go_wp2
            go_round
            case rel => exact ⟨j + 1, by omega, by go_num⟩
            case measure => simp [intOf]; omega
        · go_wp2
          go_ret
          exact ⟨rfl, HB1.out.trans (HB4.out.mono HB1.out.size)⟩
    · have hlt0 : cc < e := by
        have h3 : ¬ e ≤ cc := fun h => hec ⟨rfl, h⟩
        omega
      have hgt : decide (e < cc) = false := decide_eq_false (by omega)
      have hne : (e != cc) = true := by simp; omega
      clear hec
      go_wp2_with fail
      refine (zzraise_eq B2 n s M x e true _ HM3.out (by omega) HXM.out we (by rw [HELD.out]; rfl)).mono ?_
      rintro r w4 ⟨rfl, hm4, hg4⟩
      have HM41 := hid (HM31.out.kept hg4 (by intro h; injection h; omega))
      have HB4 := hid ((Below.refl w1.heap.size w1).trans (HB3.out.grown hg4 HB3.out.size (fun j hj => by cases hj; exact HB1w.out)))
      have HM4 := hid hm4
      have hl2 := hm4.look_ok 27 Trym.underlying27 x HXM.out
      have hlA : ∀ ty, (Builtin.len_ #[27] ty #[.map (some B2)]).run Trym.prog w4 = .ok (.int .i64 (s : Int)) w4 := fun ty => by
        have := hm4.len 27 Trym.underlying27 ty
        rw [raiseS_not HELD.out, setS, HHD.out] at this
        simpa using this
      have hlB : ∀ ty, (Builtin.len_ #[27] ty #[.map (some B1)]).run Trym.prog w4 = .ok (.int .i64 (s : Int)) w4 := fun ty => HM41.out.len 27 Trym.underlying27 ty
      rw [raiseM_not HELD.out, setM_same] at hl2
      clear hm4 hg4 HM3 HM31 HB3 hl1
      go_wp2_with fail
      go_loop [17] (fun i => ∃ j : Nat, j ≤ n ∧ i = .int .i64 j) (fun i => n - (intOf i).toNat)
      case atStart => exact ⟨0, Nat.zero_le _, rfl⟩
      case round =>
        clear hl2 hlA hlB
        obtain ⟨j, hj, rfl⟩ := hrel
        by_cases hlt : j < n
        · rcases (HF1.out.below HB4.out) with h0 | ⟨b, off, rfl, hb, hcells⟩
          · omega
          have hc0 := (hcells j hlt).1
          clear hcells
          by_cases heq : (S j).data.toList = x.data.toList
          · have hbq : ((S j).toList == x.toList) = true := by rw [Lib.toList_data, Lib.toList_data, heq]; simp
            clear heq
            go_wp2
            go_round
            case rel => exact ⟨j + 1, by omega, by go_num⟩
            case measure => simp [intOf]; omega
          · have hbq : ((S j).toList == x.toList) = false := by rw [Lib.toList_data, Lib.toList_data]; simpa using heq
            have hla := HM4.out.look_ok 27 Trym.underlying27 (S j) (HS.out j hlt)
            have hlb := HM41.out.look 27 Trym.underlying27 (S j) (HS.out j hlt)
            rw [raiseM_other _ _ _ _ heq, HBH.out j hlt] at hla
            obtain ⟨cj, hcj⟩ : ∃ cj, (M (S j).data.toList).getD 0 = cj := ⟨_, rfl⟩
            rw [hcj] at hla hlb
            clear heq hcj
            go_wp2
            go_round
            case rel => exact ⟨j + 1, by omega, by go_num⟩
            case measure => simp [intOf]; omega
        · go_wp2
          go_ret
          exact ⟨rfl, HB1.out.trans (HB4.out.mono HB1.out.size)⟩
end Go.Proofs.Qxb6604574aMods
