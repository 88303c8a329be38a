/-
  THE WALK of 'zzResolveModel' (7).
-/
import Derived.Test.Qxb6604474aModsModelParts
import Derived.Laws.BytesArg
namespace Go.Proofs.Qxb6604474aMods
open Go.RowKit Go.Lib

set_option maxHeartbeats 1000000 in
theorem model_abs (s t : ByteArray) (w : World) (hs : s.size ≤ 65536) (ht : t.size ≤ 65536) (hp : t.data.toList.head? = some 47) :
    Calls Trym.prog 7 #[.string s, .string t] w fun e w' => e = .returned (.string (str (inter ((segsOf s.data.toList t.data.toList).foldl gstep [])))) ∧ Below w.heap.size w w' := by
  obtain ⟨i9, hi9, hi9a, hi9b, hi9c⟩ := info_parts Trym.info9
  obtain ⟨i5, hi5, hi5a, hi5b, hi5c⟩ := info_parts Trym.info5
  have ht0 : 0 < t.size := by
    rw [Lib.size_eq]
    cases h : t.data.toList with
    | nil => rw [h] at hp; simp at hp
    | cons a b => simp
  have h47 : ((t[0].toNat : Int) == 47) = true := by
    rw [Pa.beq47]
    rw [List.head?_eq_getElem?, Pa.at_eq t 0 ht0] at hp
    simpa using hp
  obtain ⟨X, hX⟩ : ∃ X, X = Pa.els t.data.toList := ⟨_, rfl⟩
  have HX : Hid (X = Pa.els t.data.toList) := hX
  have HXS : Hid (X = segsOf s.data.toList t.data.toList) := by
    show _ = _
    unfold segsOf
    rw [if_pos hp]
    exact hX
  have hXl : X.length ≤ 65537 := by
    rw [hX]
    have := els_length t.data.toList
    rw [← Lib.size_eq] at this
    omega
  have hXpos : 0 < X.length := by
    rw [hX]
    obtain ⟨a, b, e⟩ := Pa.els_ne t.data.toList
    rw [e]; simp
  clear hX hp
  have hd0 : decide ((0 : Int) < (t.size : Int)) = true := decide_eq_true (by omega)
  go_enter Trym.func7, Trym.ntmps7
  go_wp2_with fail
  refine (split_walk t _ ht).mono ?_
  rw [← HX.out]
  rintro e w1 ⟨v, rfl, hown, hb1⟩
  obtain ⟨g, c, hv, hc, hgB, hg, hlies⟩ := own_form hown rfl hXpos
  subst hv
  have HL : Hid (Lies w1 g X) := hlies
  have HB1 : Hid (Below w.heap.size w w1) := hb1
  clear hown hlies hb1 hgB
  go_wp2_with fail
  go_loopw [5, 7] (fun v i wr => ∃ k : Nat, k ≤ X.length ∧ i = .int .i64 k ∧ Hid (Holds w1.heap.size w1 wr v (X.take k))) (fun _ i _ => X.length - (RowKit.intOf i).toNat)
  case atStart => exact ⟨0, Nat.zero_le _, rfl, ⟨by rw [List.take_zero]; exact World.ownsRow_nil _ _ _ _, Below.refl _ _⟩⟩
  case round =>
    obtain ⟨k, hk, rfl, HR⟩ := hrel
    by_cases hlt : k < X.length
    · obtain ⟨x, hx⟩ : ∃ x, x = str (X.getD k []) := ⟨_, rfl⟩
      have hcx : wr.cell? ⟨g, k, none⟩ = some (.string x) := by rw [hx]; exact (HL.out.below HR.out.2 hg) k hlt
      have HXX : Hid (x = str (X.getD k [])) := hx
      have hsz : w1.heap.size ≤ wr.heap.size := HR.out.2.size
      have hlen : (X.take k).length = k := by rw [List.length_take]; omega
      have hown := HR.out.1
      rw [hlen] at hown
      have HO : Hid (wr.ownsRow w1.heap.size 9 1 _ k (strs (X.take k))) := hown
      have HLn : Hid ((X.take k).length = k) := hlen
      clear hx hown hlen
      go_wp2_with (first | (at_builtin; refine wpList_append_own_at _ rfl _ _ 24 rfl w1.heap.size 9 i9 (.string ⟨#[]⟩) 1 16 Trym.underlying24 hi9 hi9a hi9b hi9c rfl (by decide) _ _ _ rfl (HO.out.alloc _) ⟨wr.heap.size, 0, none⟩ 1 1 [.string x] rfl rfl ?c1 ?c2 ?c3 ?c4 ?c5 ?_) | go_in)
      case c1 => exact cell_one_new _ _ _
      case c2 => intro u hu; simp at hu; subst hu; rfl
      case c3 => unfold maxLen; omega
      case c4 => omega
      case c5 => simp; omega
      intro v' w2 hown' hgrow _ _
      have RN : Hid (Holds w1.heap.size w1 w2 v' (X.take (k + 1))) := by
        rw [take_succ_snoc X k hlt]
        exact HR.out.snoc hsz (by rw [HLn.out, ← HXX.out]; exact hown') hgrow
      clear hown' hgrow HR HO HXX HLn hcx
      go_wp2
      go_roundw
      case rel => exact ⟨k + 1, by omega, by go_num, RN⟩
      case measure => simp [RowKit.intOf]; omega
    · have hkn : k = X.length := by omega
      subst hkn
      have hF := HR.out
      rw [List.take_length] at hF
      have HF := hid hF
      clear hF
      have HBA : Hid (Below w.heap.size w wr) := HB1.out.trans (HR.out.2.mono HB1.out.size)
      clear HR HL HB1 hlt hk
      have HM : Hid (∀ x ∈ X, x.length ≤ 65536) := by rw [HXS.out]; exact segs_elem_length _ _ 65536 (by rw [← Lib.size_eq]; exact hs) (by rw [← Lib.size_eq]; exact ht)
      obtain ⟨wA, hwA⟩ : ∃ y, y = wr := ⟨wr, rfl⟩
      subst hwA
      obtain ⟨gs, cs, hvf, hcs, hgB, hgs, hlies⟩ := own_form HF.out.1 rfl hXpos
      subst hvf
      have HLS : Hid (Lies wA gs X) := hlies
      clear hlies hgB HF
      go_wp2_with fail
      go_loopw [12, 13] (fun v i wr => ∃ k : Nat, k ≤ X.length ∧ i = .int .i64 k ∧ Hid (Holds wA.heap.size wA wr v (stkOf X k))) (fun _ i _ => X.length - (RowKit.intOf i).toNat)
      case atStart => exact ⟨0, Nat.zero_le _, rfl, ⟨World.ownsRow_nil _ _ _ _, Below.refl _ _⟩⟩
      case round =>
        obtain ⟨k, hk, rfl, HR⟩ := hrel
        by_cases hlt : k < X.length
        · obtain ⟨x, hx⟩ : ∃ x, x = str (X.getD k []) := ⟨_, rfl⟩
          have hcx : wr.cell? ⟨gs, k, none⟩ = some (.string x) := by rw [hx]; exact (HLS.out.below HR.out.2 hgs) k hlt
          have hxl : x.toList = X.getD k [] := by rw [hx, Lib.toList_data, str_data]
          have hsz : wA.heap.size ≤ wr.heap.size := HR.out.2.size
          have hsl := stkOf_length X k (by omega)
          have HS1 : Hid (stkOf X (k + 1) = gstep (stkOf X k) (X.getD k [])) := stkOf_succ X k hlt
          have HXX : Hid (x = str (X.getD k [])) := hx
          clear hx
          obtain ⟨a, cap, hva, hcap⟩ := own_shape HR.out.1
          obtain ⟨n, hn⟩ : ∃ n, (stkOf X k).length = n := ⟨_, rfl⟩
          rw [hn] at hva hcap hsl
          subst hva
          have HN : Hid ((stkOf X k).length = n) := hn
          clear hn
          by_cases h0 : X.getD k [] = []
          · have e0 : x.toList.isEmpty = true := by rw [hxl, h0]; rfl
            have RN : Hid (Holds wA.heap.size wA wr (.slice a n cap) (stkOf X (k + 1))) := by rw [HS1.out, gstep_skip _ _ (.inl h0)]; exact HR.out
            clear h0 hxl HR
            go_wp2
            go_roundw
            case rel => exact ⟨k + 1, by omega, by go_num, RN⟩
            case measure => simp [RowKit.intOf]; omega
          have e0 : x.toList.isEmpty = false := by rw [hxl]; simpa using h0
          by_cases h1 : X.getD k [] = [46]
          · have e1 : (x.toList == [46]) = true := by rw [hxl, h1]; rfl
            have RN : Hid (Holds wA.heap.size wA wr (.slice a n cap) (stkOf X (k + 1))) := by rw [HS1.out, gstep_skip _ _ (.inr (.inl h1))]; exact HR.out
            clear h0 h1 hxl HR
            go_wp2
            go_roundw
            case rel => exact ⟨k + 1, by omega, by go_num, RN⟩
            case measure => simp [RowKit.intOf]; omega
          have e1 : (x.toList == [46]) = false := by rw [hxl]; simpa using h1
          by_cases h2 : X.getD k [] = [46, 46]
          · have e2 : (x.toList == [46, 46]) = true := by rw [hxl, h2]; rfl
            by_cases hst : n = 0
            · subst hst
              have RN : Hid (Holds wA.heap.size wA wr (.slice a 0 cap) (stkOf X (k + 1))) := by rw [HS1.out, gstep_skip _ _ (.inr (.inr ⟨h2, List.eq_nil_of_length_eq_zero HN.out⟩))]; exact HR.out
              clear h0 h1 h2 hxl HR
              go_wp2
              go_roundw
              case rel => exact ⟨k + 1, by omega, by go_num, RN⟩
              case measure => simp [RowKit.intOf]; omega
            · obtain ⟨m, hm⟩ : ∃ m, n = m + 1 := ⟨n - 1, by omega⟩
              subst hm
              obtain ⟨g', c', hv', _, _, _, _⟩ := own_form HR.out.1 rfl (by rw [HN.out]; omega)
              rw [HN.out] at hv'
              simp only [Value.slice.injEq, true_and] at hv'
              obtain ⟨rfl, rfl⟩ := hv'
              have RN : Hid (Holds wA.heap.size wA wr (.slice (some ⟨g', 0, none⟩) m cap) (stkOf X (k + 1))) := by rw [HS1.out, h2, gstep_pop]; exact HR.out.pop HN.out
              have hgt : (0 : Int) < ((m : Int) + 1) := by omega
              clear h0 h1 h2 hxl HR hst
              go_wp2
              go_roundw
              case rel => exact ⟨k + 1, by omega, by go_num, RN⟩
              case measure => simp [RowKit.intOf]; omega
          · have e2 : (x.toList == [46, 46]) = false := by rw [hxl]; simpa using h2
            have HO : Hid (wr.ownsRow wA.heap.size 9 1 (.slice a n cap) n (strs (stkOf X k))) := by have := HR.out.1; rw [HN.out] at this; exact this
            have HPU : Hid (stkOf X (k + 1) = stkOf X k ++ [X.getD k []]) := by rw [HS1.out, gstep_push _ _ h0 h1 h2]; exact rfl
            clear h0 h1 h2 hxl
            go_wp2_with (first | (at_builtin; refine wpList_append_own_at _ rfl _ _ 24 rfl wA.heap.size 9 i9 (.string ⟨#[]⟩) 1 16 Trym.underlying24 hi9 hi9a hi9b hi9c rfl (by decide) _ _ _ rfl (HO.out.alloc _) ⟨wr.heap.size, 0, none⟩ 1 1 [.string x] rfl rfl ?p1 ?p2 ?p3 ?p4 ?p5 ?_) | go_in)
            case p1 => exact cell_one_new _ _ _
            case p2 => intro u hu; simp at hu; subst hu; rfl
            case p3 => unfold maxLen; omega
            case p4 => omega
            case p5 => simp; omega
            intro v' w2 hown' hgrow _ _
            have RN : Hid (Holds wA.heap.size wA w2 v' (stkOf X (k + 1))) := by
              rw [HPU.out]
              exact HR.out.snoc hsz (by rw [HN.out, ← HXX.out]; exact hown') hgrow
            clear hown' hgrow HR HO HXX HN hcx HPU
            go_wp2
            go_roundw
            case rel => exact ⟨k + 1, by omega, by go_num, RN⟩
            case measure => simp [RowKit.intOf]; omega
        · have hkn : k = X.length := by omega
          subst hkn
          obtain ⟨S, hS⟩ : ∃ S, S = stkOf X X.length := ⟨_, rfl⟩
          have hSl : S.length ≤ 200000 := by rw [hS]; have := stkOf_length X X.length (Nat.le_refl _); omega
          have HSM : Hid (∀ x ∈ S, x.length ≤ 65536) := by rw [hS]; exact fun x hx => HM.out x (stkOf_mem X x _ (Nat.le_refl _) hx)
          have HSS : Hid (S = stkOf X X.length) := hS
          have hF := HR.out
          rw [← hS] at hF
          have HF := hid hF
          have HBB : Hid (Below w.heap.size w wr) := HBA.out.trans (HR.out.2.mono HBA.out.size)
          obtain ⟨wB, hwB⟩ : ∃ y, y = wr := ⟨wr, rfl⟩
          subst hwB
          clear hS hF HR HBA HLS hlt hk
          obtain ⟨a, cap, hva, hcap⟩ := own_shape HF.out.1
          obtain ⟨n, hn⟩ : ∃ n, S.length = n := ⟨_, rfl⟩
          rw [hn] at hva hcap hSl
          subst hva
          have HN : Hid (S.length = n) := hn
          clear hn
          go_wp2_with fail
          go_loopw [15, 16] (fun v i wr => ∃ k : Nat, k ≤ n ∧ i = .int .i64 k ∧ Hid (HoldsB wB.heap.size wB wr v (inter (S.take k)))) (fun _ i _ => n - (RowKit.intOf i).toNat)
          case atStart => exact ⟨0, Nat.zero_le _, rfl, ⟨by rw [List.take_zero, inter_nil]; exact World.ownsRow_nil _ _ _ _, Below.refl _ _⟩⟩
          case round =>
            obtain ⟨k, hk, rfl, HR⟩ := hrel
            have hil := inter_len 65536 S HSM.out k (by rw [HN.out]; omega)
            have hsz : wB.heap.size ≤ wr.heap.size := HR.out.2.size
            by_cases hlt : k < n
            · obtain ⟨g', c', hv', _, hgB, hg', hlies⟩ := own_form HF.out.1 rfl (by rw [HN.out]; omega)
              rw [HN.out] at hv'
              simp only [Value.slice.injEq, true_and] at hv'
              obtain ⟨rfl, rfl⟩ := hv'
              have HLS : Hid (Lies wB g' S) := hlies
              clear hlies hgB
              obtain ⟨x, hx⟩ : ∃ x, x = str (S.getD k []) := ⟨_, rfl⟩
              have hcx : wr.cell? ⟨g', k, none⟩ = some (.string x) := by rw [hx]; exact (HLS.out.below HR.out.2 hg') k (by rw [HN.out]; exact hlt)
              have hxs : x.size ≤ 65536 := by
                rw [hx, Lib.size_eq, str_data, List.getD_eq_getElem?_getD, List.getElem?_eq_getElem (by rw [HN.out]; exact hlt)]
                exact HSM.out _ (List.getElem_mem _)
              have HXX : Hid (x.data.toList = S.getD k []) := by rw [hx]; exact str_data _
              clear hx
              obtain ⟨L, hL⟩ : ∃ L, L = inter (S.take k) := ⟨_, rfl⟩
              have HR' := HR.out
              rw [← hL] at HR' hil
              have HB := hid HR'
              have HLL : Hid (L = inter (S.take k)) := hL
              clear HR' hL HR
              have hLl : L.length ≤ 20000000000 := by have := Nat.mul_le_mul_right (65536 + 1) hk; omega
              by_cases hk0 : k = 0
              · subst hk0
                have RS : Hid (inter (S.take (0 + 1)) = L ++ x.data.toList) := by
                  show _ = _
                  rw [HLL.out, HXX.out, List.take_zero, inter_nil, inter_first S (by rw [HN.out]; exact hlt)]
                  rfl
                go_wp2_with (first | (at_builtin; refine wpList_append_own_string _ rfl _ _ 26 9 rfl wB.heap.size 5 i5 Trym.underlying26 Trym.underlying9 hi5 hi5a hi5b hi5c _ _ _ rfl HB.out.1 x rfl ?q1 ?q2 ?q3 ?_) | go_in)
                case q1 => unfold maxLen; omega
                case q2 => omega
                case q3 => omega
                intro v' w2 hown' hgrow _
                have RN : Hid (HoldsB wB.heap.size wB w2 v' (inter (S.take (0 + 1)))) := by rw [RS.out]; exact HB.out.str hsz hown' hgrow
                clear hown' hgrow HB HXX RS hcx
                go_wp2
                go_roundw
                case rel => exact ⟨0 + 1, by omega, by go_num, RN⟩
                case measure => simp [RowKit.intOf]; omega
              · have hk1 : (0 : Int) < (k : Int) := by omega
                have RS : Hid (inter (S.take (k + 1)) = L ++ [47] ++ x.data.toList) := by
                  show _ = _
                  rw [HLL.out, HXX.out, inter_next S k (by rw [HN.out]; exact hlt) (by omega)]
                go_wp2_with (first | (at_builtin; refine wpList_append_own_at _ rfl _ _ 26 rfl wB.heap.size 5 i5 (.int .u8 0) 1 1 Trym.underlying26 hi5 hi5a hi5b hi5c rfl (by decide) _ _ _ rfl (HB.out.1.alloc _) ⟨wr.heap.size, 0, none⟩ 1 1 [.int .u8 47] rfl rfl ?t1 ?t2 ?t3 ?t4 ?t5 ?_) | go_in)
                case t1 => exact cell_one_new _ _ _
                case t2 => intro u hu; simp at hu; subst hu; rfl
                case t3 => unfold maxLen; omega
                case t4 => omega
                case t5 => simp; omega
                intro v' w2 hown' hgrow _ _
                have HB2 : Hid (HoldsB wB.heap.size wB w2 v' (L ++ [47])) := HB.out.slash hsz hown' hgrow
                have hcx2 : w2.cell? ⟨g', k, none⟩ = some (.string x) := by
                  rw [← hcx]
                  exact (HB2.out.2.cell (p := ⟨g', k, none⟩) hg').trans (HB.out.2.cell (p := ⟨g', k, none⟩) hg').symm
                have hsz2 : wB.heap.size ≤ w2.heap.size := HB2.out.2.size
                have hl2 : (L ++ [47]).length = L.length + 1 := by simp
                have HO2 : Hid (w2.ownsRow wB.heap.size 5 1 v' (L.length + 1) (bytesV (L ++ [47]))) := by rw [← hl2]; exact HB2.out.1
                have HL2 := hid hl2
                clear hown' hgrow hcx HB hl2
                go_wp2_with (first | (at_builtin; refine wpList_append_own_string _ rfl _ _ 26 9 rfl wB.heap.size 5 i5 Trym.underlying26 Trym.underlying9 hi5 hi5a hi5b hi5c _ _ _ rfl HO2.out x rfl ?r1 ?r2 ?r3 ?_) | go_in)
                case r1 => unfold maxLen; omega
                case r2 => omega
                case r3 => omega
                intro v3 w3 hown' hgrow _
                have RN : Hid (HoldsB wB.heap.size wB w3 v3 (inter (S.take (k + 1)))) := by
                  rw [RS.out]
                  exact HB2.out.str hsz2 (by rw [HL2.out]; exact hown') hgrow
                clear hown' hgrow HB2 HXX RS hcx2 HO2
                go_wp2
                go_roundw
                case rel => exact ⟨k + 1, by omega, by go_num, RN⟩
                case measure => simp [RowKit.intOf]; omega
            · have hkn : k = n := by omega
              subst hkn
              have hF2 := HR.out
              rw [List.take_of_length_le (by rw [HN.out]; exact Nat.le_refl _)] at hF2
              obtain ⟨R, hR⟩ : ∃ R, R = str (inter S) := ⟨_, rfl⟩
              have hcv := conv_own hF2
              rw [← hR] at hcv
              have HE : Hid (R = str (inter ((segsOf s.data.toList t.data.toList).foldl gstep []))) := by
                show _ = _
                rw [hR, HSS.out, ← HXS.out]
                unfold stkOf
                rw [List.take_length]
              have HBZ : Hid (Below w.heap.size w wr) := HBB.out.trans (HR.out.2.mono HBB.out.size)
              clear hR hF2 HR HF HBB
              go_wp2
              go_ret
              refine ⟨?_, HBZ.out⟩
              rw [← HE.out]
              rfl
end Go.Proofs.Qxb6604474aMods
