/-
  FnHeaderNameReadsEscapedSubsection: the law's walk.
-/
import Derived.Test.Qxb6600831aDoorT7b
namespace Go.Proofs.Qxb6600831aDoor
open Go.RowKit

set_option maxRecDepth 100000 in
set_option maxHeartbeats 4000000 in
theorem sub_short (a b c : ByteArray) (A B C : List UInt8) (hA : a.data.toList = A) (hB : b.data.toList = B) (hC : c.data.toList = C) (W : World) (ha : a.size ≤ 65536) (hb : b.size ≤ 65536) (hc : c.size ≤ 65536) :
    Calls Tryd.prog 4 #[.string a, .string b, .string c] W fun e w' => e = .returned (.bool true) ∧ Below W.heap.size W w' := by
  have K10 := hide (zzBytes10 a b c W (by unfold maxLen; omega) (by unfold maxLen; omega) (by unfold maxLen; omega))
  rw [decide_eq_true (by omega)] at K10
  have k8 := fun w => index8 a A hA w (by omega)
  have hla : A.length = a.size := by rw [← hA, Array.length_toList]; rfl
  have hlb : B.length = b.size := by rw [← hB, Array.length_toList]; rfl
  have hlc : C.length = c.size := by rw [← hC, Array.length_toList]; rfl
  have HLa := hide hla
  have HLb := hide hlb
  have HLc := hide hlc
  have hga := get_nb a A hA
  have hgb := get_nb b B hB
  have hgc := get_nb c C hC
  have K9 := hide blank9
  have HA := hide hA
  have HB := hide hB
  have HC := hide hC
  clear hla hlb hlc hA hB hC
  rcases index_lt A 34 with hix | ⟨p, hp, _⟩
  · rw [hix] at k8
    have K8 := hide k8
    have HIx := hide hix
    clear k8 hix
    go_enter Tryd.func4, Tryd.ntmps4
    go_wp2_with fail
    refine K10.out.mono ?_
    rintro e w1 ⟨rfl, rfl⟩
    go_wp2_with fail
    refine (K8.out _).mono ?_
    rintro e w2 ⟨rfl, rfl⟩
    clear K10 K8
    go_upto_region 7 with fail
    go_cut [43] (fun s43 wc => ∃ z : Bool, s43 = .bool z ∧ (z = false → ∀ r x, A = r ++ [x] → Hn.blank x = false) ∧ wc = w2)
    case first =>
      by_cases h0 : a.size = 0
      · obtain rfl : a = ⟨#[]⟩ := by
          cases a with
          | mk d => simp [ByteArray.size] at h0; rw [h0]
        go_wp2_with fail
        go_meet
        refine ⟨false, rfl, fun _ r x h => ?_, rfl⟩
        have := congrArg List.length h
        rw [HLa.out, List.length_append, List.length_singleton] at this
        have h5 : (⟨#[]⟩ : ByteArray).size = 0 := rfl
        omega
      · obtain ⟨n, hn⟩ : ∃ n, a.size = n + 1 := ⟨a.size - 1, by omega⟩
        obtain ⟨z, hz⟩ : ∃ z, blankI (Hn.nb A n) = z := ⟨_, rfl⟩
        have hz2 : Hn.blank (A.getD n 0) = z := by rw [← hz, blank_nb]
        have HZ2 := hide hz2
        have k9 := fun w => K9.out (Hn.nb A n) w
        rw [hz] at k9
        have K9j := hide k9
        clear k9 hz hz2
        have hne : ¬ a.toList = [] := fun e => by
          rw [Lib.toList_data] at e
          have h5 := congrArg List.length e
          rw [Array.length_toList] at h5
          exact h0 h5
        go_wp2_with fail
        refine (K9j.out _).mono ?_
        rintro e w4 ⟨rfl, rfl⟩
        go_wp2_with fail
        go_meet
        have hie : a.toList.isEmpty = false := by simpa using hne
        refine ⟨z, by simp [hie], fun h r x hx => ?_, rfl⟩
        have h6 := HZ2.out
        rw [h] at h6
        have h7 := congrArg List.length hx
        rw [HLa.out, List.length_append, List.length_singleton] at h7
        rw [hx] at h6
        have h8 : n = r.length := by omega
        rw [h8] at h6
        simpa using h6
    case rest =>
      obtain ⟨z, rfl, hz, rfl⟩ := hcut
      cases z with
      | true =>
        go_wp2
        go_ret
        exact ⟨rfl, Below.refl _ _⟩
      | false =>
        have HZ := hide (hz rfl)
        clear hz
        go_wp2_with fail
        go_loop [7] (fun s7 => ∃ i : Nat, s7 = .int .i64 i ∧ i ≤ b.size ∧ ∀ j, j < i → Hn.blank (B.getD j 0) = true) (fun s7 => b.size - (intOf s7).toNat)
        case atStart => exact ⟨0, rfl, by omega, fun j h => by omega⟩
        case round =>
          obtain ⟨i, rfl, hi, hbl⟩ := hrel
          have HBl := hide hbl
          clear hbl
          by_cases hlt : i < b.size
          · obtain ⟨z, hz⟩ : ∃ z, blankI (Hn.nb B i) = z := ⟨_, rfl⟩
            have hz2 : Hn.blank (B.getD i 0) = z := by rw [← hz, blank_nb]
            have HZ2 := hide hz2
            have k9 := fun w => K9.out (Hn.nb B i) w
            rw [hz] at k9
            have K9j := hide k9
            clear k9 hz hz2
            go_wp2_with fail
            refine (K9j.out _).mono ?_
            rintro e w4 ⟨rfl, rfl⟩
            cases z with
            | true =>
              go_wp2_with fail
              go_round
              case rel => exact ⟨i + 1, by go_num, by omega, fun j h => by
                by_cases hij : j = i
                · subst hij; exact HZ2.out
                · exact HBl.out j (by omega)⟩
              case measure => simp [intOf]; omega
            | false =>
              go_wp2
              go_ret
              exact ⟨rfl, Below.refl _ _⟩
          · have hall : ∀ j, j < B.length → Hn.blank (B.getD j 0) = true := fun j h => HBl.out j (by rw [HLb.out] at h; omega)
            have HSp := hide (sub_plain A B C HIx.out HZ.out hall)
            clear hall K9 HBl
            go_wp2_with (refine own_make rfl _ _ rfl wc _ (2 * c.size + 2) (Below.refl _ _) rfl rfl (by go_num) (by omega) ?_)
            intro v w4 hO
            go_wp2_with (refine own_push rfl _ _ rfl 34 rfl hO rfl rfl (by simp) ?_)
            intro v2 w5 hO2
            have HO2 := hide hO2
            clear hO hO2
            go_wp2_with fail
            go_loopw [8, 9] (fun s8 s9 wr => ∃ i : Nat, s9 = .int .i64 i ∧ i ≤ c.size ∧ Own wc s8 (34 :: Hn.esc (C.take i)) wr) (fun _ s9 _ => c.size - (intOf s9).toNat)
            case atStart => exact ⟨0, rfl, by omega, by simpa [Hn.esc] using HO2.out⟩
            case round =>
              obtain ⟨k, rfl, hk, hO⟩ := hrel
              clear HO2
              have hel := Hn.esc_le (C.take k)
              rw [List.length_take] at hel
              have hel2 : (34 :: Hn.esc (C.take k)).length ≤ 140000 := by rw [List.length_cons]; omega
              by_cases hlt2 : k < c.size
              · have htk : C.take (k + 1) = C.take k ++ [C.getD k 0] := by
                  rw [List.take_add_one, List.getElem?_eq_getElem (by rw [HLc.out]; exact hlt2), List.getD_eq_getElem?_getD, List.getElem?_eq_getElem (by rw [HLc.out]; exact hlt2)]
                  rfl
                have hes := Hn.esc_snoc (C.take k) (C.getD k 0)
                rw [← htk] at hes
                have HEs := hide hes
                clear htk hes
                generalize hY : 34 :: Hn.esc (C.take k) = Y at hO hel2
                have HY := hide hY
                clear hY hel
                by_cases hc1 : Hn.nb C k = 34
                · have hq1 : (Hn.nb C k == 34) = true := by simp [hc1]
                  have HC1 := hide (Hn.getD_of_nb (c := 34) hc1)
                  clear hc1
                  go_wp2_with (refine own_push rfl _ _ rfl 92 rfl hO rfl rfl (by omega) ?_)
                  intro v6 w6 hO6
                  clear hO
                  go_wp2_with (refine own_push rfl _ _ rfl (C.getD k 0) rfl hO6 rfl rfl (by simp; omega) ?_)
                  intro v7 w7 hO7
                  have HO7 := hide hO7
                  clear hO7 hO6
                  go_wp2_with fail
                  go_roundw
                  case rel =>
                    refine ⟨k + 1, by go_num, by omega, ?_⟩
                    rw [HEs.out, if_pos (.inl HC1.out), ← List.cons_append, HY.out]
                    simpa using HO7.out
                  case measure => simp [intOf]; omega
                · have hq1 : (Hn.nb C k == 34) = false := by simp [hc1]
                  have HC1 := hide (Hn.nb_ne (c := 34) hc1)
                  clear hc1
                  by_cases hc2 : Hn.nb C k = 92
                  · have hq2 : (Hn.nb C k == 92) = true := by simp [hc2]
                    have HC2 := hide (Hn.getD_of_nb (c := 92) hc2)
                    clear hc2
                    go_wp2_with (refine own_push rfl _ _ rfl 92 rfl hO rfl rfl (by omega) ?_)
                    intro v6 w6 hO6
                    clear hO
                    go_wp2_with (refine own_push rfl _ _ rfl (C.getD k 0) rfl hO6 rfl rfl (by simp; omega) ?_)
                    intro v7 w7 hO7
                    have HO7 := hide hO7
                    clear hO7 hO6
                    go_wp2_with fail
                    go_roundw
                    case rel =>
                      refine ⟨k + 1, by go_num, by omega, ?_⟩
                      rw [HEs.out, if_pos (.inr HC2.out), ← List.cons_append, HY.out]
                      simpa using HO7.out
                    case measure => simp [intOf]; omega
                  · have hq2 : (Hn.nb C k == 92) = false := by simp [hc2]
                    have HC2 := hide (Hn.nb_ne (c := 92) hc2)
                    clear hc2
                    go_wp2_with (refine own_push rfl _ _ rfl (C.getD k 0) rfl hO rfl rfl (by omega) ?_)
                    intro v7 w7 hO7
                    have HO7 := hide hO7
                    clear hO7 hO
                    go_wp2_with fail
                    go_roundw
                    case rel =>
                      refine ⟨k + 1, by go_num, by omega, ?_⟩
                      rw [HEs.out, if_neg (fun h => h.elim HC1.out HC2.out), ← List.cons_append, HY.out]
                      exact HO7.out
                    case measure => simp [intOf]; omega
              · have htk : C.take k = C := List.take_of_length_le (by rw [HLc.out]; omega)
                rw [htk] at hO hel2
                clear htk hel
                go_wp2_with (refine own_push rfl _ _ rfl 34 rfl hO rfl rfl (by omega) ?_)
                intro v8 w8 hO8
                clear hO
                have hO9 := own_alloc hO8 (.cells (optC true false) 25)
                have hcv := own_string hO9 (by simp)
                have HO8 := hide hO8
                clear hO8 hO9
                generalize hwr : (34 :: (Hn.esc C ++ [34]) : List UInt8) = wrt at HSp hcv HO8
                have hwl : wrt.length ≤ 140001 := by rw [← hwr]; simp at hel2 ⊢; omega
                have hws : (⟨wrt.toArray⟩ : ByteArray).size = wrt.length := Lib.size_mk _
                clear hwr
                go_wp2_with (first | refine wpList_opt_build1 rfl _ rfl rfl ?_ | refine wpList_opt_alloc rfl rfl ?_ | refine wpList_opt_store true false rfl _ _ rfl rfl rfl ?_ | refine wpList_opt_load true false rfl _ rfl rfl ?_)
                have hN : (a ++ b ++ (⟨wrt.toArray⟩ : ByteArray)).data.toList = A ++ B ++ wrt := by rw [cat_list, HA.out, HB.out]
                have hNs : (a ++ b ++ (⟨wrt.toArray⟩ : ByteArray)).size ≤ 1000000 := by
                  have h5 := congrArg List.length hN
                  rw [Array.length_toList, List.length_append, List.length_append, HLa.out, HLb.out] at h5
                  have h6 : (a ++ b ++ (⟨wrt.toArray⟩ : ByteArray)).size = (a ++ b ++ (⟨wrt.toArray⟩ : ByteArray)).data.size := rfl
                  omega
                have k7 := head7 true false _ _ hN (w8.alloc (.cells (optC true false) 25)) hNs
                rw [HSp.out] at k7
                have hbw : Below wc.heap.size wc (w8.alloc (.cells (optC true false) 25)) := HO8.out.2.alloc HO8.out.2.size _
                have HBw := hide hbw
                by_cases hb0 : b.size = 0
                · obtain rfl : b = ⟨#[]⟩ := by
                    cases b with
                    | mk d => simp [ByteArray.size] at hb0; rw [hb0]
                  have hBn : B = [] := by rw [← HB.out]
                  rw [if_pos hBn, ← HA.out, ← HC.out, res_none] at k7
                  have K7 := hide k7
                  clear k7 hN hNs hbw hBn
                  refine K7.out.mono ?_
                  rintro e w9 ⟨rfl, hb9⟩
                  have hb10 := HBw.out.trans (hb9.mono HBw.out.size)
                  clear hb9
                  go_wp2
                  go_ret
                  exact ⟨ret_bool (by simp), hb10⟩
                · have hne : ¬ b.toList = [] := fun e => by
                    rw [Lib.toList_data] at e
                    have h5 := congrArg List.length e
                    rw [Array.length_toList] at h5
                    exact hb0 h5
                  have hie : b.toList.isEmpty = false := by simpa using hne
                  have hBn : ¬ B = [] := fun e => by
                    have h5 := HLb.out
                    rw [e] at h5
                    exact hb0 h5.symm
                  rw [if_neg hBn, ← HA.out, ← HC.out, res_some] at k7
                  have K7 := hide k7
                  clear k7 hN hNs hbw hBn
                  refine K7.out.mono ?_
                  rintro e w9 ⟨rfl, hb9⟩
                  have hb10 := HBw.out.trans (hb9.mono HBw.out.size)
                  clear hb9
                  go_wp2
                  go_ret
                  exact ⟨ret_bool (by simp), hb10⟩
  · rw [hp] at k8
    have K8 := hide k8
    clear k8
    go_enter Tryd.func4, Tryd.ntmps4
    go_wp2_with fail
    refine K10.out.mono ?_
    rintro e w1 ⟨rfl, rfl⟩
    go_wp2_with fail
    refine (K8.out _).mono ?_
    rintro e w2 ⟨rfl, rfl⟩
    go_wp2
    go_ret
    exact ⟨rfl, Below.refl _ _⟩
end Go.Proofs.Qxb6600831aDoor
