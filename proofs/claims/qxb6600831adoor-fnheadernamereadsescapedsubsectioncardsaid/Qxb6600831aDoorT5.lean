/-
  FnHeaderNameExact: the law's walk where a quote is read.
-/
import Derived.Test.Qxb6600831aDoorT4
namespace Go.Proofs.Qxb6600831aDoor
open Go.RowKit

theorem seg_snoc (L : List UInt8) (p i : Nat) (h1 : p ≤ i) (h2 : i < L.length) : (L.drop p).take (i + 1 - p) = (L.drop p).take (i - p) ++ [L.getD i 0] := by
  rw [show i + 1 - p = (i - p) + 1 by omega, List.take_add_one, List.getElem?_drop, show p + (i - p) = i by omega, List.getElem?_eq_getElem h2]
  simp [h2]

set_option maxRecDepth 100000 in
set_option maxHeartbeats 4000000 in
theorem exact_quote (s : ByteArray) (L : List UInt8) (hL : s.data.toList = L) (W : World) (hs : s.size ≤ 65536) (p : Nat) (hp : Lib.indexByte L 34 = p) (hpl : p < L.length) (hq34 : L.getD p 0 = 34) :
    Calls Tryd.prog 3 #[.string s, .bool true, .bool false] W fun e w' => e = .returned (.bool true) ∧ Below W.heap.size W w' := by
  have K6 := hide (zzBytes6 s true false W (by unfold maxLen; omega))
  rw [decide_eq_true (by omega)] at K6
  have hlen : L.length = s.size := by rw [← hL, Array.length_toList]; rfl
  have hans : ans true false L = Hn.hdr L p := by
    unfold ans place
    rw [hp]
    show (if ((p : Nat) : Int) < 0 then L else Hn.hdr L ((p : Nat) : Int).toNat) = _
    rw [if_neg (by omega)]
    rfl
  have K7 := hide (fun w => head7 true false s L hL w (by omega))
  rw [hans] at K7
  have K8 := hide (fun w => index8 s L hL w (by omega))
  rw [hp] at K8
  have K9 := hide blank9
  have hg := get_nb s L hL
  have HE := hide (fun k => ext_head s L hL k)
  have HH : Hid (Hn.hdr L p = Hn.trimB (L.take p) ++ ((if Hn.trimB (L.take p) = L.take p then [] else [32]) ++ Hn.unesc (L.drop p))) := hide rfl
  generalize Hn.hdr L p = R at K7 HH
  generalize hRb : (⟨R.toArray⟩ : ByteArray) = rb at K7
  have HRb := hide hRb
  have HLn := hide hlen
  have hps : p < s.size := by omega
  have HQ := hide hq34
  clear hans hp hRb hpl hq34 hL hlen
  go_enter Tryd.func3, Tryd.ntmps3
  go_wp2_with fail
  refine K6.out.mono ?_
  rintro e w1 ⟨rfl, rfl⟩
  go_wp2_with (first | refine wpList_opt_build true false rfl _ _ rfl rfl rfl ?_ | refine wpList_opt_alloc rfl rfl ?_ | refine wpList_opt_store true false rfl _ _ rfl rfl rfl ?_ | refine wpList_opt_load true false rfl _ rfl rfl ?_)
  refine (K7.out _).mono ?_
  rintro e w2 ⟨rfl, hb2⟩
  have hb3 := (Joins.below_alloc1 w1 _).trans (hb2.mono (by simp))
  clear hb2
  go_wp2_with fail
  refine (K8.out _).mono ?_
  rintro e w3 ⟨rfl, rfl⟩
  have HB3 := hide hb3
  clear hb3 K6 K7 K8
  go_upto_block 0 with fail
  go_cut [10] (fun s10 wc => ∃ k : Nat, s10 = .int .i64 k ∧ k ≤ p ∧ (∀ j, k ≤ j → j < p → Hn.blank (L.getD j 0) = true) ∧ (0 < k → Hn.blank (L.getD (k - 1) 0) = false) ∧ wc = w3)
  case first =>
    go_wp2_with fail
    go_loop [10] (fun s10 => ∃ k : Nat, s10 = .int .i64 k ∧ k ≤ p ∧ (∀ j, k ≤ j → j < p → Hn.blank (L.getD j 0) = true)) (fun s10 => (intOf s10).toNat)
    case atStart => exact ⟨p, rfl, Nat.le_refl _, fun j h1 h2 => by omega⟩
    case round =>
      obtain ⟨k, rfl, hk, hbl⟩ := hrel
      have HBl := hide hbl
      clear hbl
      by_cases h0 : k = 0
      · subst h0
        go_wp2_with fail
        go_meet
        exact ⟨0, rfl, hk, HBl.out, fun h => by omega, rfl⟩
      · obtain ⟨j, rfl⟩ : ∃ j, k = j + 1 := ⟨k - 1, by omega⟩
        have hjs : j < s.size := by omega
        obtain ⟨z, hz⟩ : ∃ z, blankI (Hn.nb L j) = z := ⟨_, rfl⟩
        have hz2 : Hn.blank (L.getD j 0) = z := by rw [← hz, blank_nb]
        have HZ2 := hide hz2
        have k9 := fun w => K9.out (Hn.nb L j) w
        rw [hz] at k9
        have K9j := hide k9
        clear k9 hz hz2
        go_wp2_with fail
        refine (K9j.out _).mono ?_
        rintro e w4 ⟨rfl, rfl⟩
        cases z with
        | true =>
          go_wp2_with fail
          go_round
          case rel => exact ⟨j, by go_num, by omega, fun i h1 h2 => by
            by_cases hij : i = j
            · subst hij; exact HZ2.out
            · exact HBl.out i (by omega) h2⟩
          case measure => simp [intOf]
        | false =>
          go_wp2_with fail
          go_meet
          exact ⟨j + 1, rfl, hk, HBl.out, fun _ => HZ2.out, rfl⟩
  case rest =>
    obtain ⟨k, rfl, hk, hbl, hnb, rfl⟩ := hcut
    have htr : Hn.trimB (L.take p) = L.take k := by
      have hl2 : (L.take p).length = p := by rw [List.length_take, HLn.out]; omega
      have hgd : ∀ j, j < p → (L.take p).getD j 0 = L.getD j 0 := fun j hj => by
        rw [List.getD_eq_getElem?_getD, List.getD_eq_getElem?_getD, List.getElem?_take_of_lt hj]
      rw [Hn.trim_take (L.take p) k (by rw [hl2]; exact hk) (fun h => by rw [hgd _ (by omega)]; exact hnb h) (fun j h1 h2 => by rw [hl2] at h2; rw [hgd j h2]; exact hbl j h1 h2), List.take_take, Nat.min_eq_left hk]
    have hsep : (Hn.trimB (L.take p) = L.take p) ↔ k = p := by
      rw [htr]
      constructor
      · intro h
        have := congrArg List.length h
        rw [List.length_take, List.length_take, HLn.out] at this
        omega
      · rintro rfl; rfl
    generalize hX : L.take k ++ (if k = p then [] else [32]) = X
    have hRX : R = X ++ Hn.unesc (L.drop p) := by
      rw [HH.out, ← hX, htr, ← htr]
      by_cases h : k = p
      · rw [if_pos (hsep.2 h), if_pos h]; simp
      · rw [if_neg (fun e => h (hsep.1 e)), if_neg h]; simp
    have hXl : X.length ≤ 65537 := by
      rw [← hX, List.length_append, List.length_take]
      split
      · simp; omega
      · simp; omega
    have HX := hide hX
    have HRX := hide hRX
    clear hX hRX htr hsep hbl hnb HH
    have hek := HE.out k
    go_wp2_with (refine own_make rfl _ _ rfl w1 _ (s.size + 1) HB3.out rfl rfl (by go_num) (by omega) ?_)
    intro v w4 hO
    go_wp2_with (refine own_pushS rfl _ _ rfl (L.take k) hO rfl rfl (by rw [List.length_take, HLn.out]; simp; omega) ?_)
    intro v2 w5 hO2
    clear hO
    go_upto_if 66 with fail
    go_cut [11] (fun s11 wd => Own w1 s11 X wd)
    case first =>
      by_cases hkp : k = p
      · have hX2 : L.take k = X := by rw [← HX.out, if_pos hkp, List.append_nil]
        rw [hX2] at hO2
        have HO2 := hide hO2
        clear hO2 hX2
        go_wp2_with fail
        go_meet
        exact HO2.out
      · have hX2 : L.take k ++ [32] = X := by rw [← HX.out, if_neg hkp]
        have hlt : k < p := by omega
        have HX2 := hide hX2
        clear hX2
        go_wp2_with (refine own_push rfl _ _ rfl 32 rfl hO2 rfl rfl (by rw [List.length_take, HLn.out]; omega) ?_)
        intro v3 w6 hO3
        rw [HX2.out] at hO3
        have HO3 := hide hO3
        clear hO3 hO2
        go_wp2_with fail
        go_meet
        exact HO3.out
    case rest =>
      have hne : R ≠ [] := by
        rw [HRX.out, Hn.drop_cons L p (by rw [HLn.out]; exact hps), HQ.out]
        cases L.drop (p + 1) <;> simp [Hn.unesc]
      have HNe := hide hne
      clear hO2 hne
      go_wp2_with fail
      go_loopw [11, 12, 13] (fun s11 s12 s13 wr => ∃ (i : Nat) (Y : List UInt8) (pd : Bool), s12 = .bool pd ∧ s13 = .int .i64 i ∧ p ≤ i ∧ i ≤ s.size ∧ Hn.auto ((L.drop p).take (i - p)) (X, false) = (Y, pd) ∧ Y.length ≤ 65537 + i ∧ Own w1 s11 Y wr) (fun _ _ s13 _ => s.size - (intOf s13).toNat)
      case atStart => exact ⟨p, X, false, rfl, rfl, Nat.le_refl _, by omega, by simp [Hn.auto], by omega, hcut⟩
      case round =>
        obtain ⟨i, Y, pd, rfl, rfl, hi1, hi2, hA, hYl, hO⟩ := hrel
        have HA := hide hA
        clear hA hcut
        by_cases hlt : i < s.size
        · have HS := hide (seg_snoc L p i hi1 (by rw [HLn.out]; exact hlt))
          by_cases hc : Hn.nb L i = 92
          · have hq : (Hn.nb L i == 92) = true := by simp [hc]
            have HC := hide (Hn.getD_of_nb (c := 92) hc)
            clear hc
            cases pd with
            | false =>
              have HO := hide hO
              clear hO
              go_wp2_with fail
              go_roundw
              case rel => exact ⟨i + 1, Y, true, rfl, by go_num, by omega, by omega, by rw [HS.out, Hn.auto_snoc, HA.out, HC.out]; simp, by omega, HO.out⟩
              case measure => simp [intOf]; omega
            | true =>
              go_wp2_with (refine own_push rfl _ _ rfl (L.getD i 0) rfl hO rfl rfl (by omega) ?_)
              intro v6 w6 hO6
              have HO6 := hide hO6
              clear hO6 hO
              go_wp2_with fail
              go_roundw
              case rel => exact ⟨i + 1, Y ++ [L.getD i 0], false, rfl, by go_num, by omega, by omega, by rw [HS.out, Hn.auto_snoc, HA.out]; simp, by simp; omega, HO6.out⟩
              case measure => simp [intOf]; omega
          · have hq : (Hn.nb L i == 92) = false := by simp [hc]
            have HC := hide (Hn.nb_ne (c := 92) hc)
            clear hc
            go_wp2_with (refine own_push rfl _ _ rfl (L.getD i 0) rfl hO rfl rfl (by omega) ?_)
            intro v6 w6 hO6
            have HO6 := hide hO6
            clear hO6 hO
            go_wp2_with fail
            go_roundw
            case rel => exact ⟨i + 1, Y ++ [L.getD i 0], false, rfl, by go_num, by omega, by omega, by rw [HS.out, Hn.auto_snoc, HA.out, if_neg (fun h => HC.out h.1)], by simp; omega, HO6.out⟩
            case measure => simp [intOf]; omega
        · obtain rfl : i = s.size := by omega
          have hAll : Hn.auto (L.drop p) (X, false) = (Y, pd) := by
            have := HA.out
            rwa [List.take_of_length_le (by rw [List.length_drop, HLn.out]; omega)] at this
          have hfin : Hn.fin (Y, pd) = R := by rw [← hAll, Hn.auto_eq, HRX.out]
          have heq : rb = ⟨R.toArray⟩ := HRb.out.symm
          subst heq
          cases pd with
          | false =>
            have hYR : Y = R := hfin
            subst hYR
            have hcv := own_string hO HNe.out
            have HO := hide hO
            clear hO hfin hAll
            go_wp2
            go_ret
            exact ⟨ret_bool (by simp), HO.out.2⟩
          | true =>
            have hYR : Y ++ [92] = R := hfin
            go_wp2_with (refine own_push rfl _ _ rfl 92 rfl hO rfl rfl (by omega) ?_)
            intro v6 w6 hO6
            have hcv := own_string hO6 HNe.out
            have HO := hide hO6
            clear hO hO6 hfin hAll
            go_wp2
            go_ret
            exact ⟨ret_bool (by simp), HO.out.2⟩
end Go.Proofs.Qxb6600831aDoor
