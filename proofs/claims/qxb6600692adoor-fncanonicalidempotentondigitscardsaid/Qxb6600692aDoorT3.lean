import Derived.Test.Qxb6600692aDoorT2
import Derived.Test.Qxb6600692aDoorScan
import Derived.Test.Qxb6600692aDoorOwn
import Derived.PlainAid
import Derived.Deep.DeepCutAuto
namespace Go.Proofs.Qxb6600692aDoor
open Go.RowKit

theorem get_nb (a b : ByteArray) : ∀ (n : Nat) (h : n < a.size), ((a[n]'h).toNat : Int) = Canon.nb (a.data.toList ++ b.data.toList) n := fun n h => by
  rw [Canon.nb_left _ _ (by simpa using h)]
  unfold Canon.nb
  rw [List.getD_eq_getElem?_getD, List.getElem?_eq_getElem (by simpa using h)]
  rfl
theorem get_nb' (b : ByteArray) : ∀ (n : Nat) (h : n < b.size), ((b[n]'h).toNat : Int) = Canon.nb b.data.toList n := fun n h => by
  unfold Canon.nb
  rw [List.getD_eq_getElem?_getD, List.getElem?_eq_getElem (by simpa using h)]
  rfl

theorem ret_int {k : IntKind} {a b : Int} (h : a = b) : Ending.returned (.int k a) = .returned (.int k b) := by rw [h]

set_option maxHeartbeats 400000 in
theorem at21 (a b : ByteArray) (k : Nat) (w : World) (hk : k < a.size + b.size) (hs : a.size + b.size ≤ 1048576) :
    Calls Tryd.prog 21 #[.string a, .string b, .int .i64 k] w fun e w' => e = .returned (.int .u8 (Canon.nb (a.data.toList ++ b.data.toList) k)) ∧ w' = w := by
  by_cases h : k < a.size
  · have e1 := get_nb a b k h
    generalize Canon.nb (a.data.toList ++ b.data.toList) k = r at e1 ⊢
    have E1 := hide e1
    clear e1
    go_enter Tryd.func21, Tryd.ntmps21
    go_wp2
    go_ret
    exact ⟨ret_int E1.out, rfl⟩
  · obtain ⟨j, rfl⟩ : ∃ j, k = a.size + j := ⟨k - a.size, by omega⟩
    have hj : j < b.size := by omega
    have e1 := get_nb' b j hj
    have e2 := Canon.nb_right a.data.toList b.data.toList j
    rw [Array.length_toList] at e2
    have e3 : Canon.nb (a.data.toList ++ b.data.toList) (a.size + j) = ((b[j]'hj).toNat : Int) := e2.trans e1.symm
    generalize Canon.nb (a.data.toList ++ b.data.toList) (a.size + j) = r at e3 ⊢
    have E1 := hide e3
    clear e1 e2 e3
    go_enter Tryd.func21, Tryd.ntmps21
    go_wp2
    go_ret
    exact ⟨ret_int E1.out.symm, rfl⟩

set_option maxRecDepth 100000 in
set_option maxHeartbeats 1000000 in
theorem model14 (neg : Bool) (a b : ByteArray) (w : World) (hs : a.size + b.size ≤ 1048576) :
    Calls Tryd.prog 14 #[.bool neg, .string a, .string b] w fun e w' => e = .returned (.string ⟨(Canon.canon neg a.data.toList b.data.toList).toArray⟩) ∧ Below w.heap.size w w' := by
  have HN := hide (Canon.scan_none neg a.data.toList b.data.toList)
  have HS := hide (Canon.scan_some neg a.data.toList b.data.toList)
  generalize Canon.canon neg a.data.toList b.data.toList = r at HN HS ⊢
  go_enter Tryd.func14, Tryd.ntmps14
  go_wp2_with fail
  go_loop [9, 10, 11] (fun f l i => ∃ k : Nat, k ≤ a.size + b.size ∧ i = .int .i64 k ∧ ∃ fi li : Int, f = .int .i64 fi ∧ l = .int .i64 li ∧ Canon.FirstOK (a.data.toList ++ b.data.toList) k fi ∧ Canon.LastOK (a.data.toList ++ b.data.toList) k li) (fun _ _ i => a.size + b.size - (intOf i).toNat)
  case atStart => exact ⟨0, Nat.zero_le _, rfl, -1, -1, rfl, rfl, Canon.first_zero _, Canon.last_zero _⟩
  case round =>
    obtain ⟨k, hk, rfl, fi, li, rfl, rfl, hF, hL⟩ := hrel
    have bF := Canon.first_lo hF
    have bL := Canon.last_lo hL
    by_cases hlt : k < a.size + b.size
    · by_cases hz : Canon.nb (a.data.toList ++ b.data.toList) k = 48
      · have hq : (Canon.nb (a.data.toList ++ b.data.toList) k != 48) = false := by simp [hz]
        have HZ := hide hz
        clear hz
        go_wp2_with fail
        refine (at21 a b k _ hlt hs).mono ?_
        rintro e w' ⟨rfl, rfl⟩
        go_wp2
        go_round
        case rel => exact ⟨k + 1, by omega, by go_num, fi, li, rfl, rfl, Canon.first_same hF HZ.out, Canon.last_same hL HZ.out⟩
        case measure => simp [intOf]; omega
      · have hq : (Canon.nb (a.data.toList ++ b.data.toList) k != 48) = true := by simp [hz]
        by_cases hf : fi < 0
        · go_wp2_with fail
          refine (at21 a b k _ hlt hs).mono ?_
          rintro e w' ⟨rfl, rfl⟩
          go_wp2
          go_round
          case rel => exact ⟨k + 1, by omega, by go_num, k, k, rfl, rfl, Canon.first_new hF hf hz, Canon.last_new hz⟩
          case measure => simp [intOf]; omega
        · go_wp2_with fail
          refine (at21 a b k _ hlt hs).mono ?_
          rintro e w' ⟨rfl, rfl⟩
          go_wp2
          go_round
          case rel => exact ⟨k + 1, by omega, by go_num, fi, k, rfl, rfl, Canon.first_old hF (by omega), Canon.last_new hz⟩
          case measure => simp [intOf]; omega
    · obtain rfl : k = a.size + b.size := by omega
      by_cases hf : fi < 0
      · obtain rfl : fi = -1 := by omega
        go_wp2
        go_ret
        exact ⟨ret_str (HN.out (by simpa using hF)).symm, Below.refl _ _⟩
      · obtain ⟨i, rfl⟩ := Int.eq_ofNat_of_zero_le (show 0 ≤ fi by omega)
        have hm : 0 ≤ li := Canon.last_of_first hF hL
        obtain ⟨m, rfl⟩ := Int.eq_ofNat_of_zero_le hm
        have HR := hide (HS.out i m (by simpa using hF) (by simpa using hL))
        clear HS HN hF hL
        go_upto_if 41 with (at_make; refine own_make rfl _ _ rfl w _ (a.size + b.size + 3) (Below.refl _ _) rfl rfl (by omega) (by omega) ?_; intro v0 w0 hO0)
        go_cut [12] (fun v wc => Own w v (Canon.pre neg) wc)
        case first =>
          cases neg
          · go_wp2_with fail
            go_meet
            exact hO0
          · go_wp2_with (at_builtin; refine own_push rfl _ _ rfl 45 rfl hO0 rfl rfl (by simp) ?_; intro v1 w1 hO1)
            go_meet
            exact hO1
        case rest =>
          have hC1 := hcut
          clear hcut
          have hp1 : (Canon.pre neg).length ≤ 1 := by cases neg <;> decide
          generalize Canon.pre neg = P at HR hC1 hp1
          clear hO0 v0 w0
          go_upto_if 47 with fail
          generalize hM : Canon.mid a.data.toList i = M at HR
          have HM := hide hM
          clear hM
          go_cut [12, 13] (fun v _ wc => Own w v (P ++ M) wc)
          case first =>
            by_cases hp : a.size ≤ i
            · have e1 := hide (show M = [48] by rw [← HM.out]; unfold Canon.mid; rw [if_pos (by simpa using hp)])
              go_wp2_with (at_builtin; refine own_push rfl _ _ rfl 48 rfl hC1 rfl rfl (by omega) ?_; intro v1 w1 hO1)
              go_meet
              rw [e1.out]
              exact hO1
            · have e1 := hide (show M = a.data.toList.drop i by rw [← HM.out]; unfold Canon.mid; rw [if_neg (by simpa using hp)])
              go_wp2_with fail
              go_loopw [12, 13] (fun v kk wr => ∃ k : Nat, i ≤ k ∧ k ≤ a.size ∧ kk = .int .i64 k ∧ Own w v (P ++ (a.data.toList.drop i).take (k - i)) wr) (fun _ kk _ => a.size - (intOf kk).toNat)
              case atStart => exact ⟨i, Nat.le_refl _, by omega, rfl, by simpa using hC1⟩
              case round =>
                obtain ⟨k, hk1, hk2, rfl, hO⟩ := hrel
                by_cases hlt : k < a.size
                · have e3 := get_nb' a k hlt
                  have E2 := hide (Canon.take_step a.data.toList i k hk1 (by simpa using hlt))
                  have l2 : (P ++ (a.data.toList.drop i).take (k - i)).length ≤ 281474976 := by
                    have := List.length_take_le (k - i) (a.data.toList.drop i)
                    simp only [List.length_append]
                    omega
                  clear hC1
                  have HO := hide hO
                  have HL := hide l2
                  clear hO l2
                  go_wp2_with (at_builtin; refine own_push rfl _ _ rfl (a.data.toList.getD k 0) rfl HO.out rfl rfl HL.out ?_; intro v1 w1 hO1)
                  go_roundw
                  case rel => exact ⟨k + 1, by omega, by omega, by go_num, by rw [E2.out, ← List.append_assoc]; exact hO1⟩
                  case measure => simp [intOf]; omega
                · obtain rfl : k = a.size := by omega
                  go_wp2_with fail
                  go_meet
                  rw [e1.out]
                  rw [List.take_of_length_le (by simp)] at hO
                  exact hO
          case rest =>
            have hp2 : (P ++ M).length ≤ 1048578 := by
              have := Canon.mid_le a.data.toList i
              rw [HM.out] at this
              simp only [List.length_append]
              simp at this
              omega
            clear hC1
            have hC2 := hcut
            clear hcut
            generalize hX : P ++ M = X at hC2 hp2
            have HX := hide hX
            clear hX
            generalize hY : Canon.suf a.data.toList b.data.toList m = Y at HR
            have HY := hide hY
            clear hY
            go_upto_if 65 with fail
            go_cut [12, 14] (fun v _ wc => Own w v (X ++ Y) wc)
            case first =>
              by_cases hp : a.size ≤ m
              · obtain ⟨q, rfl⟩ : ∃ q, m = a.size + q := ⟨m - a.size, by omega⟩
                have e1 := hide (show Y = 46 :: b.data.toList.take (q + 1) by
                  rw [← HY.out]
                  unfold Canon.suf
                  rw [if_pos (by simp), Array.length_toList]
                  show 46 :: List.take (a.size + q - a.size + 1) _ = _
                  rw [Nat.add_sub_cancel_left])
                go_wp2_with (at_builtin; refine own_push rfl _ _ rfl 46 rfl hC2 rfl rfl (by omega) ?_; intro v1 w1 hO1)
                clear hC2
                go_loopw [12, 14] (fun v kk wr => ∃ k : Nat, k ≤ q + 1 ∧ kk = .int .i64 ((a.size : Int) + (k : Int)) ∧ Own w v (X ++ 46 :: b.data.toList.take k) wr) (fun _ kk _ => a.size + q + 1 - (intOf kk).toNat)
                case atStart => exact ⟨0, by omega, by go_num, by simpa using hO1⟩
                case round =>
                  obtain ⟨k, hk2, rfl, hO⟩ := hrel
                  by_cases hlt : k ≤ q
                  · have hkb : k < b.size := by omega
                    have e3 := get_nb' b k hkb
                    have E2 := hide (Canon.take_one b.data.toList k (by simpa using hkb))
                    have l2 : (X ++ 46 :: b.data.toList.take k).length ≤ 281474976 := by
                      have := List.length_take_le k b.data.toList
                      simp only [List.length_append, List.length_cons]
                      omega
                    clear hO1
                    have HO := hide hO
                    have HL := hide l2
                    clear hO l2
                    go_wp2_with (at_builtin; refine own_push rfl _ _ rfl (b.data.toList.getD k 0) rfl HO.out rfl rfl HL.out ?_; intro v2 w2 hO2)
                    go_roundw
                    case rel => exact ⟨k + 1, by omega, by go_num, by rw [E2.out]; simpa using hO2⟩
                    case measure => simp [intOf]; omega
                  · obtain rfl : k = q + 1 := by omega
                    go_wp2_with fail
                    go_meet
                    rw [e1.out]
                    exact hO
              · have e1 := hide (show Y = [] by rw [← HY.out]; unfold Canon.suf; rw [if_neg (by simpa using hp)])
                go_wp2_with fail
                go_meet
                rw [e1.out, List.append_nil]
                exact hC2
            case rest =>
              clear hC2
              have hb := hcut.2
              have hcv := own_string hcut (by
                rw [← HX.out, ← HM.out]
                simp [Canon.mid_ne])
              clear hcut
              go_wp2
              go_ret
              refine ⟨ret_str ?_, hb⟩
              rw [HR.out, ← HX.out, List.append_assoc]
end Go.Proofs.Qxb6600692aDoor
