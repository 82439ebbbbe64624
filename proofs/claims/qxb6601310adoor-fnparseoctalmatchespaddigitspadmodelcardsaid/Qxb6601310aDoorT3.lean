/-
  parseOctal.
-/
import Derived.Test.Qxb6601310aDoorT2
import Derived.Test.Qxb6601310aDoorPlain
namespace Go.Proofs.Qxb6601310aDoor
open Go.RowKit

theorem nb_oct (l : List UInt8) (k : Nat) : Oc.oct (l.getD k 0) = decide (48 ≤ nb l k ∧ nb l k ≤ 55) := by
  unfold Oc.oct nb
  rw [Bool.eq_iff_iff, decide_eq_true_iff, decide_eq_true_iff]
  omega
theorem take_snoc (l : List UInt8) (i : Nat) (h : i < l.length) : l.take (i + 1) = l.take i ++ [l.getD i 0] := by
  rw [List.take_add_one, List.getElem?_eq_getElem h, List.getD_eq_getElem?_getD, List.getElem?_eq_getElem h]
  rfl
theorem ret_two {a b : Int} {x y : Bool} (h1 : a = b) (h2 : x = y) : Ending.returned (.tuple #[.int .i64 a, .bool x]) = .returned (.tuple #[.int .i64 b, .bool y]) := by rw [h1, h2]
theorem trim_len (bs : List UInt8) : (Lib.trimS bs [32, 0]).length ≤ bs.length := by
  have h := congrArg List.length (trimS_drop bs [32, 0])
  have h2 := Lib.trimRightS_len_le bs [32, 0]
  rw [List.length_drop] at h
  omega

set_option maxRecDepth 100000 in
set_option maxHeartbeats 2000000 in
theorem parse11 (p : Option Addr) (n c : Nat) (bs : List UInt8) (W : World) (hb : bs.length = n) (hnc : n ≤ c) (hbig : c ≤ 9223372036854775807) (h1 : Lib.BytesAt W p n bs) :
    Calls Tryd.prog 11 #[.slice p n c] W fun e w' => e = .returned (.tuple #[.int .i64 (Oc.ans bs).1, .bool (Oc.ans bs).2]) ∧ Below W.heap.size W w' := by
  have K12 := hide (trim12 p n c bs W hb hnc hbig h1)
  have hTl := trim_len bs
  have hans : Oc.ans bs = if (Lib.trimS bs [32, 0]).all Oc.oct then (wrap64 (Oc.val (Lib.trimS bs [32, 0]) : Int), true) else (0, false) := rfl
  have HAns := hide hans
  clear hans
  generalize hT : Lib.trimS bs [32, 0] = T at K12 hTl HAns
  generalize Oc.ans bs = r at HAns ⊢
  clear hT h1
  go_enter Tryd.func11, Tryd.ntmps11
  go_wp2_with fail
  refine K12.out.mono ?_
  rintro e w1 ⟨⟨p', c', rfl, hat⟩, hb1⟩
  have HAt := hide hat
  clear hat
  go_wp2_with fail
  go_loop [5, 12] (fun s5 s12 => ∃ (i : Nat) (v : Int), s5 = .int .i64 v ∧ s12 = .int .i64 i ∧ i ≤ T.length ∧ v = wrap64 (Oc.val (T.take i) : Int) ∧ (∀ j, j < i → Oc.oct (T.getD j 0) = true)) (fun _ s12 => T.length - (intOf s12).toNat)
  case atStart => exact ⟨0, 0, rfl, rfl, by omega, by simp [Oc.val, wrap64], fun j h => by omega⟩
  case round =>
    obtain ⟨i, v, rfl, rfl, hi, hv, hall⟩ := hrel
    have hr1 : -9223372036854775808 ≤ v ∧ v ≤ 9223372036854775807 := by rw [hv]; unfold wrap64; omega
    obtain ⟨hv1, hv2⟩ := hr1
    have HV := hide hv
    have HAll := hide hall
    clear hv hall
    by_cases hlt : i < T.length
    · obtain ⟨b, o, rfl, hcell⟩ := HAt.out (by omega)
      have hrd : w1.cell? ⟨b, o + i, none⟩ = some (.int .u8 (nb T i)) := hcell i hlt
      clear hcell
      have ho := nb_oct T i
      have hr0 : 0 ≤ nb T i := by unfold nb; omega
      by_cases hd : 48 ≤ nb T i ∧ nb T i ≤ 55
      · rw [decide_eq_true hd] at ho
        have HO := hide ho
        obtain ⟨hd1, hd2⟩ := hd
        clear ho
        go_wp2_with fail
        go_round
        case rel =>
          refine ⟨i + 1, _, rfl, by go_num, by omega, ?_, fun j h => ?_⟩
          · have hdn : nb T i - 48 = (((T.getD i 0).toNat - 48 : Nat) : Int) := by unfold nb at hd1 ⊢; omega
            have hd8 : (T.getD i 0).toNat - 48 < 8 := by unfold nb at hd2; omega
            rw [HV.out, hdn, Oc.oct_or _ _ hd8, take_snoc T i hlt, Oc.val_snoc]
          · by_cases hji : j = i
            · subst hji; exact HO.out
            · exact HAll.out j (by omega)
        case measure => simp [intOf]; omega
      · rw [decide_eq_false hd] at ho
        have hr : r = (0, false) := by
          rw [HAns.out, Oc.all_false (c := T.getD i 0) ?_ ho]
          · rfl
          · rw [List.getD_eq_getElem?_getD, List.getElem?_eq_getElem hlt]
            exact List.getElem_mem _
        subst hr
        by_cases hd1 : 48 ≤ nb T i
        · have hd2 : 55 < nb T i := by omega
          clear hd ho HAns
          go_wp2
          go_ret2
          exact ⟨rfl, hb1⟩
        · have hd2 : nb T i < 48 := by omega
          clear hd ho HAns
          go_wp2
          go_ret2
          exact ⟨rfl, hb1⟩
    · obtain rfl : i = T.length := by omega
      have hr : r = (v, true) := by
        rw [HAns.out, if_pos, HV.out, List.take_of_length_le (Nat.le_refl _)]
        rw [List.all_eq_true]
        intro c hc
        obtain ⟨j, hj, rfl⟩ := List.mem_iff_getElem.1 hc
        have := HAll.out j hj
        rwa [List.getD_eq_getElem?_getD, List.getElem?_eq_getElem hj] at this
      subst hr
      clear HAns
      go_wp2
      go_ret2
      exact ⟨rfl, hb1⟩
end Go.Proofs.Qxb6601310aDoor
