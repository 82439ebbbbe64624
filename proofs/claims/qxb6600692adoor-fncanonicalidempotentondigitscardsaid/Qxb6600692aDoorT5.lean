/-
  FnCanonicalIdempotentOnDigits: the walks of zzb1AllDigitString and zzb1Parts.
-/
import Derived.Test.Qxb6600692aDoorT3
import Derived.Test.Qxb6600692aDoorIdem
import Derived.Handy
namespace Go.Proofs.Qxb6600692aDoor
open Go.RowKit

theorem dig_nb (l : List UInt8) (k : Nat) : Canon.dig (l.getD k 0) = (decide (48 ≤ Canon.nb l k) && decide (Canon.nb l k ≤ 57)) := by
  unfold Canon.dig Canon.nb
  congr 1
  · rw [decide_eq_decide]; omega
  · rw [decide_eq_decide]; omega

set_option maxHeartbeats 400000 in
theorem digits17 (s : ByteArray) (w : World) (hs : s.size ≤ 9223372036854775807) :
    Calls Tryd.prog 17 #[.string s] w fun e w' => e = .returned (.bool (Canon.allDig s.data.toList)) ∧ w' = w := by
  go_enter Tryd.func17, Tryd.ntmps17
  go_wp2_with fail
  go_loop [3] (fun i => ∃ k : Nat, k ≤ s.size ∧ i = .int .i64 k ∧ Canon.allDig (s.data.toList.take k) = true) (fun i => s.size - (intOf i).toNat)
  case atStart => exact ⟨0, Nat.zero_le _, rfl, rfl⟩
  case round =>
    obtain ⟨k, hk, rfl, hA⟩ := hrel
    have HA := hide hA
    clear hA
    by_cases hlt : k < s.size
    · have e3 := get_nb' s k hlt
      have b1 := Canon.nb_lo s.data.toList k
      have b2 := Canon.nb_hi s.data.toList k
      have E2 := hide (Canon.take_one s.data.toList k (by simpa using hlt))
      have E4 := hide (dig_nb s.data.toList k)
      by_cases hd : 48 ≤ Canon.nb s.data.toList k ∧ Canon.nb s.data.toList k ≤ 57
      · obtain ⟨hd1, hd2⟩ := hd
        go_wp2
        go_round
        case rel =>
          refine ⟨k + 1, by omega, by go_num, ?_⟩
          rw [E2.out]
          unfold Canon.allDig
          rw [List.all_append, Bool.and_eq_true]
          exact ⟨HA.out, by simp only [List.all_cons, List.all_nil, Bool.and_true]; rw [E4.out]; simp [hd1, hd2]⟩
        case measure => simp [intOf]; omega
      · have hf : Canon.allDig s.data.toList = false := by
          cases hX : Canon.allDig s.data.toList with
          | false => rfl
          | true =>
            unfold Canon.allDig at hX
            have h3 := List.all_eq_true.1 hX (s.data.toList.getD k 0) (by
              rw [List.getD_eq_getElem?_getD, List.getElem?_eq_getElem (by simpa using hlt)]
              simp)
            rw [E4.out] at h3
            simp at h3
            exact absurd h3 hd
        have HF := hide hf
        clear hf
        have hd' : Canon.nb s.data.toList k < 48 ∨ 57 < Canon.nb s.data.toList k := by omega
        rcases hd' with h1 | h1
        · go_wp2
          go_ret
          exact ⟨ret_bool HF.out.symm, rfl⟩
        · go_wp2
          go_ret
          exact ⟨ret_bool HF.out.symm, rfl⟩
    · obtain rfl : k = s.size := by omega
      go_wp2
      go_ret
      have := HA.out
      rw [List.take_of_length_le (by simp)] at this
      exact ⟨ret_bool this.symm, rfl⟩

def tailOf (s : ByteArray) (p : Nat) : ByteArray := if p < s.size then s.extract (p + 1) s.size else ⟨#[]⟩
theorem tail_lt {s : ByteArray} {p : Nat} (h : p < s.size) : tailOf s p = s.extract (p + 1) s.size := if_pos h
theorem tail_ge {s : ByteArray} {p : Nat} (h : ¬ p < s.size) : tailOf s p = ⟨#[]⟩ := if_neg h

def PartsEnd (s : ByteArray) (ng : Bool) (st : Nat) (w : World) (e : Ending) (w' : World) : Prop :=
  ∃ p : Nat, st ≤ p ∧ p ≤ s.size ∧ Canon.NoDot s.data.toList st p ∧ (p < s.size → Canon.nb s.data.toList p = 46) ∧
    e = .returned (.tuple #[.bool ng, .string (s.extract st p), .string (tailOf s p), .bool (decide (p < s.size))]) ∧ Below w.heap.size w w'

set_option maxHeartbeats 1000000 in
theorem parts18_neg (s : ByteArray) (w : World) (hs : s.size ≤ 9223372036854775806) (h0 : 0 < s.size) (h1 : Canon.nb s.data.toList 0 = 45) :
    Calls Tryd.prog 18 #[.string s] w (PartsEnd s true 1 w) := by
  have e0 := get_nb' s 0 h0
  rw [h1] at e0
  clear h1
  go_enter Tryd.func18, Tryd.ntmps18
  go_wp2_with fail
  go_loop [8, 9] (fun pt i => ∃ k : Nat, 1 ≤ k ∧ k ≤ s.size ∧ i = .int .i64 k ∧ pt = .int .i64 s.size ∧ Canon.NoDot s.data.toList 1 k) (fun _ i => s.size - (intOf i).toNat)
  case atStart => exact ⟨1, Nat.le_refl _, by omega, rfl, rfl, fun j a b => by omega⟩
  case round =>
    obtain ⟨k, hk1, hk, rfl, rfl, hN⟩ := hrel
    have HN := hide hN
    clear hN
    by_cases hlt : k < s.size
    · have e3 := get_nb' s k hlt
      by_cases hd : Canon.nb s.data.toList k = 46
      · have hq : (Canon.nb s.data.toList k == 46) = true := by simp [hd]
        have HD := hide hd
        clear hd
        have hne : ((k : Int) == (s.size : Int)) = false := by simp; omega
        go_wp2_with fail
        go_quiet (fail)
        go_wp2
        have hfin : PartsEnd s true 1 w (.returned (.tuple #[.bool true, .string (s.extract 1 k), .string (s.extract (k + 1) s.size), .bool true])) (w.drewN nq) :=
          ⟨k, hk1, hk, HN.out, fun _ => HD.out, by rw [tail_lt hlt, decide_eq_true hlt], Joins.below_draws _ _ _⟩
        exact bodyPost_ret (by simp [results, Tryd.results18, go_sem]) rfl hfin
      · have hq : (Canon.nb s.data.toList k == 46) = false := by simp [hd]
        have HD := hide hd
        clear hd
        go_wp2
        go_round
        case rel => exact ⟨k + 1, by omega, by omega, by go_num, rfl, fun j a b => by
          rcases Nat.lt_or_ge j k with h | h
          · exact HN.out j a h
          · rw [show j = k by omega]; exact HD.out⟩
        case measure => simp [intOf]; omega
    · obtain rfl : k = s.size := by omega
      go_wp2_with fail
      go_quiet (fail)
      go_wp2
      have hfin : PartsEnd s true 1 w (.returned (.tuple #[.bool true, .string (s.extract 1 s.size), .string ⟨#[]⟩, .bool false])) (w.drewN nq) :=
        ⟨s.size, hk1, Nat.le_refl _, HN.out, fun h => absurd h (Nat.lt_irrefl _), by rw [tail_ge (Nat.lt_irrefl _), decide_eq_false (Nat.lt_irrefl _)], Joins.below_draws _ _ _⟩
      exact bodyPost_ret (by simp [results, Tryd.results18, go_sem]) rfl hfin

set_option maxHeartbeats 1000000 in
theorem parts18_pos (s : ByteArray) (w : World) (hs : s.size ≤ 9223372036854775806) (h0 : 0 < s.size) (h1 : Canon.nb s.data.toList 0 ≠ 45) :
    Calls Tryd.prog 18 #[.string s] w (PartsEnd s false 0 w) := by
  have e0 := get_nb' s 0 h0
  have h1' : (Canon.nb s.data.toList 0 == 45) = false := by simp [h1]
  clear h1
  go_enter Tryd.func18, Tryd.ntmps18
  go_wp2_with fail
  go_loop [8, 9] (fun pt i => ∃ k : Nat, 0 ≤ k ∧ k ≤ s.size ∧ i = .int .i64 k ∧ pt = .int .i64 s.size ∧ Canon.NoDot s.data.toList 0 k) (fun _ i => s.size - (intOf i).toNat)
  case atStart => exact ⟨0, Nat.le_refl _, by omega, rfl, rfl, fun j a b => by omega⟩
  case round =>
    obtain ⟨k, hk1, hk, rfl, rfl, hN⟩ := hrel
    have HN := hide hN
    clear hN
    by_cases hlt : k < s.size
    · have e3 := get_nb' s k hlt
      by_cases hd : Canon.nb s.data.toList k = 46
      · have hq : (Canon.nb s.data.toList k == 46) = true := by simp [hd]
        have HD := hide hd
        clear hd
        have hne : ((k : Int) == (s.size : Int)) = false := by simp; omega
        go_wp2_with fail
        go_quiet (fail)
        go_wp2
        have hfin : PartsEnd s false 0 w (.returned (.tuple #[.bool false, .string (s.extract 0 k), .string (s.extract (k + 1) s.size), .bool true])) (w.drewN nq) :=
          ⟨k, hk1, hk, HN.out, fun _ => HD.out, by rw [tail_lt hlt, decide_eq_true hlt], Joins.below_draws _ _ _⟩
        exact bodyPost_ret (by simp [results, Tryd.results18, go_sem]) rfl hfin
      · have hq : (Canon.nb s.data.toList k == 46) = false := by simp [hd]
        have HD := hide hd
        clear hd
        go_wp2
        go_round
        case rel => exact ⟨k + 1, by omega, by omega, by go_num, rfl, fun j a b => by
          rcases Nat.lt_or_ge j k with h | h
          · exact HN.out j a h
          · rw [show j = k by omega]; exact HD.out⟩
        case measure => simp [intOf]; omega
    · obtain rfl : k = s.size := by omega
      go_wp2_with fail
      go_quiet (fail)
      go_wp2
      have hfin : PartsEnd s false 0 w (.returned (.tuple #[.bool false, .string (s.extract 0 s.size), .string ⟨#[]⟩, .bool false])) (w.drewN nq) :=
        ⟨s.size, hk1, Nat.le_refl _, HN.out, fun h => absurd h (Nat.lt_irrefl _), by rw [tail_ge (Nat.lt_irrefl _), decide_eq_false (Nat.lt_irrefl _)], Joins.below_draws _ _ _⟩
      exact bodyPost_ret (by simp [results, Tryd.results18, go_sem]) rfl hfin
end Go.Proofs.Qxb6600692aDoor
