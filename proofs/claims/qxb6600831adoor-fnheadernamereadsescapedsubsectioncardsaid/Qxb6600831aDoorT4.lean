/-
  FnHeaderNameExact: the law's walk.
-/
import Derived.Test.Qxb6600831aDoorOpt
import Derived.Test.Qxb6600831aDoorOwn
namespace Go.Proofs.Qxb6600831aDoor
open Go.RowKit

theorem str_self (s : ByteArray) : (⟨s.data.toList.toArray⟩ : ByteArray) = s := by cases s; simp

set_option maxRecDepth 100000 in
set_option maxHeartbeats 2000000 in
theorem exact_plain (s : ByteArray) (git raw : Bool) (W : World) (hs : s.size ≤ 65536) (hno : (git && !raw) = false ∨ Lib.indexByte s.data.toList 34 = -1) :
    Calls Tryd.prog 3 #[.string s, .bool git, .bool raw] W fun e w' => e = .returned (.bool true) ∧ Below W.heap.size W w' := by
  have K6 := hide (zzBytes6 s git raw W (by unfold maxLen; omega))
  rw [decide_eq_true (by omega)] at K6
  have hans : ans git raw s.data.toList = s.data.toList := by
    unfold ans place
    rcases hno with h | h
    · rw [h]; simp
    · rw [h]; split <;> simp
  have K7 := hide (fun w => head7 git raw s s.data.toList rfl w (by omega))
  rw [hans, str_self] at K7
  have K8 := hide (fun w => index8 s s.data.toList rfl w (by omega))
  generalize Lib.indexByte s.data.toList 34 = q at K8 hno
  clear hans
  go_enter Tryd.func3, Tryd.ntmps3
  go_wp2_with fail
  refine K6.out.mono ?_
  rintro e w1 ⟨rfl, rfl⟩
  go_wp2_with (first | refine wpList_opt_build git raw rfl _ _ rfl rfl rfl ?_ | refine wpList_opt_alloc rfl rfl ?_ | refine wpList_opt_store git raw rfl _ _ rfl rfl rfl ?_ | refine wpList_opt_load git raw rfl _ rfl rfl ?_)
  refine (K7.out _).mono ?_
  rintro e w2 ⟨rfl, hb2⟩
  go_wp2_with fail
  refine (K8.out _).mono ?_
  rintro e w3 ⟨rfl, rfl⟩
  have hb3 := (Joins.below_alloc1 w1 _).trans (hb2.mono (by simp))
  cases git <;> cases raw
  case true.false =>
    obtain rfl : q = -1 := by simpa using hno
    go_wp2
    go_ret
    exact ⟨ret_bool (by simp), hb3⟩
  all_goals
    go_wp2
    go_ret
    exact ⟨ret_bool (by simp), hb3⟩
end Go.Proofs.Qxb6600831aDoor
