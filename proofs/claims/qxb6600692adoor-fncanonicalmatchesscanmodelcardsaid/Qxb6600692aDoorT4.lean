/-
  FnCanonicalMatchesScanModel: the law's walk out of the contracts.
-/
import Derived.Test.Qxb6600692aDoorT3
namespace Go.Proofs.Qxb6600692aDoor
open Go.RowKit

theorem zzBytes12 (n : Bool) (a b : ByteArray) (w : World) (ha : a.size ≤ maxLen) (hb : b.size ≤ maxLen) :
    Calls Tryd.prog 12 #[.bool n, .string a, .string b] w fun e w' => e = .returned (.bool (decide (a.size + b.size ≤ 1048576))) ∧ w' = w := by
  unfold maxLen at ha hb
  by_cases h : a.size + b.size ≤ 1048576
  · rw [decide_eq_true h]
    go_enter Tryd.func12, Tryd.ntmps12
    go_wp2
    go_ret
    exact ⟨rfl, rfl⟩
  · rw [decide_eq_false h]
    go_enter Tryd.func12, Tryd.ntmps12
    go_wp2
    all_goals
      go_ret
      exact ⟨rfl, rfl⟩

set_option maxHeartbeats 400000 in
theorem scan_walk (h13 : Said13) (n : Bool) (a b : ByteArray) (w : World) (ha : a.size ≤ maxLen) (hb : b.size ≤ maxLen) :
    Calls Tryd.prog 4 #[.bool n, .string a, .string b] w fun e w' => e = .returned (.bool true) ∧ Below w.heap.size w w' := by
  have hz := zzBytes12 n a b w ha hb
  unfold maxLen at ha hb
  by_cases h : a.size + b.size ≤ 1048576
  · rw [decide_eq_true h] at hz
    have H := hide hz
    clear hz
    have K13 := hide (fun w => h13 n a b w (by omega))
    have K14 := hide (fun w => model14 n a b w h)
    generalize (⟨(Canon.canon n a.data.toList b.data.toList).toArray⟩ : ByteArray) = r at K13 K14
    go_enter Tryd.func4, Tryd.ntmps4
    go_wp2_with fail
    refine H.out.mono ?_
    rintro e w' ⟨rfl, rfl⟩
    go_wp2_with fail
    refine (K13.out _).mono ?_
    rintro e w1 ⟨rfl, hb1⟩
    go_wp2_with fail
    refine (K14.out _).mono ?_
    rintro e w2 ⟨rfl, hb2⟩
    go_wp2
    go_ret
    exact ⟨ret_bool (by simp), hb1.trans (hb2.mono hb1.size)⟩
  · rw [decide_eq_false h] at hz
    have H := hide hz
    clear hz
    go_enter Tryd.func4, Tryd.ntmps4
    go_wp2_with fail
    refine H.out.mono ?_
    rintro e w' ⟨rfl, rfl⟩
    go_wp2
    go_ret
    exact ⟨rfl, Below.refl _ _⟩
end Go.Proofs.Qxb6600692aDoor
