/-
  FnHeaderNameReadsEscapedSubsection: the whole law.
-/
import Derived.Test.Qxb6600831aDoorT8
namespace Go.Proofs.Qxb6600831aDoor
open Go.RowKit

set_option maxRecDepth 100000 in
set_option maxHeartbeats 1000000 in
theorem sub_walk (a b c : ByteArray) (W : World) (ha : a.size ≤ maxLen) (hb : b.size ≤ maxLen) (hc : c.size ≤ maxLen) :
    Calls Tryd.prog 4 #[.string a, .string b, .string c] W fun e w' => e = .returned (.bool true) ∧ Below W.heap.size W w' := by
  by_cases h2 : a.size ≤ 65536 ∧ b.size ≤ 65536 ∧ c.size ≤ 65536
  · exact sub_short a b c _ _ _ rfl rfl rfl W h2.1 h2.2.1 h2.2.2
  · have hz := zzBytes10 a b c W ha hb hc
    unfold maxLen at ha hb hc
    by_cases h1 : a.size + b.size + c.size ≤ 1048576
    · rw [decide_eq_true h1] at hz
      have H := hide hz
      clear hz
      by_cases q1 : a.size ≤ 65536
      · by_cases q2 : b.size ≤ 65536
        · have q3 : ¬ c.size ≤ 65536 := fun h => h2 ⟨q1, q2, h⟩
          clear h2
          go_enter Tryd.func4, Tryd.ntmps4
          go_wp2_with fail
          refine H.out.mono ?_
          rintro e w' ⟨rfl, rfl⟩
          go_wp2
          go_ret
          exact ⟨rfl, Below.refl _ _⟩
        · clear h2
          go_enter Tryd.func4, Tryd.ntmps4
          go_wp2_with fail
          refine H.out.mono ?_
          rintro e w' ⟨rfl, rfl⟩
          go_wp2
          go_ret
          exact ⟨rfl, Below.refl _ _⟩
      · clear h2
        go_enter Tryd.func4, Tryd.ntmps4
        go_wp2_with fail
        refine H.out.mono ?_
        rintro e w' ⟨rfl, rfl⟩
        go_wp2
        go_ret
        exact ⟨rfl, Below.refl _ _⟩
    · rw [decide_eq_false h1] at hz
      have H := hide hz
      clear hz
      go_enter Tryd.func4, Tryd.ntmps4
      go_wp2_with fail
      refine H.out.mono ?_
      rintro e w' ⟨rfl, rfl⟩
      go_wp2
      go_ret
      exact ⟨rfl, Below.refl _ _⟩
end Go.Proofs.Qxb6600831aDoor
