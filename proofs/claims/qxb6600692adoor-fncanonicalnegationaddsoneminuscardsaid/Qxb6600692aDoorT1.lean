import Derived.Test.Qxb6600692aDoorProg
import Derived.Test.Qxb6600692aDoorPlain
import Derived.WalkKit
import Derived.WalkSpells
import Derived.Lib.Strings
import Derived.Lib.SmallJoins
namespace Go.Proofs.Qxb6600692aDoor
open Go.RowKit

theorem hide {p : Prop} (h : p) : Hid p := h

theorem ret_bool {a b : Bool} (h : a = b) : Ending.returned (.bool a) = .returned (.bool b) := by rw [h]

theorem zzBytes15 (a b : ByteArray) (w : World) (ha : a.size ≤ maxLen) (hb : b.size ≤ maxLen) :
    Calls Tryd.prog 15 #[.string a, .string b] w fun e w' => e = .returned (.bool (decide (a.size + b.size ≤ 1048576))) ∧ w' = w := by
  unfold maxLen at ha hb
  by_cases h : a.size + b.size ≤ 1048576
  · rw [decide_eq_true h]
    go_enter Tryd.func15, Tryd.ntmps15
    go_wp2
    go_ret
    exact ⟨rfl, rfl⟩
  · rw [decide_eq_false h]
    go_enter Tryd.func15, Tryd.ntmps15
    go_wp2
    all_goals
      go_ret
      exact ⟨rfl, rfl⟩

def Said13 : Prop := ∀ (neg : Bool) (a b : ByteArray) (w : World), a.size + b.size ≤ 2000000 →
    Calls Tryd.prog 13 #[.bool neg, .string a, .string b] w fun e w' => e = .returned (.string ⟨(Canon.canon neg a.data.toList b.data.toList).toArray⟩) ∧ Below w.heap.size w w'

set_option maxHeartbeats 400000 in
theorem neg_walk (h13 : Said13) (a b : ByteArray) (w : World) (ha : a.size ≤ maxLen) (hb : b.size ≤ maxLen) :
    Calls Tryd.prog 5 #[.string a, .string b] w fun e w' => e = .returned (.bool true) ∧ Below w.heap.size w w' := by
  have hz := zzBytes15 a b w ha hb
  unfold maxLen at ha hb
  by_cases h : a.size + b.size ≤ 1048576
  · rw [decide_eq_true h] at hz
    have H := hide hz
    clear hz
    have hl : (Canon.canon false a.data.toList b.data.toList).length ≤ 1048579 := by
      have := Canon.canon_le false a.data.toList b.data.toList
      simp at this
      omega
    go_enter Tryd.func5, Tryd.ntmps5
    go_wp2_with fail
    refine H.out.mono ?_
    rintro e w' ⟨rfl, rfl⟩
    go_wp2_with fail
    refine (h13 false a b _ (by omega)).mono ?_
    rintro e w1 ⟨rfl, hb1⟩
    go_wp2_with fail
    refine (h13 true a b _ (by omega)).mono ?_
    rintro e w2 ⟨rfl, hb2⟩
    go_wp2
    · rename_i hq
      go_ret
      refine ⟨ret_bool ?_, hb1.trans (hb2.mono hb1.size)⟩
      rw [Canon.neg_zero _ _ (by simpa using hq)]
      rfl
    · rename_i hq
      go_ret
      refine ⟨ret_bool ?_, hb1.trans (hb2.mono hb1.size)⟩
      rw [Canon.neg_other _ _ (by simpa using hq), Lib.toList_data, Joins.data_append]
      simp
  · rw [decide_eq_false h] at hz
    have H := hide hz
    clear hz
    go_enter Tryd.func5, Tryd.ntmps5
    go_wp2_with fail
    refine H.out.mono ?_
    rintro e w' ⟨rfl, rfl⟩
    go_wp2
    go_ret
    exact ⟨rfl, Below.refl _ _⟩
end Go.Proofs.Qxb6600692aDoor
