/-
  FnHeaderNameExact: the whole law.
-/
import Derived.Test.Qxb6600831aDoorT5
namespace Go.Proofs.Qxb6600831aDoor
open Go.RowKit

theorem index_hit (L : List UInt8) (c : UInt8) (p : Nat) (h : Lib.indexByte L c = p) : L.getD p 0 = c := by
  induction L generalizing p with
  | nil => simp [Lib.indexByte] at h
  | cons b l ih =>
    unfold Lib.indexByte at h
    split at h
    · rename_i hb
      obtain rfl : p = 0 := by omega
      simpa using hb
    · split at h
      · omega
      · rcases index_lt l c with h' | ⟨q, h', _⟩
        · rename_i h2; simp [h'] at h2
        · rw [h'] at h
          obtain rfl : p = q + 1 := by omega
          have := ih q h'
          simpa using this

set_option maxRecDepth 100000 in
theorem exact_walk (s : ByteArray) (git raw : Bool) (W : World) (hs : s.size ≤ maxLen) :
    Calls Tryd.prog 3 #[.string s, .bool git, .bool raw] W fun e w' => e = .returned (.bool true) ∧ Below W.heap.size W w' := by
  by_cases h2 : s.size ≤ 65536
  · cases hgr : (git && !raw) with
    | false => exact exact_plain s git raw W h2 (.inl hgr)
    | true =>
      rcases index_lt s.data.toList 34 with h | ⟨p, hp, hpl⟩
      · exact exact_plain s git raw W h2 (.inr h)
      · obtain ⟨rfl, rfl⟩ : git = true ∧ raw = false := by cases git <;> cases raw <;> simp at hgr <;> simp
        exact exact_quote s _ rfl W h2 p hp hpl (index_hit _ _ _ hp)
  · have hz := zzBytes6 s git raw W hs
    unfold maxLen at hs
    by_cases h1 : s.size ≤ 1048576
    · rw [decide_eq_true h1] at hz
      have H := hide hz
      clear hz
      go_enter Tryd.func3, Tryd.ntmps3
      go_wp2_with fail
      refine H.out.mono ?_
      rintro e w' ⟨rfl, rfl⟩
      go_wp2
      go_ret
      exact ⟨rfl, Below.refl _ _⟩
    · rw [decide_eq_false h1] at hz
      have H := hide hz
      clear hz
      go_enter Tryd.func3, Tryd.ntmps3
      go_wp2_with fail
      refine H.out.mono ?_
      rintro e w' ⟨rfl, rfl⟩
      go_wp2
      go_ret
      exact ⟨rfl, Below.refl _ _⟩
end Go.Proofs.Qxb6600831aDoor
