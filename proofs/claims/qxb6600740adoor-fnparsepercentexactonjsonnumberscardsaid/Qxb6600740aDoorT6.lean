/-
  FnParsePercentExactOnJSONNumbers: the law's walk.
-/
import Derived.Test.Qxb6600740aDoorT4
import Derived.Test.Qxb6600740aDoorM5
namespace Go.Proofs.Qxb6600740aDoor
open Go.RowKit

theorem spec_range {N : Nat} {x : Int} {neg : Bool} {n : Int} {ok : Bool} (h : Pc.SpecRel N x neg n ok) : 0 ≤ n ∧ n ≤ 10000 := by
  rcases h with ⟨_, h, _⟩ | ⟨_, _, h, _⟩ | ⟨_, _, _, m, h, h', _⟩ | ⟨_, _, _, h, _⟩ <;> omega

theorem zzBytes6 (s : ByteArray) (w : World) (hs : s.size ≤ maxLen) :
    Calls Tryd.prog 6 #[.string s] w fun e w' => e = .returned (.bool (decide (s.size ≤ 1048576))) ∧ w' = w := by
  unfold maxLen at hs
  by_cases h : s.size ≤ 1048576
  · rw [decide_eq_true h]
    go_enter Tryd.func6, Tryd.ntmps6
    go_wp2
    go_ret
    exact ⟨rfl, rfl⟩
  · rw [decide_eq_false h]
    go_enter Tryd.func6, Tryd.ntmps6
    go_wp2
    all_goals
      go_ret
      exact ⟨rfl, rfl⟩

set_option maxHeartbeats 1000000 in
theorem exact_walk {W : World} (hL : Laid W) (s : ByteArray) (hs : s.size ≤ maxLen) :
    Calls Tryd.prog 3 #[.string s] W fun e w' => e = .returned (.bool true) ∧ Below W.heap.size W w' := by
  have hz := zzBytes6 s W hs
  unfold maxLen at hs
  by_cases h1 : s.size ≤ 1048576
  · rw [decide_eq_true h1] at hz
    have H := hide hz
    clear hz
    by_cases h2 : s.size ≤ 65536
    · have K7 := hide (model7 s s.data.toList rfl h2 W)
      go_enter Tryd.func3, Tryd.ntmps3
      go_wp2_with fail
      refine H.out.mono ?_
      rintro e w' ⟨rfl, rfl⟩
      go_wp2_with fail
      refine K7.out.mono ?_
      rintro e w1 ⟨valid, n, ok, rfl, rfl, hG⟩
      cases valid with
      | false =>
        clear hG
        go_wp2
        go_ret
        exact ⟨rfl, Below.refl _ _⟩
      | true =>
        obtain ⟨neg, ip, fr, dot, hasE, c, t, E, hSh, hsp⟩ := hG rfl
        have hr := spec_range hsp
        obtain ⟨r1, r2⟩ := hr
        have K8 := hide (parse8 hL s neg ip fr dot hasE c t E hSh (by omega) w1 (Below.refl _ _))
        have HSp := hide hsp
        clear hG hSh hsp
        go_wp2_with fail
        refine K8.out.mono ?_
        rintro e w2 ⟨g, ok', rfl, hs', hb⟩
        obtain ⟨rfl, rfl⟩ := Pc.spec_one hs' HSp.out
        clear hs'
        cases ok'
        all_goals
          go_wp2
          go_ret
          exact ⟨ret_bool (by simp), hb⟩
    · go_enter Tryd.func3, Tryd.ntmps3
      go_wp2_with fail
      refine H.out.mono ?_
      rintro e w' ⟨rfl, rfl⟩
      go_wp2
      go_ret
      exact ⟨rfl, Below.refl _ _⟩
  · rw [decide_eq_false h1] at hz
    have H := hide hz
    clear hz
    go_enter Tryd.func3, Tryd.ntmps3
    go_wp2_with fail
    refine H.out.mono ?_
    rintro e w' ⟨rfl, rfl⟩
    go_wp2
    go_ret
    exact ⟨rfl, Below.refl _ _⟩
end Go.Proofs.Qxb6600740aDoor
