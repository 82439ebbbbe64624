/-
  FnParseOctalMatchesPadDigitsPadModel: the law's walk.
-/
import Derived.Test.Qxb6601310aDoorT4
namespace Go.Proofs.Qxb6601310aDoor
open Go.RowKit

theorem zz7 (p : Option Addr) (n c : Nat) (bs : List UInt8) (W : World) (hb : bs.length = n) (hnc : n ≤ c) (hbig : c ≤ 9223372036854775807) (h1 : Lib.BytesAt W p n bs) :
    Calls Tryd.prog 7 #[.slice p n c] W fun e w' => e = .returned (.tuple #[.int .i64 (Oc.ans bs).1, .bool (Oc.ans bs).2]) ∧ Below W.heap.size W w' := by
  have K := hide (parse11 p n c bs W hb hnc hbig h1)
  clear h1
  generalize Oc.ans bs = r at K ⊢
  go_enter Tryd.func7, Tryd.ntmps7
  go_wp2_with fail
  refine K.out.mono ?_
  rintro e w1 ⟨rfl, hb1⟩
  go_wp2
  go_ret2
  exact ⟨rfl, hb1⟩

set_option maxRecDepth 100000 in
set_option maxHeartbeats 1000000 in
theorem law_walk (p : Option Addr) (n c : Nat) (bs : List UInt8) (W : World) (hb : bs.length = n) (hnc : n ≤ c) (hbig : c ≤ 9223372036854775807) (h1 : Lib.BytesAt W p n bs) :
    Calls Tryd.prog 3 #[.slice p n c] W fun e w' => e = .returned (.bool true) ∧ Below W.heap.size W w' := by
  have hz := zzBytes5 p n c W (by omega)
  by_cases h2 : n ≤ 1048576
  · rw [decide_eq_true h2] at hz
    have K5 := hide hz
    have K6 := hide (copy6 p n c bs W hb h2 h1)
    clear hz h1
    go_enter Tryd.func3, Tryd.ntmps3
    go_wp2_with fail
    refine K5.out.mono ?_
    rintro e w1 ⟨rfl, rfl⟩
    go_wp2_with fail
    refine K6.out.mono ?_
    rintro e w2 ⟨⟨p', rfl, hat⟩, hb2⟩
    have K7 := hide (zz7 p' n n bs w2 hb (Nat.le_refl _) (by omega) hat)
    have K8 := hide (fun w (h : Lib.BytesAt w p' n bs) => model8 p' n n bs w hb h2 h)
    generalize Oc.ans bs = r at K7 K8
    have HAt := hide hat
    clear hat
    go_wp2_with fail
    refine K7.out.mono ?_
    rintro e w3 ⟨rfl, hb3⟩
    have k8 := K8.out w3 (HAt.out.below hb3)
    have hb4 := hb2.trans (hb3.mono hb2.size)
    clear hb2 hb3
    go_wp2_with fail
    refine k8.mono ?_
    rintro e w4 ⟨rfl, rfl⟩
    go_wp2
    go_ret
    exact ⟨ret_bool (by simp), hb4⟩
  · rw [decide_eq_false h2] at hz
    have K5 := hide hz
    clear hz h1
    go_enter Tryd.func3, Tryd.ntmps3
    go_wp2_with fail
    refine K5.out.mono ?_
    rintro e w1 ⟨rfl, rfl⟩
    go_wp2
    go_ret
    exact ⟨rfl, Below.refl _ _⟩
end Go.Proofs.Qxb6601310aDoor
