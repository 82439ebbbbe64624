/-
  FnParseOctalMatchesPadDigitsPadModel: the walk lifted to the row, and the tied card.
-/
import Derived.Test.Qxb6601310aDoorTie
import Derived.Test.Qxb6601310aDoorCards
import Derived.Test.Qxb6601310aDoorT5
import Derived.Lib.SlBytesRowKit3
import Derived.WalkKit
import Derived.ProofKit
import Derived.LaidMore
import Derived.Lay
import Derived.SevenTiedAt
import Derived.Stop.Joined
namespace Go.Proofs.Qxb6601310aDoor
open Go.ChangeShapes Go.WideShapes Go.ChangeAt Go.RowKit

theorem laidOut : laidOutB Tryd.prog = true := by kernel_rfl
theorem cells5 : Tryd.prog.cellsOf 5 = 1 := by kernel_rfl
theorem fnParseOctalMatchesPadDigitsPadModel_own : ownKnob Tryd.prog.godebug = none := by kernel_rfl

set_option maxHeartbeats 800000 in
set_option maxRecDepth 100000 in
theorem fnParseOctalMatchesPadDigitsPadModel_lifted (os : Os) (started : os.Started) (H : Type) (enc : TypeId × Value → H) :
    ReturnsInHanded {} Tryd.checked os 3 .any (fun w args => (Rows.fnParseOctalMatchesPadDigitsPadModelSpec.pre enc Tryd.prog Tryd.f3 Rows.fnParseOctalMatchesPadDigitsPadModelRow.domain false w args ∧ laidMetH Tryd.prog Rows.fnParseOctalMatchesPadDigitsPadModelRow.laid w) ∧ sizedMet enc Tryd.prog Tryd.f3 (OpenSpec.ofChange Rows.fnParseOctalMatchesPadDigitsPadModelSpec) false w args)
      (Rows.fnParseOctalMatchesPadDigitsPadModelSpec.post enc Tryd.prog Tryd.f3 false true false false) := by
  refine returnsInHanded_of_change_and (C := Tryd.checked) (X := fun w _ => laidMetH Tryd.prog Rows.fnParseOctalMatchesPadDigitsPadModelRow.laid w) (fun _ _ _ hh h => h.of_heap hh) fnParseOctalMatchesPadDigitsPadModel_own started (by kernel_rfl) Tryd.func3
    (ChangeSpec.witness_shaped (enc := enc) (C := Tryd.checked) (os := os) (X := fun w _ => laidMetH Tryd.prog Rows.fnParseOctalMatchesPadDigitsPadModelRow.laid w) false (World.laidAll Tryd.prog os Rows.fnParseOctalMatchesPadDigitsPadModelRow.laid) #[.slice none 0 0] 8 (World.laidAll_os _ _ _)
      (World.shaped_of_ZipB (by kernel_rfl) (by kernel_rfl)) (by kernel_rfl) (by kernel_rfl) (by kernel_rfl)
      (by rw [MakeChecks.laidMetH_plain _ _ _ (by kernel_rfl)]; exact laidMet_laidAll _ (by kernel_rfl) (by kernel_rfl))) ?_
  intro W base args ds gs before hval0 hW _ _ _ _
  have hval : ∀ (j : Nat) t v, Tryd.f3.params[j]? = some t → args[j]? = some v → Value.okWide Tryd.prog W .any base t v := hval0
  have hW' := hW
  obtain ⟨p, q, hA0, hV, rfl, _, _⟩ := hW
  have hA : DataW.TrodAll enc Tryd.prog W 0 (fun _ => true) true Tryd.f3.params.toList args.toList ds p := hA0
  rw [Tryd.params3] at hA hval
  obtain ⟨v0, d0, rfl, rfl, h0⟩ := trodAll_one hA
  obtain ⟨rfl, rfl⟩ := trodVars_none hV
  obtain ⟨a0, len0, cap0, rfl⟩ := okWide_slice Tryd.underlying22 (hval 0 22 v0 rfl rfl)
  clear hA0 hval0
  simp only [List.append_nil] at hW'
  have hlt : ∀ x ∈ p, x.block < W.heap.size := fun x hx => by simpa using hW'.lt x hx
  obtain ⟨xs, hx, hc0, hB0, e0, hr0, _⟩ := opened_bytes Tryd.underlying22 Tryd.underlying5 cells5 h0
  refine (law_walk a0 len0 cap0 (Lib.bytesOf xs) W (by rw [Lib.bytesOf_length, hx]) hc0 (cap_le_max Tryd.underlying22 Tryd.underlying5 cells5 h0) (hB0.at8 hx hr0)).mono fun e W' ⟨he, hnx⟩ => ?_
  subst he
  have harg := Below.trod laidOut (by kernel_rfl) (of_decide_eq_true (by kernel_rfl)) h0 hnx hlt
  exact ⟨_, rfl, _, _, _, [], p, [], hW', trodAll_mk1 (shut_bool Tryd.underlying4 true), trodAll_mk1 harg, rfl, hnx.frame _, fun h => by cases h⟩

theorem fnParseOctalMatchesPadDigitsPadModel_holds : Rows.FnParseOctalMatchesPadDigitsPadModelSaid :=
  OpenClaim.holds_of_wide 3 Tryd.f3 rfl rfl rfl rfl rfl rfl rfl ⟨rfl, rfl, rfl, rfl, rfl⟩ rfl rfl rfl rfl rfl (by kernel_rfl) Tryd.func3 (by kernel_rfl)
    (of_decide_eq_true (by kernel_rfl)) (by unfold Func.isWrapper; first | (rw [if_pos (by decide +kernel)]; kernel_rfl) | (rw [if_neg (by decide +kernel)]; exact ⟨rfl, rfl⟩))
    (fun os started H enc _ => fnParseOctalMatchesPadDigitsPadModel_lifted os started H enc)

theorem fnParseOctalMatchesPadDigitsPadModel_card : Rows.FnParseOctalMatchesPadDigitsPadModelCardSaid :=
  Claim7.holds_tied_plain_at .later [] [.data, .pinned] true (true, "26a63bcb64968a4c508fba7113473ec93eafe87ad67ea6dd8b4130c44cb8c57c") false
    fnParseOctalMatchesPadDigitsPadModel_holds (fun _ h => by cases h) (by kernel_rfl) (fun _ h => by cases h) fnParseOctalMatchesPadDigitsPadModel_row_tie rfl ⟨rfl, rfl⟩ (by kernel_rfl) rfl
    (fun f fn hf hfn => by
      obtain rfl : f = 3 := Option.some.inj ((show Tryd.prog.funcNamed Rows.fnParseOctalMatchesPadDigitsPadModelRow.func = some 3 by kernel_rfl).symm.trans hf) |>.symm
      obtain rfl : fn = Tryd.f3 := (Option.some.inj (Tryd.func3.symm.trans hfn)).symm
      exact ⟨by kernel_rfl, fun j t ht => by
        rw [Tryd.params3] at ht
        have hm : t ∈ [22] := by
          have := Array.mem_of_getElem? ht
          simp at this
          simp
          exact this
        have hall : ([22].all fun u => !Tryd.prog.wantsStandIn u) = true := by kernel_rfl
        exact (show Tryd.prog.wantsStandIn t = false by simpa using List.all_eq_true.1 hall t hm)⟩)
    (by kernel_rfl)
end Go.Proofs.Qxb6601310aDoor
