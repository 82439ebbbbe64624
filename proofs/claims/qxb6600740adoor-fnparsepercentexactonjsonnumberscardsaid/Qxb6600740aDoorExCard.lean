/-
  FnParsePercentExactOnJSONNumbers: the walk lifted to the row, and the tied card.
-/
import Derived.Test.Qxb6600740aDoorTie
import Derived.Test.Qxb6600740aDoorCards
import Derived.Test.Qxb6600740aDoorT6
import Derived.WalkKit
import Derived.ProofKit
import Derived.LaidMore
import Derived.Lay
import Derived.SevenTiedAt
import Derived.Stop.Joined
namespace Go.Proofs.Qxb6600740aDoor
open Go.ChangeShapes Go.WideShapes Go.ChangeAt Go.RowKit
open Go.ChangeMaps (open_string shut_string)

theorem fnParsePercentExactOnJSONNumbers_own : ownKnob Tryd.prog.godebug = none := by kernel_rfl

set_option maxHeartbeats 800000 in
set_option maxRecDepth 100000 in
theorem fnParsePercentExactOnJSONNumbers_lifted (os : Os) (started : os.Started) (H : Type) (enc : TypeId × Value → H) :
    ReturnsInHanded {} Tryd.checked os 3 .any (fun w args => (Rows.fnParsePercentExactOnJSONNumbersSpec.pre enc Tryd.prog Tryd.f3 Rows.fnParsePercentExactOnJSONNumbersRow.domain false w args ∧ laidMetH Tryd.prog Rows.fnParsePercentExactOnJSONNumbersRow.laid w) ∧ sizedMet enc Tryd.prog Tryd.f3 (OpenSpec.ofChange Rows.fnParsePercentExactOnJSONNumbersSpec) false w args)
      (Rows.fnParsePercentExactOnJSONNumbersSpec.post enc Tryd.prog Tryd.f3 false true false false) := by
  refine returnsInHanded_of_change_and (C := Tryd.checked) (X := fun w _ => laidMetH Tryd.prog Rows.fnParsePercentExactOnJSONNumbersRow.laid w) (fun _ _ _ hh h => h.of_heap hh) fnParsePercentExactOnJSONNumbers_own started (by kernel_rfl) Tryd.func3
    (ChangeSpec.witness_shaped (enc := enc) (C := Tryd.checked) (os := os) (X := fun w _ => laidMetH Tryd.prog Rows.fnParsePercentExactOnJSONNumbersRow.laid w) false (World.laidAll Tryd.prog os Rows.fnParsePercentExactOnJSONNumbersRow.laid) #[.string ⟨#[]⟩] 8 (World.laidAll_os _ _ _)
      (World.shaped_of_ZipB (by kernel_rfl) (by kernel_rfl)) (by kernel_rfl) (by kernel_rfl) (by kernel_rfl)
      (by rw [MakeChecks.laidMetH_plain _ _ _ (by kernel_rfl)]; exact laidMet_laidAll _ (by kernel_rfl) (by kernel_rfl))) ?_
  intro W base args ds gs before hval0 hW _ _ hLaid _
  have hval : ∀ (j : Nat) t v, Tryd.f3.params[j]? = some t → args[j]? = some v → Value.okWide Tryd.prog W .any base t v := hval0
  have hW' := hW
  obtain ⟨p, q, hA0, hV, rfl, _, _⟩ := hW
  have hA : DataW.TrodAll enc Tryd.prog W 0 (fun _ => true) true Tryd.f3.params.toList args.toList ds p := hA0
  rw [Tryd.params3] at hA hval
  obtain ⟨v0, d0, rfl, rfl, h0⟩ := trodAll_one hA
  obtain ⟨rfl, rfl⟩ := trodVars_none hV
  obtain ⟨x0, rfl, rfl, rfl, w0⟩ := open_string Tryd.underlying9 (hval 0 9 v0 rfl rfl) h0
  clear hA0 hval0
  simp only [List.append_nil] at hW'
  refine (exact_walk (show Laid W from hLaid) x0 w0).mono fun e W' ⟨he, hnx⟩ => ?_
  subst he
  exact ⟨_, rfl, _, _, _, [], [], [], hW', trodAll_mk1 (shut_bool Tryd.underlying4 true), trodAll_mk1 (shut_string Tryd.underlying9 w0), rfl, hnx.frame _, fun h => by cases h⟩

theorem fnParsePercentExactOnJSONNumbers_holds : Rows.FnParsePercentExactOnJSONNumbersSaid :=
  OpenClaim.holds_of_wide 3 Tryd.f3 rfl rfl rfl rfl rfl rfl rfl ⟨rfl, rfl, rfl, rfl, rfl⟩ rfl rfl rfl rfl rfl (by kernel_rfl) Tryd.func3 (by kernel_rfl)
    (of_decide_eq_true (by kernel_rfl)) (by unfold Func.isWrapper; first | (rw [if_pos (by decide +kernel)]; kernel_rfl) | (rw [if_neg (by decide +kernel)]; exact ⟨rfl, rfl⟩))
    (fun os started H enc _ => fnParsePercentExactOnJSONNumbers_lifted os started H enc)

theorem fnParsePercentExactOnJSONNumbers_card : Rows.FnParsePercentExactOnJSONNumbersCardSaid :=
  Claim7.holds_tied_plain_at .later [] [.data, .data, .data, .data, .sentinel, .sentinel, .pinned] true (true, "5597ff972c0149e881e6f6ea0d8fc080ce069d98dc1f0a2aa5c15d4daf47a69c") true
    fnParsePercentExactOnJSONNumbers_holds (fun _ h => by cases h) (by kernel_rfl) (fun _ h => by cases h) fnParsePercentExactOnJSONNumbers_row_tie rfl ⟨rfl, rfl⟩ (by kernel_rfl) rfl
    (fun f fn hf hfn => by
      obtain rfl : f = 3 := Option.some.inj ((show Tryd.prog.funcNamed Rows.fnParsePercentExactOnJSONNumbersRow.func = some 3 by kernel_rfl).symm.trans hf) |>.symm
      obtain rfl : fn = Tryd.f3 := (Option.some.inj (Tryd.func3.symm.trans hfn)).symm
      exact ⟨by kernel_rfl, fun j t ht => by
        rw [Tryd.params3] at ht
        have hm : t ∈ [9] := by
          have := Array.mem_of_getElem? ht
          simp at this
          simp
          omega
        have hall : ([9].all fun u => !Tryd.prog.wantsStandIn u) = true := by kernel_rfl
        exact (show Tryd.prog.wantsStandIn t = false by simpa using List.all_eq_true.1 hall t hm)⟩)
    (by kernel_rfl)
end Go.Proofs.Qxb6600740aDoor
