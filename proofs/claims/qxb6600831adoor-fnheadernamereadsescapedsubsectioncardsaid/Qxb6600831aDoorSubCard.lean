/-
  FnHeaderNameReadsEscapedSubsection: the walk lifted to the row, and the tied card.
-/
import Derived.Test.Qxb6600831aDoorTie
import Derived.Test.Qxb6600831aDoorCards
import Derived.Test.Qxb6600831aDoorT9
import Derived.WalkKit
import Derived.ProofKit
import Derived.LaidMore
import Derived.Lay
import Derived.SevenTiedAt
import Derived.Stop.Joined
namespace Go.Proofs.Qxb6600831aDoor
open Go.ChangeShapes Go.WideShapes Go.ChangeAt Go.RowKit
open Go.ChangeMaps (open_string shut_string)

theorem fnHeaderNameReadsEscapedSubsection_own : ownKnob Tryd.prog.godebug = none := by kernel_rfl

set_option maxHeartbeats 800000 in
set_option maxRecDepth 100000 in
theorem fnHeaderNameReadsEscapedSubsection_lifted (os : Os) (started : os.Started) (H : Type) (enc : TypeId × Value → H) :
    ReturnsInHanded {} Tryd.checked os 4 .any (fun w args => (Rows.fnHeaderNameReadsEscapedSubsectionSpec.pre enc Tryd.prog Tryd.f4 Rows.fnHeaderNameReadsEscapedSubsectionRow.domain false w args ∧ laidMetH Tryd.prog Rows.fnHeaderNameReadsEscapedSubsectionRow.laid w) ∧ sizedMet enc Tryd.prog Tryd.f4 (OpenSpec.ofChange Rows.fnHeaderNameReadsEscapedSubsectionSpec) false w args)
      (Rows.fnHeaderNameReadsEscapedSubsectionSpec.post enc Tryd.prog Tryd.f4 false true false false) := by
  refine returnsInHanded_of_change_and (C := Tryd.checked) (X := fun w _ => laidMetH Tryd.prog Rows.fnHeaderNameReadsEscapedSubsectionRow.laid w) (fun _ _ _ hh h => h.of_heap hh) fnHeaderNameReadsEscapedSubsection_own started (by kernel_rfl) Tryd.func4
    (ChangeSpec.witness_shaped (enc := enc) (C := Tryd.checked) (os := os) (X := fun w _ => laidMetH Tryd.prog Rows.fnHeaderNameReadsEscapedSubsectionRow.laid w) false (World.laidAll Tryd.prog os Rows.fnHeaderNameReadsEscapedSubsectionRow.laid) #[.string ⟨#[]⟩, .string ⟨#[]⟩, .string ⟨#[]⟩] 8 (World.laidAll_os _ _ _)
      (World.shaped_of_ZipB (by kernel_rfl) (by kernel_rfl)) (by kernel_rfl) (by kernel_rfl) (by kernel_rfl)
      (by rw [MakeChecks.laidMetH_plain _ _ _ (by kernel_rfl)]; exact laidMet_laidAll _ (by kernel_rfl) (by kernel_rfl))) ?_
  intro W base args ds gs before hval0 hW _ _ _ _
  have hval : ∀ (j : Nat) t v, Tryd.f4.params[j]? = some t → args[j]? = some v → Value.okWide Tryd.prog W .any base t v := hval0
  have hW' := hW
  obtain ⟨p, q, hA0, hV, rfl, _, _⟩ := hW
  have hA : DataW.TrodAll enc Tryd.prog W 0 (fun _ => true) true Tryd.f4.params.toList args.toList ds p := hA0
  rw [Tryd.params4] at hA hval
  obtain ⟨v0, v1, v2, d0, d1, d2, p0, p1, p2, rfl, rfl, rfl, h0, h1, h2⟩ := trodAll_three hA
  obtain ⟨rfl, rfl⟩ := trodVars_none hV
  obtain ⟨x0, rfl, rfl, rfl, w0⟩ := open_string Tryd.underlying9 (hval 0 9 v0 rfl rfl) h0
  obtain ⟨x1, rfl, rfl, rfl, w1⟩ := open_string Tryd.underlying9 (hval 1 9 v1 rfl rfl) h1
  obtain ⟨x2, rfl, rfl, rfl, w2⟩ := open_string Tryd.underlying9 (hval 2 9 v2 rfl rfl) h2
  clear hA0 hval0
  simp only [List.append_nil] at hW'
  refine (sub_walk x0 x1 x2 W w0 w1 w2).mono fun e W' ⟨he, hnx⟩ => ?_
  subst he
  exact ⟨_, rfl, _, _, _, [], [], [], hW', trodAll_mk1 (shut_bool Tryd.underlying4 true), trodAll_mk3 (shut_string Tryd.underlying9 w0) (shut_string Tryd.underlying9 w1) (shut_string Tryd.underlying9 w2), rfl, hnx.frame _, fun h => by cases h⟩

theorem fnHeaderNameReadsEscapedSubsection_holds : Rows.FnHeaderNameReadsEscapedSubsectionSaid :=
  OpenClaim.holds_of_wide 4 Tryd.f4 rfl rfl rfl rfl rfl rfl rfl ⟨rfl, rfl, rfl, rfl, rfl⟩ rfl rfl rfl rfl rfl (by kernel_rfl) Tryd.func4 (by kernel_rfl)
    (of_decide_eq_true (by kernel_rfl)) (by unfold Func.isWrapper; first | (rw [if_pos (by decide +kernel)]; kernel_rfl) | (rw [if_neg (by decide +kernel)]; exact ⟨rfl, rfl⟩))
    (fun os started H enc _ => fnHeaderNameReadsEscapedSubsection_lifted os started H enc)

theorem fnHeaderNameReadsEscapedSubsection_card : Rows.FnHeaderNameReadsEscapedSubsectionCardSaid :=
  Claim7.holds_tied_plain_at .later [] [.data, .pinned] true (true, "94a86eae0c728c50670cab4894d92c9143ab1620c6f063a9d3c41f2333c809e6") false
    fnHeaderNameReadsEscapedSubsection_holds (fun _ h => by cases h) (by kernel_rfl) (fun _ h => by cases h) fnHeaderNameReadsEscapedSubsection_row_tie rfl ⟨rfl, rfl⟩ (by kernel_rfl) rfl
    (fun f fn hf hfn => by
      obtain rfl : f = 4 := Option.some.inj ((show Tryd.prog.funcNamed Rows.fnHeaderNameReadsEscapedSubsectionRow.func = some 4 by kernel_rfl).symm.trans hf) |>.symm
      obtain rfl : fn = Tryd.f4 := (Option.some.inj (Tryd.func4.symm.trans hfn)).symm
      exact ⟨by kernel_rfl, fun j t ht => by
        rw [Tryd.params4] at ht
        have hm : t ∈ [9] := by
          have := Array.mem_of_getElem? ht
          simp at this
          simp
          exact this
        have hall : ([9].all fun u => !Tryd.prog.wantsStandIn u) = true := by kernel_rfl
        exact (show Tryd.prog.wantsStandIn t = false by simpa using List.all_eq_true.1 hall t hm)⟩)
    (by kernel_rfl)
end Go.Proofs.Qxb6600831aDoor
