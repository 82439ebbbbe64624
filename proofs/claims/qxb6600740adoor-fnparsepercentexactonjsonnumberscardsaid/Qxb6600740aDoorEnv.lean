/-
  What the row's listed variables give the walks: the table of powers of ten that strconv.Itoa reads; that strconv.ErrRange holds an interface value; and the contracts at those.
-/
import Derived.Test.Qxb6600740aDoorRows
import Derived.Test.Qxb6600740aDoorShelf
import Derived.WalkKit
import Derived.ProofKit
import Derived.LaidMore
import Derived.LaidLaws
import Derived.Stop.LaidErr
import Derived.Lib.LaidTab
import Derived.Lib.SmallJoins
namespace Go.Proofs.Qxb6600740aDoor
open Go.RowKit

/-- the row's premise -/
def Laid (W : World) : Prop := laidMetH Tryd.prog Rows.fnParsePercentRoundTripRow.laid W

theorem env_met {W : World} (h : Laid W) : laidMet Tryd.prog Rows.fnParsePercentRoundTripRow.laid W := by
  unfold Laid at h
  rw [MakeChecks.laidMetH_plain _ _ _ (by kernel_rfl)] at h
  exact h

theorem env_range {W : World} (h : Laid W) : ∃ tp p, W.var? Tryd.prog "strconv.ErrRange" = some #[.iface tp p] := by
  have h2 := laidMet.tail (laidMet.tail (laidMet.tail (laidMet.tail (env_met h))))
  obtain ⟨ps, ⟨g0, t0, cs0, f0, p0, q0, hg0, ht0, hv0, hd0, _, e0⟩, _, hrows⟩ := h2
  have e1 : t0 = 39 := Option.some.inj (ht0.symm.trans (by
    obtain rfl := Option.some.inj ((show Tryd.prog.globalNamed "strconv.ErrRange" = some 2 by kernel_rfl).symm.trans hg0)
    kernel_rfl))
  subst e1
  obtain ⟨f1, u, v, hcs, hn, h1⟩ := iface_of_trod Tryd.underlying39 hd0
  refine ⟨u, v, ?_⟩
  rw [Array.eq_one_of_toList hcs] at hv0
  exact hv0

theorem below_var {W w : World} {tp : TypeId} {p : Value} (h : W.var? Tryd.prog "strconv.ErrRange" = some #[.iface tp p]) (hb : Below W.heap.size W w) : w.var? Tryd.prog "strconv.ErrRange" = some #[.iface tp p] :=
  Joins.var_stays (g := 2) (by kernel_rfl) h hb (Nat.le_refl _)

theorem below_more (w : World) (q : Nat) (os : Array Obj) : Below w.heap.size w (Sort.grow (w.drewN q) os) :=
  ⟨rfl, rfl, rfl, (by show w.heap.size ≤ (w.heap ++ os).size; rw [Array.size_append]; omega), fun i hi => by
    show (w.heap ++ os)[i]? = _
    rw [Array.getElem?_append_left hi]⟩

/-- strconv.Itoa(10000) -/
theorem itoa23 {W w : World} (h : Laid W) (hb : Below W.heap.size W w) :
    Calls Tryd.prog 23 #[.int .i64 10000] w fun e w' => e = .returned (.string ⟨#[49, 48, 48, 48, 48]⟩) ∧ Below w.heap.size w w' := by
  have h2 := laidMet.tail (laidMet.tail (env_met h))
  have ht := Lib.tabIs_of_head (k := .u64) (zs := Lib.pow10Tab) (g := 5) (t := 105) (e := 78) (n := 20) (by kernel_rfl) (by kernel_rfl) Tryd.underlying105 Tryd.underlying78 (by kernel_rfl) (by kernel_rfl) h2
  refine (Any.strconv_Itoa Tryd.laysM171 10000 (by decide) (by decide) w (Joins.tab_stays (g := 5) (by kernel_rfl) ht hb (Nat.le_refl _))).mono ?_
  rintro e w' ⟨rfl, k, os, rfl⟩
  exact ⟨by rw [show Lib.itoa 10000 = [49, 48, 48, 48, 48] by kernel_rfl], below_more _ _ _⟩

end Go.Proofs.Qxb6600740aDoor
