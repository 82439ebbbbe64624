/-
  The walks under headerName: the options read, the quote's place.
-/
import Derived.Test.Qxb6600831aDoorShelf
import Derived.Test.Qxb6600831aDoorPlain
import Derived.WalkKit
import Derived.WalkSpells
import Derived.Lib.Strings
import Derived.Lib.SmallJoins
import Derived.Lib.FrozenHead
import Derived.Lib.TrimByte
import Derived.Deep.QuietTactic
import Derived.BigQuiet
import Derived.BigCall
import Derived.Handy
import Derived.Deep.DeepCutAuto
import Derived.Deep.CutBlock
namespace Go.Proofs.Qxb6600831aDoor
open Go.RowKit

theorem hide {p : Prop} (h : p) : Hid p := h
theorem ret_bool {a b : Bool} (h : a = b) : Ending.returned (.bool a) = .returned (.bool b) := by rw [h]
theorem ret_int {k : IntKind} {a b : Int} (h : a = b) : Ending.returned (.int k a) = .returned (.int k b) := by rw [h]
theorem ret_str {a b : List UInt8} (h : a = b) : Ending.returned (.string ⟨a.toArray⟩) = .returned (.string ⟨b.toArray⟩) := by rw [h]

theorem get_nb (b : ByteArray) (L : List UInt8) (hL : b.data.toList = L) : ∀ (n : Nat) (h : n < b.size), ((b[n]'h).toNat : Int) = Hn.nb L n := fun n h => by
  subst hL
  unfold Hn.nb
  rw [List.getD_eq_getElem?_getD, List.getElem?_eq_getElem (by simpa using h)]
  rfl

/-- the options' cells -/
def optC (git raw : Bool) : Array Value := #[.bool false, .bool false, .bool false, .bool false, .bool false, .bool false, .bool false, .int .i64 0, .bool raw, .bool git, .bool false, .bool false, .bool false, .bool false, .bool false, .bool false, .string ⟨#[]⟩, .bool false, .bool false, .bool false, .bool false, .string ⟨#[]⟩, .bool false, .bool false, .int .i64 0]
theorem optC_size (git raw : Bool) : (optC git raw).size = 25 := rfl
theorem opt_cell9 (git raw : Bool) (w : World) : (w.alloc (.cells (optC git raw) 25)).cell? ⟨w.heap.size, 9, none⟩ = some (.bool git) := by
  rw [World.cell?_alloc_mark]; rfl
theorem opt_cell8 (git raw : Bool) (w : World) : (w.alloc (.cells (optC git raw) 25)).cell? ⟨w.heap.size, 8, none⟩ = some (.bool raw) := by
  rw [World.cell?_alloc_mark]; rfl
theorem info25 : (Tryd.prog.info? 25).map (·.size) = some 25 := by kernel_rfl
theorem opt_heap (git raw : Bool) (w : World) : (w.alloc (.cells (optC git raw) 25)).heap[w.heap.size]? = some (.cells (optC git raw) 25 (0, 0)) := heap_alloc_new _ _

set_option maxHeartbeats 400000 in
theorem git20 (git raw : Bool) (w : World) : Calls Tryd.prog 20 #[.agg (optC git raw)] w fun e w' => e = .returned (.bool (git && !raw)) ∧ Below w.heap.size w w' := by
  have c9 := opt_cell9 git raw w
  have c8 := opt_cell8 git raw w
  have hz := optC_size git raw
  generalize optC git raw = C at c9 c8 hz ⊢
  cases git
  all_goals
    go_enter Tryd.func20, Tryd.ntmps20
    go_wp2
    go_ret
    exact ⟨ret_bool (by cases raw <;> rfl), Joins.below_alloc1 _ _⟩

/-- the quote's place, or -1 -/
def place (git raw : Bool) (L : List UInt8) : Int := if git && !raw then Lib.indexByte L 34 else -1

set_option maxHeartbeats 400000 in
theorem sub13 (git raw : Bool) (s : ByteArray) (w : World) :
    Calls Tryd.prog 13 #[.pointer (some ⟨w.heap.size, 0, none⟩), .string s] (w.alloc (.cells (optC git raw) 25)) fun e w' => e = .returned (.int .i64 (place git raw s.data.toList)) ∧ Below w.heap.size w w' := by
  have K20 := hide (fun w => git20 git raw w)
  have K15 := hide (fun w => index15_34 s w)
  have hh := opt_heap git raw w
  have hz : (Tryd.prog.info? 25).map (·.size) = some (optC git raw).size := by rw [optC_size]; exact info25
  have HH := hide hh
  have HZ := hide hz
  unfold place
  generalize optC git raw = C at K20 HH HZ ⊢
  clear hh hz
  cases h : (git && !raw) with
  | false =>
    rw [h] at K20
    clear h
    go_enter Tryd.func13, Tryd.ntmps13
    go_wp2_with (refine wpList_load_row rfl 25 _ rfl w.heap.size rfl 25 C (0, 0) _ HH.out Tryd.underlying25 rfl HZ.out ?_)
    refine (K20.out _).mono ?_
    rintro e w1 ⟨rfl, hb1⟩
    go_wp2
    go_ret
    exact ⟨rfl, (Joins.below_alloc1 _ _).trans (hb1.mono (by simp))⟩
  | true =>
    rw [h] at K20
    clear h
    go_enter Tryd.func13, Tryd.ntmps13
    go_wp2_with (refine wpList_load_row rfl 25 _ rfl w.heap.size rfl 25 C (0, 0) _ HH.out Tryd.underlying25 rfl HZ.out ?_)
    refine (K20.out _).mono ?_
    rintro e w1 ⟨rfl, hb1⟩
    go_wp2_with fail
    refine (K15.out _).mono ?_
    rintro e w2 ⟨rfl, rfl⟩
    go_wp2
    go_ret
    exact ⟨rfl, (Joins.below_alloc1 _ _).trans (hb1.mono (by simp))⟩
end Go.Proofs.Qxb6600831aDoor
