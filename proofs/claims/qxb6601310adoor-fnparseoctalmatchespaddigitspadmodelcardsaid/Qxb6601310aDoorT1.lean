/-
  copyBytes: the same bytes in a row of the call's own.
-/
import Derived.Test.Qxb6601310aDoorProg
import Derived.WalkKit
import Derived.WalkSpells
import Derived.Shelf.Bytes.SlTrim
import Derived.Deep.OwnRows
import Derived.Lib.SliceRun
import Derived.Deep.LoopGhost
import Derived.Deep.QuietTactic
import Derived.Handy
import Derived.Deep.DeepCutAuto
import Derived.Deep.CutBlock
import Derived.Lib.SmallJoins
namespace Go.Proofs.Qxb6601310aDoor
open Go.RowKit

theorem hide {p : Prop} (h : p) : Hid p := h
theorem ret_bool {a b : Bool} (h : a = b) : Ending.returned (.bool a) = .returned (.bool b) := by rw [h]
theorem info5 : (Tryd.prog.info? 5).map (fun i => (i.zero, i.size, i.bytes)) = some (some (.int .u8 0), 1, 1) := by kernel_rfl
theorem info_parts {i : Option TypeInfo} {z : Value} {s b : Nat} (h : i.map (fun i => (i.zero, i.size, i.bytes)) = some (some z, s, b)) : ∃ j, i = some j ∧ j.zero = some z ∧ j.size = s ∧ j.bytes = b := by
  cases i with
  | none => simp at h
  | some j => simp at h; exact ⟨j, rfl, h.1, h.2.1, h.2.2⟩

def nb (l : List UInt8) (k : Nat) : Int := ((l.getD k 0).toNat : Int)

/-- the copy, when i bytes are in -/
def part (bs : List UInt8) (i : Nat) : Nat → Value := fun j => if j < i then .int .u8 (nb bs j) else .int .u8 0

theorem zzBytes5 (p : Option Addr) (n c : Nat) (W : World) (hn : n ≤ 9223372036854775807) :
    Calls Tryd.prog 5 #[.slice p n c] W fun e w' => e = .returned (.bool (decide (n ≤ 1048576))) ∧ w' = W := by
  by_cases h : n ≤ 1048576
  · rw [decide_eq_true h]
    go_enter Tryd.func5, Tryd.ntmps5
    go_wp2
    go_ret
    exact ⟨rfl, rfl⟩
  · rw [decide_eq_false h]
    go_enter Tryd.func5, Tryd.ntmps5
    go_wp2
    all_goals
      go_ret
      exact ⟨rfl, rfl⟩

theorem run_nil (p : Option Addr) (n c : Nat) (w : World) : (binOp .eql 22 (.slice p n c) (.slice none 0 0)).run Tryd.prog w = .ok (.bool p.isNone) w := by
  exact Lib.run_eql_slice_nil w 22 5 p n c 0 0 Tryd.underlying22

set_option maxRecDepth 100000 in
set_option maxHeartbeats 2000000 in
theorem copy6 (p : Option Addr) (n c : Nat) (bs : List UInt8) (W : World) (hb : bs.length = n) (hn : n ≤ 1048576) (h1 : Lib.BytesAt W p n bs) :
    Calls Tryd.prog 6 #[.slice p n c] W fun e w' => (∃ p', e = .returned (.slice p' n n) ∧ Lib.BytesAt w' p' n bs) ∧ Below W.heap.size W w' := by
  obtain ⟨i0, hi, hz0, hz1, hz2⟩ := info_parts info5
  have hnil := fun (w : World) => run_nil p n c w
  cases p with
  | none =>
    obtain rfl : n = 0 := by
      rcases Nat.eq_zero_or_pos n with h | h
      · exact h
      · obtain ⟨_, _, h, _⟩ := h1 h; cases h
    go_enter Tryd.func6, Tryd.ntmps6
    go_wp2
    go_ret
    exact ⟨⟨none, rfl, fun h => by omega⟩, Below.refl _ _⟩
  | some a =>
    have hcell : ∀ i, i < n → a.block < W.heap.size ∧ W.cell? (a.add i) = some (.int .u8 (nb bs i)) := by
      intro i hin
      obtain ⟨b, o, hab, hc⟩ := h1 (by omega)
      cases hab
      have := hc i hin
      refine ⟨World.block_lt_of_cell? W ⟨b, o + i, none⟩ this, ?_⟩
      rw [show (⟨b, o, none⟩ : Addr).add i = ⟨b, o + i, none⟩ from by unfold Addr.add; split <;> simp_all]
      exact this
    have HC := hide hcell
    clear hcell h1
    go_enter Tryd.func6, Tryd.ntmps6
    go_wp2_with (refine wpList_make_row _ rfl _ _ 22 rfl 5 i0 (.int .u8 0) Tryd.underlying22 hi hz0 hz1 rfl .i64 .i64 n rfl rfl (by rw [hz2]; omega) (by omega) ?_)
    have hst := World.rowIs_made W (.int .u8 0) n 5
    have hbl : Below W.heap.size W (W.alloc (.cells (madeCells #[.int .u8 0] n) 5)) := Joins.below_alloc1 _ _
    generalize W.alloc (.cells (madeCells #[.int .u8 0] n) 5) = w1 at hst hbl ⊢
    go_loopw [4] (fun s4 wr => ∃ i : Nat, s4 = .int .i64 i ∧ i ≤ n ∧ wr.rowIs W.heap.size 5 n (part bs i) ∧ Below W.heap.size W wr) (fun s4 _ => n - (intOf s4).toNat)
    case atStart => exact ⟨0, rfl, by omega, hst.congr (fun j _ => by simp [part]), hbl⟩
    case round =>
      obtain ⟨i, rfl, hin, hro, hbe⟩ := hrel
      clear hst hbl
      by_cases hlt : i < n
      · have hrd : wr.cell? (a.add i) = some (.int .u8 (nb bs i)) := by
          have h := HC.out i hlt
          rw [hbe.cell (p := a.add i) (by unfold Addr.add; split <;> exact h.1)]
          exact h.2
        have hme := hro.cell hlt
        have hfr := hro.frozen i
        go_wp2
        go_roundw
        case rel =>
          refine ⟨i + 1, by go_num, by omega, (hro.set i (.int .u8 (nb bs i))).congr (fun j hj => ?_), hbe.setCell (Nat.le_refl _) _⟩
          simp only [part]
          by_cases e : j = i
          · subst e; simp
          · rw [if_neg e]
            by_cases hji : j < i
            · rw [if_pos hji, if_pos (by omega)]
            · rw [if_neg hji, if_neg (by omega)]
        case measure => simp [intOf]; omega
      · obtain rfl : i = n := by omega
        go_wp2
        go_ret
        refine ⟨⟨_, rfl, fun _ => ⟨W.heap.size, 0, rfl, fun j hj => ?_⟩⟩, hbe⟩
        have := hro.cell hj
        simp only [part, if_pos hj] at this
        rw [Nat.zero_add]
        exact this
end Go.Proofs.Qxb6601310aDoor
