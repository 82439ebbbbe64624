/-
  A slice of bytes that the call itself makes: 'Own w0 v l w': since w0 nothing old has turned, and v owns the bytes l. 'make', 'append' of one byte, 'string(v)'.
-/
import Derived.Test.Qxb6600831aDoorProg
import Derived.WalkKit
import Derived.WalkSpells
import Derived.Lib.Strings
import Derived.Lib.SmallJoins
import Derived.Lib.FrozenHead
import Derived.Lib.TrimByte
namespace Go.Proofs.Qxb6600831aDoor
open Go.RowKit

def Own (w0 : World) (v : Value) (l : List UInt8) (wr : World) : Prop :=
  wr.ownsRow w0.heap.size 5 1 v l.length (Lib.byteCells l) ∧ Below w0.heap.size w0 wr

theorem info5 : (Tryd.prog.info? 5).map (fun i => (i.zero, i.size, i.bytes)) = some (some (.int .u8 0), 1, 1) := by kernel_rfl

theorem own_make {ops : Array Oper} {rest : List Oper} {o : Oper} {a : Act} {Q : Exit → Act → World → Prop} {wr : World}
    (hg : o.guard = none) (l c : Operand) (hop : o.op = Op.makeSlice 29 l c) (w0 : World) (C : Int) (n : Nat)
    (hb : Below w0.heap.size w0 wr) (hl : a.eval l = .int .i64 0) (hc : a.eval c = .int .i64 C) (hC : C = (n : Int)) (hn : n ≤ 281474976710656)
    (hK : ∀ v w', Own w0 v [] w' → wpList Tryd.prog ops Q rest (a.put o.dst v) w') :
    wpList Tryd.prog ops Q (o :: rest) a wr := by
  obtain ⟨i0, hi, hz0, hz1, hz2⟩ := info_parts info5
  refine wpList_make_own wr hg l c 29 hop w0.heap.size 5 i0 (.int .u8 0) 1 Tryd.underlying29 hi hz0 hz1 .i64 .i64 C n hl hc hC (by rw [hz2]; omega) (by unfold maxLen; omega) hb.size ?_
  intro w' h1 h2
  exact hK _ _ ⟨h1, hb.grown h2 hb.size (fun k hk => by cases hk)⟩

theorem own_push {ops : Array Oper} {rest : List Oper} {o : Oper} {a : Act} {Q : Exit → Act → World → Prop} {wr : World} {w0 : World} {v : Value} {l : List UInt8} {C : Int}
    (hgd : o.guard = none) (s x : Operand) (ho : o.op = .call { callee := .builtin .append, args := #[s, x], argTypes := #[29, 29] }) (c : UInt8) (hC : C = (c.toNat : Int))
    (hO : Own w0 v l wr) (hs : a.eval s = v) (hx : a.eval x = .slice (some ⟨wr.heap.size, 0, none⟩) 1 1) (hlen : l.length ≤ 281474976)
    (hK : ∀ v' w', Own w0 v' (l ++ [c]) w' → wpList Tryd.prog ops Q rest (a.put o.dst v') w') :
    wpList Tryd.prog ops Q (o :: rest) a (wr.alloc (.cells #[.int .u8 C] 5)) := by
  obtain ⟨i0, hi, hz0, hz1, hz2⟩ := info_parts info5
  obtain ⟨hown, hb⟩ := hO
  refine wpList_append_own _ hgd s x 29 ho w0.heap.size 5 i0 (.int .u8 0) 1 1 Tryd.underlying29 hi hz0 hz1 hz2 rfl (by decide) v l.length (Lib.byteCells l) hs (hown.alloc _) ⟨wr.heap.size, 0, none⟩ 1 1 [.int .u8 C] hx rfl ?_ ?_ ?_ ?_ ?_ ?_
  · intro j u hj
    match j, hj with
    | 0, hj => simp at hj; subst hj; simp [Addr.add]
  · intro u hu; simp at hu; subst hu; rfl
  · unfold maxLen; omega
  · omega
  · have := hb.size; simp; omega
  · intro v' w' h1 h2 _
    refine hK v' w' ⟨?_, (hb.alloc hb.size _).grown h2 (by have := hb.size; simp; omega) (fun k hk => (hown.lt k hk).1)⟩
    subst hC
    rw [List.length_append, List.length_singleton, Lib.byteCells_append]
    exact h1

/-- append(v, s...) of a string -/
theorem own_pushS {ops : Array Oper} {rest : List Oper} {o : Oper} {a : Act} {Q : Exit → Act → World → Prop} {wr : World} {w0 : World} {v : Value} {l : List UInt8}
    (hgd : o.guard = none) (sl x : Operand) (ho : o.op = .call { callee := .builtin .append, args := #[sl, x], argTypes := #[29, 9] }) (t : List UInt8)
    (hO : Own w0 v l wr) (hs : a.eval sl = v) (hx : a.eval x = .string ⟨t.toArray⟩) (hlen : l.length + t.length ≤ 281474976)
    (hK : ∀ v' w', Own w0 v' (l ++ t) w' → wpList Tryd.prog ops Q rest (a.put o.dst v') w') :
    wpList Tryd.prog ops Q (o :: rest) a wr := by
  obtain ⟨i0, hi, hz0, hz1, hz2⟩ := info_parts info5
  obtain ⟨hown, hb⟩ := hO
  have hsz : (⟨t.toArray⟩ : ByteArray).size = t.length := Lib.size_mk t
  refine Lib.wpList_append_own_string wr hgd sl x 29 9 ho w0.heap.size 5 i0 Tryd.underlying29 Tryd.underlying9 hi hz0 hz1 hz2 v l.length (Lib.byteCells l) hs hown ⟨t.toArray⟩ hx (by rw [hsz]; unfold maxLen; omega) (by rw [hsz]; omega) hb.size ?_
  intro v' w' h1 h2 _
  refine hK v' w' ⟨?_, hb.grown h2 hb.size (fun k hk => (hown.lt k hk).1)⟩
  rw [List.length_append, Lib.byteCells_append]
  rw [hsz, Lib.strCells_eq] at h1
  exact h1

/-- 'string(v)': the world stands -/
theorem own_string {wr w0 : World} {v : Value} {l : List UInt8} (hO : Own w0 v l wr) (hne : l ≠ []) :
    (convert 29 9 v).run Tryd.prog wr = .ok (.string ⟨l.toArray⟩) wr := by
  obtain ⟨hown, _⟩ := hO
  obtain ⟨hl, h⟩ := hown
  rcases h with ⟨_, h0⟩ | ⟨g, cap, cur, rfl, hg, hh, h1, h2, h3, h4⟩
  · exact absurd (List.length_eq_zero_iff.1 h0) hne
  · refine run_convert_bytes_back wr 29 9 5 ⟨g, 0, none⟩ cap l Tryd.underlying29 Tryd.underlying5 Tryd.underlying9 ?_
    intro j hj
    rw [show (⟨g, 0, none⟩ : Addr).add j = ⟨g, j, none⟩ from (by simp [Addr.add]; exact fun h => h.symm), Lib.cell_of_heap hh]
    rw [Nat.mul_one] at h4
    have h5 : cur.toList[j]? = (Lib.byteCells l)[j]? := by
      rw [← h4, List.getElem?_take_of_lt hj]
    rw [← Array.getElem?_toList, h5]
    simp [Lib.byteCells, hj]
end Go.Proofs.Qxb6600831aDoor
