/-
  FnHeaderNameReadsEscapedSubsection: the law's walk.
-/
import Derived.Test.Qxb6600831aDoorT6
namespace Go.Proofs.Qxb6600831aDoor
open Go.RowKit

theorem opt_built1 : Tryd.prog.built 25 [(9, .bool true)] = some (optC true false) := by kernel_rfl
theorem wpList_opt_build1 {ops : Array Oper} {rest : List Oper} {o : Oper} {a : Act} {w : World} {Q : Exit → Act → World → Prop} (hg : o.guard = none) (x : Operand) (ho : o.op = .build 25 #[(9, x)])
    (hx : a.eval x = .bool true)
    (h : wpList Tryd.prog ops Q rest (a.put o.dst (.agg (optC true false))) w) : wpList Tryd.prog ops Q (o :: rest) a w := by
  have e : ((#[(9, x)] : Array (Nat × Operand)).map fun (i, x) => (i, a.eval x)).toList = [(9, .bool true)] := by simp [hx]
  refine wpList_build hg 25 _ ho (by rw [e, opt_built1]; rfl) ?_
  rw [e, opt_built1]
  exact h

theorem own_alloc {w0 w : World} {v : Value} {l : List UInt8} (h : Own w0 v l w) (o : Obj) : Own w0 v l (w.alloc o) := ⟨h.1.alloc o, h.2.alloc h.2.size o⟩

theorem sub_plain (A B C : List UInt8) (h1 : Lib.indexByte A 34 = -1) (h2 : ∀ r c, A = r ++ [c] → Hn.blank c = false) (h3 : ∀ j, j < B.length → Hn.blank (B.getD j 0) = true) :
    ans true false (A ++ B ++ (34 :: (Hn.esc C ++ [34]))) = A ++ ((if B = [] then [] else [32]) ++ (34 :: (C ++ [34]))) := by
  have h3' : ∀ c ∈ B, Hn.blank c = true := by
    intro c hc
    obtain ⟨j, hj, rfl⟩ := List.mem_iff_getElem.1 hc
    have := h3 j hj
    rwa [List.getD_eq_getElem?_getD, List.getElem?_eq_getElem hj] at this
  have hno : ∀ c ∈ A ++ B, c ≠ 34 := by
    intro c hc
    rcases List.mem_append.1 hc with h | h
    · exact index_none A 34 h1 c h
    · rintro rfl
      have := h3' _ h
      revert this
      decide
  have hix : Lib.indexByte (A ++ B ++ (34 :: (Hn.esc C ++ [34]))) 34 = ((A ++ B).length : Int) := by
    rw [index_skip 34 (A ++ B) _ hno]
    simp [Lib.indexByte]
  unfold ans place
  rw [hix]
  show (if (((A ++ B).length : Nat) : Int) < 0 then _ else Hn.hdr _ (((A ++ B).length : Nat) : Int).toNat) = _
  rw [if_neg (by omega), Int.toNat_natCast]
  unfold Hn.hdr
  rw [List.take_left, List.drop_left, Hn.trim_of A B h2 h3']
  have hu : Hn.unesc (34 :: (Hn.esc C ++ [34])) = 34 :: (C ++ [34]) := by
    have e := Hn.unesc_esc C [34]
    have e1 : Hn.unesc [34] = [34] := by decide
    cases hx : Hn.esc C ++ [34] with
    | nil => simp at hx
    | cons x r =>
      rw [Hn.unesc, if_neg (by decide), ← hx, e, e1]
  rw [hu]
  by_cases hB : B = []
  · subst hB; simp
  · rw [if_neg hB, if_neg (fun h => hB (by simpa using h))]
end Go.Proofs.Qxb6600831aDoor
