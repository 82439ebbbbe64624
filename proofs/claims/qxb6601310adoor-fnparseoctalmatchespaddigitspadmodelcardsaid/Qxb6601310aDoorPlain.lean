/-
  Octal digits between pads: the plain laws.
-/
import Derived.WalkKit
import Derived.Laws.BitsLemmas
import Derived.Lib.SlTrimSet
namespace Go.Proofs.Oc
open Go.RowKit

theorem oct_or (V d : Nat) (hd : d < 8) : bits .or .i64 (wrap64 (wrap64 (V : Int) * 8)) (d : Int) = wrap64 ((V * 8 + d : Nat) : Int) := by
  show IntKind.i64.wrap ((BitVec.ofInt 64 (wrap64 (wrap64 (V : Int) * 8)) ||| BitVec.ofInt 64 (d : Int)).toNat : Int) = _
  rw [BitVec.toNat_or, BitVec.toNat_ofInt, BitVec.toNat_ofInt, IntKind.wrap_i64]
  have e1 : (wrap64 (wrap64 (V : Int) * 8) % ((2 ^ 64 : Nat) : Int)).toNat = 2 ^ 3 * (V % 2305843009213693952) := by
    show (wrap64 (wrap64 (V : Int) * 8) % 18446744073709551616).toNat = 8 * (V % 2305843009213693952)
    unfold wrap64; omega
  have e2 : ((d : Int) % ((2 ^ 64 : Nat) : Int)).toNat = d := by
    show ((d : Int) % 18446744073709551616).toNat = d
    omega
  rw [e1, e2, ← Nat.two_pow_add_eq_or_of_lt (show d < 2 ^ 3 from hd)]
  show ((((8 * (V % 2305843009213693952) + d : Nat) : Int) + 9223372036854775808) % 18446744073709551616 - 9223372036854775808) = _
  unfold wrap64
  omega

/-- the value of octal digits -/
def val (l : List UInt8) : Nat := l.foldl (fun a c => a * 8 + (c.toNat - 48)) 0
theorem val_snoc (l : List UInt8) (c : UInt8) : val (l ++ [c]) = val l * 8 + (c.toNat - 48) := by
  unfold val; rw [List.foldl_append]; rfl
theorem val_from (l : List UInt8) : ∀ a, l.foldl (fun a c => a * 8 + (c.toNat - 48)) a = a * 8 ^ l.length + val l := by
  induction l with
  | nil => intro a; simp [val]
  | cons c l ih =>
    intro a
    unfold val
    rw [List.foldl_cons, List.foldl_cons, ih, ih (0 * 8 + (c.toNat - 48)), List.length_cons, Nat.pow_succ, Nat.add_mul, Nat.mul_assoc, Nat.mul_comm 8, Nat.zero_mul, Nat.zero_add]
    omega
theorem val_cons (c : UInt8) (l : List UInt8) : val (c :: l) = (c.toNat - 48) * 8 ^ l.length + val l := by
  show (c :: l).foldl _ 0 = _
  rw [List.foldl_cons, val_from]
  simp

def oct (c : UInt8) : Bool := decide (48 ≤ c.toNat ∧ c.toNat ≤ 55)
def pad (c : UInt8) : Bool := c == 32 || c == 0
/-- what both answer -/
def ans (bs : List UInt8) : Int × Bool := if (Lib.trimS bs [32, 0]).all oct then (wrap64 (val (Lib.trimS bs [32, 0]) : Int), true) else (0, false)

theorem pad_contains (c : UInt8) : ([32, 0] : List UInt8).contains c = pad c := by
  simp only [pad, List.contains, List.elem]
  cases c == 32 <;> cases c == 0 <;> rfl

theorem mem_takeWhile (q : UInt8 → Bool) : ∀ (l : List UInt8) (c : UInt8), c ∈ l.takeWhile q → q c = true
  | [], c, h => by simp at h
  | a :: l, c, h => by
    rw [List.takeWhile_cons] at h
    by_cases ha : q a = true
    · rw [if_pos ha] at h
      rcases List.mem_cons.1 h with rfl | h
      · exact ha
      · exact mem_takeWhile q l c h
    · rw [if_neg ha] at h
      simp at h

/-- the bytes are pads, the trimmed ones, pads -/
theorem trim_parts (l : List UInt8) : ∃ A B, l = A ++ Lib.trimS l [32, 0] ++ B ∧ (∀ c ∈ A, pad c = true) ∧ (∀ c ∈ B, pad c = true) := by
  refine ⟨(Lib.trimRightS l [32, 0]).takeWhile (([32, 0] : List UInt8).contains ·), (l.reverse.takeWhile (([32, 0] : List UInt8).contains ·)).reverse, ?_, ?_, ?_⟩
  · unfold Lib.trimS Lib.trimLeftS
    rw [List.takeWhile_append_dropWhile]
    unfold Lib.trimRightS
    rw [← List.reverse_append, List.takeWhile_append_dropWhile, List.reverse_reverse]
  · intro c hc
    rw [← pad_contains]
    exact mem_takeWhile _ _ c hc
  · intro c hc
    rw [← pad_contains]
    exact mem_takeWhile _ _ c (List.mem_reverse.1 hc)

theorem getD_of {l : List UInt8} {j : Nat} {b : UInt8} (h : l[j]? = some b) : l.getD j 0 = b := by
  rw [List.getD_eq_getElem?_getD, h]; rfl

theorem oct_not_pad {c : UInt8} (h : oct c = true) : pad c = false := by
  unfold oct at h
  have h := of_decide_eq_true h
  unfold pad
  have h1 : ¬ c = 32 := fun e => by subst e; exact absurd h (by decide)
  have h2 : ¬ c = 0 := fun e => by subst e; exact absurd h (by decide)
  simp [h1, h2]

/-- pads, digits, pads -/
theorem trim_seg (l : List UInt8) (s e : Nat) (hse : s < e) (he : e ≤ l.length) (h1 : ∀ j, j < s → pad (l.getD j 0) = true) (h2 : ∀ j, s ≤ j → j < e → oct (l.getD j 0) = true) (h3 : ∀ j, e ≤ j → j < l.length → pad (l.getD j 0) = true) :
    Lib.trimS l [32, 0] = (l.drop s).take (e - s) := by
  unfold Lib.trimS
  rw [Lib.trimRightS_take l [32, 0] e he (fun j b hj hb => ?_) (fun b _ hb => ?_), Lib.trimLeftS_drop (l.take e) [32, 0] s (by rw [List.length_take]; omega) (fun j b hj hb => ?_) (fun b hb => ?_), List.drop_take]
  · rw [List.getElem?_take_of_lt (by omega)] at hb
    rw [pad_contains, ← getD_of hb]
    exact h1 j hj
  · rw [List.getElem?_take_of_lt (by omega)] at hb
    rw [pad_contains, ← getD_of hb]
    exact oct_not_pad (h2 s (Nat.le_refl _) hse)
  · rw [pad_contains, ← getD_of hb]
    exact h3 j hj (List.getElem?_eq_some_iff.1 hb).1
  · rw [pad_contains, ← getD_of hb]
    exact oct_not_pad (h2 (e - 1) (by omega) (by omega))

theorem trim_none (l : List UInt8) (h : ∀ j, j < l.length → pad (l.getD j 0) = true) : Lib.trimS l [32, 0] = [] := by
  unfold Lib.trimS
  rw [Lib.trimRightS_take l [32, 0] 0 (by omega) (fun j b _ hb => ?_) (fun b h0 _ => by omega)]
  · rfl
  · rw [pad_contains, ← getD_of hb]
    exact h j (List.getElem?_eq_some_iff.1 hb).1

/-- a byte that is no pad, and the place of the trimmed ones -/
theorem trim_place (l : List UInt8) : ∃ a, ∀ T, T = Lib.trimS l [32, 0] → (∀ j, j < l.length → pad (l.getD j 0) = false → a ≤ j ∧ j < a + T.length) ∧ (∀ j, a ≤ j → j < a + T.length → l.getD j 0 ∈ T) := by
  obtain ⟨A, B, hl, hA, hB⟩ := trim_parts l
  refine ⟨A.length, fun T hT => ?_⟩
  rw [← hT] at hl
  constructor
  · intro j hj hp
    have hj' : j < (A ++ T ++ B).length := by rw [← hl]; exact hj
    have hm : l.getD j 0 = (A ++ T ++ B)[j]'hj' := by
      rw [List.getD_eq_getElem?_getD]
      conv => lhs; rw [hl]
      rw [List.getElem?_eq_getElem hj']
      rfl
    constructor
    · apply Nat.le_of_not_lt
      intro hlt
      have h4 : l.getD j 0 ∈ A := by
        rw [hm, List.getElem_append_left (by rw [List.length_append]; omega), List.getElem_append_left hlt]
        exact List.getElem_mem _
      rw [hA _ h4] at hp
      cases hp
    · apply Nat.lt_of_not_le
      intro hle
      have h4 : l.getD j 0 ∈ B := by
        rw [hm, List.getElem_append_right (by rw [List.length_append]; omega)]
        exact List.getElem_mem _
      rw [hB _ h4] at hp
      cases hp
  · intro j h1 h2
    have hj' : j < (A ++ T ++ B).length := by rw [List.length_append, List.length_append]; omega
    have hm : l.getD j 0 = (A ++ T ++ B)[j]'hj' := by
      rw [List.getD_eq_getElem?_getD]
      conv => lhs; rw [hl]
      rw [List.getElem?_eq_getElem hj']
      rfl
    rw [hm, List.getElem_append_left (by rw [List.length_append]; omega), List.getElem_append_right h1]
    exact List.getElem_mem _

theorem all_false {T : List UInt8} {c : UInt8} (h : c ∈ T) (hc : oct c = false) : T.all oct = false := by
  cases hT : T.all oct with
  | false => rfl
  | true =>
    have := List.all_eq_true.1 hT c h
    rw [hc] at this
    cases this

theorem bad_byte (l : List UInt8) (j : Nat) (hj : j < l.length) (h1 : pad (l.getD j 0) = false) (h2 : oct (l.getD j 0) = false) : ans l = (0, false) := by
  obtain ⟨a, ha⟩ := trim_place l
  obtain ⟨h3, h4⟩ := ha _ rfl
  obtain ⟨h5, h6⟩ := h3 j hj h1
  unfold ans
  rw [all_false (h4 j h5 h6) h2]
  rfl

theorem bad_mid (l : List UInt8) (i j k : Nat) (hij : i < j) (hjk : j < k) (hk : k < l.length) (h1 : pad (l.getD i 0) = false) (h2 : pad (l.getD j 0) = true) (h3 : pad (l.getD k 0) = false) : ans l = (0, false) := by
  obtain ⟨a, ha⟩ := trim_place l
  obtain ⟨h4, h5⟩ := ha _ rfl
  have h6 := h4 i (by omega) h1
  have h7 := h4 k hk h3
  have hno : oct (l.getD j 0) = false := by
    cases h : oct (l.getD j 0) with
    | false => rfl
    | true =>
      have := oct_not_pad h
      rw [h2] at this
      cases this
  unfold ans
  rw [all_false (h5 j (by omega) (by omega)) hno]
  rfl

theorem good_seg (l : List UInt8) (s e : Nat) (hse : s < e) (he : e ≤ l.length) (h1 : ∀ j, j < s → pad (l.getD j 0) = true) (h2 : ∀ j, s ≤ j → j < e → oct (l.getD j 0) = true) (h3 : ∀ j, e ≤ j → j < l.length → pad (l.getD j 0) = true) :
    ans l = (wrap64 (val ((l.drop s).take (e - s)) : Int), true) := by
  unfold ans
  rw [trim_seg l s e hse he h1 h2 h3, if_pos]
  rw [List.all_eq_true]
  intro c hc
  obtain ⟨j, hj, rfl⟩ := List.mem_iff_getElem.1 hc
  rw [List.length_take, List.length_drop] at hj
  have := h2 (s + j) (by omega) (by omega)
  rw [List.getD_eq_getElem?_getD, List.getElem?_eq_getElem (by omega), Option.getD_some] at this
  rw [List.getElem_take, List.getElem_drop]
  exact this

theorem good_none (l : List UInt8) (h : ∀ j, j < l.length → pad (l.getD j 0) = true) : ans l = (0, true) := by
  unfold ans
  rw [trim_none l h]
  simp [val, wrap64]
end Go.Proofs.Oc
