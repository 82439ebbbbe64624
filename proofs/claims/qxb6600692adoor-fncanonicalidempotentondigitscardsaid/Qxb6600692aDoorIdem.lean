/-
  Plain lists of bytes: the canonical text of digits read back into its parts. No Go in sight.
-/
import Derived.Test.Qxb6600692aDoorScan
namespace Go.Proofs.Qxb6600692aDoor
namespace Canon

def dig (c : UInt8) : Bool := decide (48 ≤ c.toNat) && decide (c.toNat ≤ 57)
def allDig (l : List UInt8) : Bool := l.all dig

/-- reading a text: the sign, what stands ahead of the point, what stands behind it, whether there is a point -/
def neg? (l : List UInt8) : Bool := l.head? == some 45
def start (l : List UInt8) : Nat := if neg? l then 1 else 0
/-- the place of the first point from k on, or the length -/
def NoDot (l : List UInt8) (a b : Nat) : Prop := ∀ j, a ≤ j → j < b → nb l j ≠ 46

theorem all_drop (p : UInt8 → Bool) : ∀ (l : List UInt8), l.all p = true → ∀ q : UInt8 → Bool, (l.dropWhile q).all p = true
  | [], _, _ => rfl
  | c :: l, h, q => by
    simp only [List.all_cons, Bool.and_eq_true] at h
    simp only [List.dropWhile]
    split
    · exact all_drop p l h.2 q
    · simp [h.1, h.2]
theorem dig_tl (l : List UInt8) (h : allDig l = true) : allDig (tl l) = true := all_drop dig l h _
theorem dig_tr (l : List UInt8) (h : allDig l = true) : allDig (tr l) = true := by
  unfold tr allDig
  rw [List.all_reverse]
  exact all_drop dig l.reverse (by rw [List.all_reverse]; exact h) _

theorem tl_tl (l : List UInt8) : tl (tl l) = tl l := by
  cases h : tl l with
  | nil => rfl
  | cons c r =>
    have := tl_head l c r h
    unfold tl
    rw [List.dropWhile_cons_of_neg (by simpa using this)]
theorem tl_of_head (c : UInt8) (r : List UInt8) (h : c ≠ 48) : tl (c :: r) = c :: r := by
  unfold tl
  rw [List.dropWhile_cons_of_neg (by simpa using h)]
theorem tr_tr (l : List UInt8) : tr (tr l) = tr l := by
  unfold tr
  rw [List.reverse_reverse]
  have := tl_tl l.reverse
  unfold tl at this
  rw [this]
theorem tr_last (l : List UInt8) (r : List UInt8) (c : UInt8) (h : tr l = r ++ [c]) : c ≠ 48 := by
  unfold tr at h
  have h2 := congrArg List.reverse h
  rw [List.reverse_reverse, List.reverse_append, List.reverse_cons, List.reverse_nil, List.nil_append, List.cons_append, List.nil_append] at h2
  have := dropWhile_head _ _ _ _ h2
  simpa using this

/-- what the reading comes to, of the canonical text of digits -/
theorem tl_wh (w : List UInt8) : tl (wh (tl w)) = tl w := by
  unfold wh
  split
  · rename_i h
    have : tl w = [] := by simpa using h
    rw [this]; rfl
  · exact tl_tl w

theorem sgn_neg (n : Bool) (w f : List UInt8) : sgn (n && (!w.isEmpty || !f.isEmpty)) w f = sgn n w f := by
  unfold sgn
  cases n <;> cases w.isEmpty <;> cases f.isEmpty <;> rfl

/-- the parts: sign, whole, fraction -/
def pNeg (n : Bool) (w f : List UInt8) : Bool := n && (!(tl w).isEmpty || !(tr f).isEmpty)
def pW (w : List UInt8) : List UInt8 := wh (tl w)
def pF (f : List UInt8) : List UInt8 := tr f

theorem canon_again (n : Bool) (w f : List UInt8) : canon (pNeg n w f) (pW w) (pF f) = canon n w f := by
  unfold canon pNeg pW pF
  rw [tl_wh, tr_tr, sgn_neg]

theorem canon_parts (n : Bool) (w f : List UInt8) :
    canon n w f = (if pNeg n w f then [45] else []) ++ (pW w ++ fr (pF f)) := rfl

theorem pW_ne (w : List UInt8) : pW w ≠ [] := by
  unfold pW wh
  split
  · simp
  · rename_i h
    simpa using h
theorem dig_pW (w : List UInt8) (h : allDig w = true) : allDig (pW w) = true := by
  unfold pW wh
  split
  · rfl
  · exact dig_tl w h
theorem dig_pF (w : List UInt8) (h : allDig w = true) : allDig (pF w) = true := dig_tr w h
/-- no leading zero, unless it is the one digit 0 -/
theorem pW_head (w : List UInt8) (h : 1 < (pW w).length) : nb (pW w) 0 ≠ 48 := by
  unfold pW wh at h ⊢
  split at h
  · simp at h
  · rename_i hne
    rw [if_neg hne]
    cases hc : tl w with
    | nil => rw [hc] at hne; exact absurd rfl hne
    | cons c r =>
      have := tl_head w c r hc
      intro e
      have := nb_eq e
      simp at this
      contradiction
theorem pF_last (f : List UInt8) (h : pF f ≠ []) : nb (pF f) ((pF f).length - 1) ≠ 48 := by
  intro e
  have e2 := nb_eq e
  unfold pF at h e2
  have h3 := List.dropLast_concat_getLast h
  have h4 := tr_last f _ _ h3.symm
  rw [List.getD_eq_getElem?_getD, ← List.getLast?_eq_getElem?, List.getLast?_eq_some_getLast h] at e2
  exact h4 (by simpa using e2)
/-- no "-0" -/
theorem not_neg_zero (n : Bool) (w f : List UInt8) (hn : pNeg n w f = true) (hw : pW w = [48]) : pF f ≠ [] := by
  intro hf
  unfold pNeg at hn
  unfold pF at hf
  rw [hf] at hn
  unfold pW wh at hw
  split at hw
  · rename_i h
    rw [h] at hn
    simp at hn
  · cases hc : tl w with
    | nil => rw [hc] at hw; simp at hw
    | cons c r =>
      have := tl_head w c r hc
      rw [hc] at hw
      have := (List.cons.inj hw).1
      contradiction

theorem dig_at (l : List UInt8) (h : allDig l = true) (k : Nat) (hk : k < l.length) : 48 ≤ nb l k ∧ nb l k ≤ 57 := by
  unfold allDig at h
  have h3 := List.all_eq_true.1 h (l.getD k 0) (by
    rw [List.getD_eq_getElem?_getD, List.getElem?_eq_getElem hk]
    simp)
  unfold dig at h3
  unfold nb
  simp at h3
  simp
  omega

/-- the point's place in a text made of its parts -/
theorem point_at (P W F : List UInt8) (p : Nat) (hW : allDig W = true) (h1 : P.length ≤ p) (h2 : p ≤ (P ++ (W ++ fr F)).length)
    (hN : NoDot (P ++ (W ++ fr F)) P.length p) (hp : p < (P ++ (W ++ fr F)).length → nb (P ++ (W ++ fr F)) p = 46) : p = P.length + W.length := by
  rcases Nat.lt_trichotomy p (P.length + W.length) with h | h | h
  · have h3 := hp (by simp only [List.length_append]; omega)
    obtain ⟨q, rfl⟩ : ∃ q, p = P.length + q := ⟨p - P.length, by omega⟩
    rw [nb_right, nb_left _ _ (by omega)] at h3
    have := dig_at W hW q (by omega)
    omega
  · exact h
  · exfalso
    refine hN (P.length + W.length) (by omega) h ?_
    rw [nb_right, show W.length = W.length + 0 from rfl, nb_right]
    simp only [List.length_append] at h2
    unfold fr at h2 ⊢
    split
    · rename_i he
      rw [if_pos he] at h2
      simp at h2
      omega
    · rfl

theorem parts_whole (P W F : List UInt8) : ((P ++ (W ++ fr F)).drop P.length).take W.length = W := by simp
theorem parts_frac (P W F : List UInt8) (h : F ≠ []) : (P ++ (W ++ fr F)).drop (P.length + W.length + 1) = F := by
  have : fr F = 46 :: F := by
    unfold fr
    rw [if_neg (by simpa using h)]
  rw [this, ← List.append_assoc, ← List.length_append, ← List.drop_drop, List.drop_left]
  rfl
theorem parts_len (P W F : List UInt8) : P.length + W.length < (P ++ (W ++ fr F)).length ↔ F ≠ [] := by
  unfold fr
  split
  · rename_i h
    simp at h
    simp [h]
  · rename_i h
    simp at h
    simp [h]

end Canon
end Go.Proofs.Qxb6600692aDoor
