/-
  Plain lists of bytes: what 'canonical' computes, and the laws on it. No Go in sight.
-/
namespace Go.Proofs.Qxb6600692aDoor
namespace Canon

def tl (l : List UInt8) : List UInt8 := l.dropWhile (· == 48)
def tr (l : List UInt8) : List UInt8 := (l.reverse.dropWhile (· == 48)).reverse
def sgn (neg : Bool) (w f : List UInt8) : List UInt8 := if neg && (!w.isEmpty || !f.isEmpty) then [45] else []
def wh (w : List UInt8) : List UInt8 := if w.isEmpty then [48] else w
def fr (f : List UInt8) : List UInt8 := if f.isEmpty then [] else 46 :: f
def canon (neg : Bool) (whole frac : List UInt8) : List UInt8 :=
  sgn neg (tl whole) (tr frac) ++ (wh (tl whole) ++ fr (tr frac))

theorem dropWhile_le (p : UInt8 → Bool) : ∀ l : List UInt8, (l.dropWhile p).length ≤ l.length
  | [] => Nat.le_refl _
  | a :: r => by
    simp only [List.dropWhile]
    split
    · exact Nat.le_succ_of_le (dropWhile_le p r)
    · exact Nat.le_refl _
theorem tl_le (l : List UInt8) : (tl l).length ≤ l.length := dropWhile_le _ l
theorem tr_le (l : List UInt8) : (tr l).length ≤ l.length := by
  unfold tr
  rw [List.length_reverse]
  exact Nat.le_trans (dropWhile_le _ _) (by simp)

theorem dropWhile_head (p : UInt8 → Bool) : ∀ (l : List UInt8) (c : UInt8) (r : List UInt8), l.dropWhile p = c :: r → p c = false
  | [], _, _, h => by simp at h
  | a :: l, c, r, h => by
    simp only [List.dropWhile] at h
    split at h
    · exact dropWhile_head p l c r h
    · rename_i hp
      have := (List.cons.inj h).1
      subst this
      simpa using hp

theorem tl_head (l : List UInt8) (c : UInt8) (r : List UInt8) (h : tl l = c :: r) : c ≠ 48 := by
  have := dropWhile_head _ l c r h
  simpa using this

/-- the negative literal's text, where the positive one's is 0 -/
theorem neg_zero (w f : List UInt8) (h : canon false w f = [48]) : canon true w f = [48] := by
  unfold canon at h ⊢
  have hs : sgn false (tl w) (tr f) = [] := by simp [sgn]
  rw [hs, List.nil_append] at h
  cases hw : tl w with
  | nil =>
    rw [hw] at h
    cases hf : tr f with
    | nil => simp [sgn, wh, fr]
    | cons c r => rw [hf] at h; simp [wh, fr] at h
  | cons c r =>
    have hc := tl_head w c r hw
    rw [hw] at h
    simp only [wh, List.isEmpty_cons, Bool.false_eq_true, if_false, List.cons_append] at h
    exact absurd (List.cons.inj h).1 hc

theorem neg_other (w f : List UInt8) (h : canon false w f ≠ [48]) : canon true w f = 45 :: canon false w f := by
  unfold canon at h ⊢
  have hs : sgn false (tl w) (tr f) = [] := by simp [sgn]
  rw [hs, List.nil_append] at h ⊢
  have ht : sgn true (tl w) (tr f) = [45] := by
    cases hw : tl w with
    | nil =>
      cases hf : tr f with
      | nil => rw [hw, hf] at h; exact absurd rfl h
      | cons c r => simp [sgn]
    | cons c r => simp [sgn]
  rw [ht]; rfl

theorem canon_le (neg : Bool) (w f : List UInt8) : (canon neg w f).length ≤ w.length + f.length + 3 := by
  have h1 := tl_le w
  have h2 := tr_le f
  have h3 : (sgn neg (tl w) (tr f)).length ≤ 1 := by unfold sgn; split <;> simp
  have h4 : (wh (tl w)).length ≤ w.length + 1 := by
    unfold wh; split
    · simp
    · omega
  have h5 : (fr (tr f)).length ≤ f.length + 1 := by
    unfold fr; split
    · simp
    · rw [List.length_cons]; omega
  unfold canon
  simp only [List.length_append]
  omega

end Canon
end Go.Proofs.Qxb6600692aDoor
