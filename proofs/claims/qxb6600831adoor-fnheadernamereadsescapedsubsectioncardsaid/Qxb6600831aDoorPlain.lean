/-
  Plain lists of bytes: a section header's name as git config reads it. No Go in sight.
-/
namespace Go.Proofs.Qxb6600831aDoor
namespace Hn

def nb (l : List UInt8) (k : Nat) : Int := ((l.getD k 0).toNat : Int)
theorem nb_lo (l : List UInt8) (k : Nat) : 0 ≤ nb l k := by unfold nb; omega
theorem nb_hi (l : List UInt8) (k : Nat) : nb l k ≤ 255 := by
  unfold nb
  have := (l.getD k 0).toNat_lt
  omega
theorem getD_of_nb {l : List UInt8} {k : Nat} {c : UInt8} (h : nb l k = (c.toNat : Int)) : l.getD k 0 = c := by
  unfold nb at h
  exact UInt8.toNat_inj.1 (by omega)
theorem nb_of_getD {l : List UInt8} {k : Nat} {c : UInt8} (h : l.getD k 0 = c) : nb l k = (c.toNat : Int) := by
  unfold nb; rw [h]
theorem nb_ne {l : List UInt8} {k : Nat} {c : UInt8} (h : nb l k ≠ (c.toNat : Int)) : l.getD k 0 ≠ c := fun e => h (nb_of_getD e)

/-- git's blanks -/
def blank (c : UInt8) : Bool := c == 32 || c == 9 || c == 13
/-- trailing blanks dropped -/
def trimB (l : List UInt8) : List UInt8 := (l.reverse.dropWhile blank).reverse

/-- each backslash stands for the byte behind it -/
def unesc : List UInt8 → List UInt8
  | [] => []
  | [c] => [c]
  | c :: d :: r => if c = 92 then d :: unesc r else c :: unesc (d :: r)

theorem unesc_plain : ∀ (l : List UInt8), (∀ c ∈ l, c ≠ 92) → unesc l = l
  | [], _ => rfl
  | [c], _ => rfl
  | c :: d :: r, h => by
    rw [unesc, if_neg (h c (by simp)), unesc_plain (d :: r) fun x hx => h x (by simp [hx])]

/-- the name, at the quote's place p -/
def hdr (name : List UInt8) (p : Nat) : List UInt8 :=
  trimB (name.take p) ++ ((if trimB (name.take p) = name.take p then [] else [32]) ++ unesc (name.drop p))

theorem hdr_plain (name : List UInt8) (p : Nat) (h : ∀ c ∈ name.drop p, c ≠ 92) (h2 : trimB (name.take p) = name.take p ∨ trimB (name.take p) ++ [32] = name.take p) : hdr name p = name := by
  unfold hdr
  rw [unesc_plain _ h]
  rcases h2 with h2 | h2
  · rw [if_pos h2, h2, List.nil_append, List.take_append_drop]
  · have hne : trimB (name.take p) ≠ name.take p := fun e => by
      have := congrArg List.length h2
      rw [e] at this
      simp at this
    rw [if_neg hne, ← List.append_assoc, h2, List.take_append_drop]

theorem dropWhile_le (q : UInt8 → Bool) : ∀ l : List UInt8, (l.dropWhile q).length ≤ l.length
  | [] => Nat.le_refl _
  | a :: r => by
    simp only [List.dropWhile]
    split
    · exact Nat.le_succ_of_le (dropWhile_le q r)
    · exact Nat.le_refl _
theorem trim_le (l : List UInt8) : (trimB l).length ≤ l.length := by
  unfold trimB
  rw [List.length_reverse]
  exact Nat.le_trans (dropWhile_le _ _) (by simp)
theorem dropWhile_all (q : UInt8 → Bool) : ∀ (x y : List UInt8), (∀ c ∈ x, q c = true) → (x ++ y).dropWhile q = y.dropWhile q
  | [], _, _ => rfl
  | c :: x, y, h => by
    rw [List.cons_append, List.dropWhile_cons_of_pos (h c (by simp))]
    exact dropWhile_all q x y fun d hd => h d (by simp [hd])
/-- a text that ends in no blank, then blanks -/
theorem trim_of (a b : List UInt8) (h1 : ∀ r c, a = r ++ [c] → blank c = false) (h2 : ∀ c ∈ b, blank c = true) : trimB (a ++ b) = a := by
  unfold trimB
  rw [List.reverse_append, dropWhile_all _ _ _ (fun c hc => h2 c (by simpa using hc))]
  cases hr : a.reverse with
  | nil =>
    have : a = [] := by simpa using hr
    rw [this]; rfl
  | cons c r =>
    have ha : a = r.reverse ++ [c] := by
      have := congrArg List.reverse hr
      simpa using this
    rw [List.dropWhile_cons_of_neg (by rw [h1 _ _ ha]; simp), ← hr, List.reverse_reverse]
/-- cut at the place behind which all is blank -/
theorem trim_take (l : List UInt8) (k : Nat) (hk : k ≤ l.length) (h1 : 0 < k → blank (l.getD (k - 1) 0) = false) (h2 : ∀ j, k ≤ j → j < l.length → blank (l.getD j 0) = true) : trimB l = l.take k := by
  conv => lhs; rw [← List.take_append_drop k l]
  refine trim_of _ _ ?_ ?_
  · intro r c h
    have hl := congrArg List.length h
    rw [List.length_take, List.length_append, List.length_singleton] at hl
    have h3 := h1 (by omega)
    have h4 : (l.take k)[k - 1]? = some c := by
      rw [h, List.getElem?_append_right (by omega)]
      simp [show k - 1 - r.length = 0 by omega]
    rw [List.getElem?_take_of_lt (by omega)] at h4
    rw [List.getD_eq_getElem?_getD, h4] at h3
    exact h3
  · intro c hc
    obtain ⟨j, hj, rfl⟩ := List.getElem_of_mem hc
    rw [List.length_drop] at hj
    have := h2 (k + j) (by omega) (by omega)
    rw [List.getD_eq_getElem?_getD, List.getElem?_eq_getElem (by omega)] at this
    rw [List.getElem_drop]
    simpa using this

/-- the law's automaton: what has been written, and whether a backslash is pending -/
def auto : List UInt8 → List UInt8 × Bool → List UInt8 × Bool
  | [], s => s
  | c :: l, (o, pd) => if c = 92 ∧ pd = false then auto l (o, true) else auto l (o ++ [c], false)
def fin (s : List UInt8 × Bool) : List UInt8 := if s.2 then s.1 ++ [92] else s.1
theorem auto_eq : ∀ (l : List UInt8) (o : List UInt8), fin (auto l (o, false)) = o ++ unesc l
  | [], o => by simp [auto, fin, unesc]
  | [c], o => by
    by_cases h : c = 92
    · subst h; simp [auto, fin, unesc]
    · simp [auto, fin, unesc, h]
  | c :: d :: r, o => by
    by_cases h : c = 92
    · subst h
      rw [unesc, if_pos rfl]
      have : auto (92 :: d :: r) (o, false) = auto r (o ++ [d], false) := by
        rw [auto, if_pos ⟨rfl, rfl⟩, auto, if_neg (by simp)]
      rw [this, auto_eq r (o ++ [d])]
      simp
    · rw [unesc, if_neg h, auto, if_neg (by simp [h]), auto_eq (d :: r) (o ++ [c])]
      simp
theorem auto_snoc : ∀ (l : List UInt8) (c : UInt8) (s : List UInt8 × Bool), auto (l ++ [c]) s = if c = 92 ∧ (auto l s).2 = false then ((auto l s).1, true) else ((auto l s).1 ++ [c], false)
  | [], c, (o, pd) => by rw [List.nil_append, auto]; rfl
  | a :: l, c, (o, pd) => by
    rw [List.cons_append, auto, auto]
    split
    · exact auto_snoc l c _
    · exact auto_snoc l c _

/-- the escaped spelling -/
def esc : List UInt8 → List UInt8
  | [] => []
  | c :: l => if c = 34 ∨ c = 92 then 92 :: c :: esc l else c :: esc l
theorem unesc_esc : ∀ (l t : List UInt8), unesc (esc l ++ t) = l ++ unesc t
  | [], _ => rfl
  | c :: l, t => by
    unfold esc
    split
    · rw [List.cons_append, List.cons_append, unesc, if_pos rfl, unesc_esc l t]; rfl
    · rename_i h
      have hc : c ≠ 92 := fun e => h (.inr e)
      rw [List.cons_append, List.cons_append, ← unesc_esc l t]
      cases hx : esc l ++ t with
      | nil => rfl
      | cons d r => rw [unesc, if_neg hc]
theorem esc_snoc : ∀ (l : List UInt8) (c : UInt8), esc (l ++ [c]) = esc l ++ (if c = 34 ∨ c = 92 then [92, c] else [c])
  | [], c => by simp [esc]
  | a :: l, c => by
    rw [List.cons_append, esc, esc]
    split
    · rw [esc_snoc l c]; simp
    · rw [esc_snoc l c]; simp
theorem esc_le : ∀ l : List UInt8, (esc l).length ≤ 2 * l.length
  | [] => by simp [esc]
  | c :: l => by
    have := esc_le l
    unfold esc
    split
    · simp; omega
    · simp; omega
theorem unesc_le : ∀ l : List UInt8, (unesc l).length ≤ l.length
  | [] => Nat.le_refl _
  | [c] => Nat.le_refl _
  | c :: d :: r => by
    rw [unesc]
    split
    · have := unesc_le r; simp; omega
    · have := unesc_le (d :: r); simp at this ⊢; omega
end Hn
end Go.Proofs.Qxb6600831aDoor
namespace Go.Proofs.Qxb6600831aDoor
namespace Hn
theorem drop_cons (l : List UInt8) (i : Nat) (h : i < l.length) : l.drop i = l.getD i 0 :: l.drop (i + 1) := by
  rw [List.drop_eq_getElem_cons h, List.getD_eq_getElem?_getD, List.getElem?_eq_getElem h]
  rfl
theorem unesc_two (l : List UInt8) (i : Nat) (h : i + 1 < l.length) (hc : l.getD i 0 = 92) : unesc (l.drop i) = l.getD (i + 1) 0 :: unesc (l.drop (i + 2)) := by
  rw [drop_cons l i (by omega), drop_cons l (i + 1) h, unesc, if_pos hc]
theorem unesc_one (l : List UInt8) (i : Nat) (h : i < l.length) (hc : l.getD i 0 ≠ 92 ∨ ¬ i + 1 < l.length) : unesc (l.drop i) = l.getD i 0 :: unesc (l.drop (i + 1)) := by
  rcases Nat.lt_or_ge (i + 1) l.length with h1 | h1
  · rw [drop_cons l i h, drop_cons l (i + 1) h1, unesc, if_neg (by rcases hc with hc | hc; exact hc; exact absurd h1 hc)]
  · rw [drop_cons l i h, List.drop_eq_nil_of_le h1]; rfl
theorem trim_eq (l : List UInt8) : (l.reverse.dropWhile (([32, 9, 13] : List UInt8).contains ·)).reverse = trimB l := by
  unfold trimB
  congr 2
  funext c
  unfold blank
  rw [Bool.eq_iff_iff]
  simp [or_assoc]
/-- what is left of a text whose trailing blanks are cut is its head -/
theorem trim_pre (l : List UInt8) : ∃ r, l = trimB l ++ r := by
  unfold trimB
  obtain ⟨x, hx⟩ : ∃ x, l.reverse = x ++ l.reverse.dropWhile blank := by
    have := List.takeWhile_append_dropWhile (p := blank) (l := l.reverse)
    exact ⟨_, this.symm⟩
  refine ⟨x.reverse, ?_⟩
  have := congrArg List.reverse hx
  rw [List.reverse_reverse, List.reverse_append] at this
  exact this
end Hn
end Go.Proofs.Qxb6600831aDoor
