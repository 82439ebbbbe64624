/-
  Plain lists of bytes: one scan over whole and frac for the first and the last byte that is not '0', and what 'canonical' comes to in its terms. No Go in sight.
-/
import Derived.Test.Qxb6600692aDoorPlain
namespace Go.Proofs.Qxb6600692aDoor
namespace Canon

/-- byte k, as a number -/
def nb (l : List UInt8) (k : Nat) : Int := ((l.getD k 0).toNat : Int)
theorem nb_lo (l : List UInt8) (k : Nat) : 0 ≤ nb l k := by unfold nb; omega
theorem nb_hi (l : List UInt8) (k : Nat) : nb l k ≤ 255 := by
  unfold nb
  have := (l.getD k 0).toNat_lt
  omega

def FirstOK (l : List UInt8) (k : Nat) (f : Int) : Prop :=
  (f = -1 ∧ ∀ j, j < k → nb l j = 48) ∨ (∃ i : Nat, i < k ∧ f = i ∧ nb l i ≠ 48 ∧ ∀ j, j < i → nb l j = 48)
def LastOK (l : List UInt8) (k : Nat) (f : Int) : Prop :=
  (f = -1 ∧ ∀ j, j < k → nb l j = 48) ∨ (∃ i : Nat, i < k ∧ f = i ∧ nb l i ≠ 48 ∧ ∀ j, i < j → j < k → nb l j = 48)

theorem first_zero (l : List UInt8) : FirstOK l 0 (-1) := .inl ⟨rfl, fun _ h => absurd h (Nat.not_lt_zero _)⟩
theorem last_zero (l : List UInt8) : LastOK l 0 (-1) := .inl ⟨rfl, fun _ h => absurd h (Nat.not_lt_zero _)⟩
theorem first_same {l : List UInt8} {k : Nat} {f : Int} (h : FirstOK l k f) (hz : nb l k = 48) : FirstOK l (k + 1) f := by
  rcases h with ⟨e, h⟩ | ⟨i, hi, e, hn, h⟩
  · refine .inl ⟨e, fun j hj => ?_⟩
    rcases Nat.lt_or_ge j k with h1 | h1
    · exact h j h1
    · rw [show j = k by omega]; exact hz
  · exact .inr ⟨i, by omega, e, hn, h⟩
theorem last_same {l : List UInt8} {k : Nat} {f : Int} (h : LastOK l k f) (hz : nb l k = 48) : LastOK l (k + 1) f := by
  rcases h with ⟨e, h⟩ | ⟨i, hi, e, hn, h⟩
  · refine .inl ⟨e, fun j hj => ?_⟩
    rcases Nat.lt_or_ge j k with h1 | h1
    · exact h j h1
    · rw [show j = k by omega]; exact hz
  · refine .inr ⟨i, by omega, e, hn, fun j h1 h2 => ?_⟩
    rcases Nat.lt_or_ge j k with h3 | h3
    · exact h j h1 h3
    · rw [show j = k by omega]; exact hz
theorem first_new {l : List UInt8} {k : Nat} {f : Int} (h : FirstOK l k f) (hf : f < 0) (hz : nb l k ≠ 48) : FirstOK l (k + 1) k := by
  rcases h with ⟨e, h⟩ | ⟨i, hi, e, hn, h⟩
  · exact .inr ⟨k, by omega, rfl, hz, h⟩
  · omega
theorem first_old {l : List UInt8} {k : Nat} {f : Int} (h : FirstOK l k f) (hf : ¬ f < 0) : FirstOK l (k + 1) f := by
  rcases h with ⟨e, h⟩ | ⟨i, hi, e, hn, h⟩
  · omega
  · exact .inr ⟨i, by omega, e, hn, h⟩
theorem last_new {l : List UInt8} {k : Nat} (hz : nb l k ≠ 48) : LastOK l (k + 1) k :=
  .inr ⟨k, by omega, rfl, hz, fun j h1 h2 => by omega⟩
theorem first_lo {l : List UInt8} {k : Nat} {f : Int} (h : FirstOK l k f) : -1 ≤ f ∧ f < k := by
  rcases h with ⟨e, h⟩ | ⟨i, hi, e, hn, h⟩ <;> omega
theorem last_lo {l : List UInt8} {k : Nat} {f : Int} (h : LastOK l k f) : -1 ≤ f ∧ f < k := by
  rcases h with ⟨e, h⟩ | ⟨i, hi, e, hn, h⟩ <;> omega

theorem last_of_first {l : List UInt8} {k i : Nat} {f : Int} (h : FirstOK l k i) (h2 : LastOK l k f) : 0 ≤ f := by
  rcases h with ⟨e, _⟩ | ⟨i', hi, e, hin, _⟩
  · omega
  · rcases h2 with ⟨_, hz⟩ | ⟨m, _, e2, _⟩
    · exact absurd (hz i' hi) hin
    · omega

theorem nb_eq {l : List UInt8} {k : Nat} (h : nb l k = 48) : l.getD k 0 = 48 := by
  unfold nb at h
  have : (l.getD k 0).toNat = 48 := by omega
  exact UInt8.toNat_inj.1 this
theorem nb_ne {l : List UInt8} {k : Nat} (h : nb l k ≠ 48) : l.getD k 0 ≠ 48 := by
  intro e
  unfold nb at h
  rw [e] at h
  exact h rfl
theorem nb_left (a b : List UInt8) {k : Nat} (h : k < a.length) : nb (a ++ b) k = nb a k := by
  unfold nb
  simp [List.getElem?_append_left h]
theorem nb_right (a b : List UInt8) (k : Nat) : nb (a ++ b) (a.length + k) = nb b k := by
  unfold nb
  rw [List.getD_eq_getElem?_getD, List.getElem?_append_right (by omega), Nat.add_sub_cancel_left, ← List.getD_eq_getElem?_getD]

/-- leading zeros dropped -/
theorem tl_drop : ∀ (l : List UInt8) (i : Nat), (∀ j, j < i → nb l j = 48) → i ≤ l.length → (i < l.length → nb l i ≠ 48) → tl l = l.drop i
  | [], i, _, _, _ => by simp [tl]
  | c :: l, 0, _, _, hn => by
    have h := nb_ne (hn (by simp))
    have hc : c ≠ 48 := by simpa using h
    simp [tl, hc]
  | c :: l, i + 1, hz, hi, hn => by
    have h0 := nb_eq (hz 0 (by omega))
    have hc : c = 48 := by simpa using h0
    have ih := tl_drop l i (fun j hj => by have := hz (j + 1) (by omega); simpa [nb] using this) (by simpa using hi)
      (fun h => by have := hn (by simpa using h); simpa [nb] using this)
    unfold tl at ih ⊢
    rw [List.dropWhile_cons_of_pos (by simp [hc]), ih]
    simp

theorem dropWhile_all (p : UInt8 → Bool) : ∀ (x y : List UInt8), (∀ c ∈ x, p c = true) → (x ++ y).dropWhile p = y.dropWhile p
  | [], _, _ => rfl
  | c :: x, y, h => by
    rw [List.cons_append, List.dropWhile_cons_of_pos (h c (by simp))]
    exact dropWhile_all p x y fun d hd => h d (by simp [hd])

/-- trailing zeros dropped -/
theorem tr_take (l : List UInt8) (m : Nat) (hm : m ≤ l.length) (hz : ∀ j, m ≤ j → j < l.length → nb l j = 48) (hn : 0 < m → nb l (m - 1) ≠ 48) : tr l = l.take m := by
  unfold tr
  have e : l = l.take m ++ l.drop m := (List.take_append_drop m l).symm
  have h1 : l.reverse = (l.drop m).reverse ++ (l.take m).reverse := by
    rw [← List.reverse_append, ← e]
  rw [h1, dropWhile_all]
  · rcases Nat.eq_zero_or_pos m with h0 | h0
    · subst h0; simp
    · have hlt : m - 1 < l.length := by omega
      have h2 : l.take m = l.take (m - 1) ++ [l[m - 1]] := by
        have h4 := List.take_succ_eq_append_getElem hlt
        rw [show m - 1 + 1 = m by omega] at h4
        exact h4
      have h3 : l[m - 1] ≠ 48 := by
        have := nb_ne (hn h0)
        rw [List.getD_eq_getElem?_getD, List.getElem?_eq_getElem hlt] at this
        simpa using this
      rw [h2, List.reverse_append, List.reverse_cons, List.reverse_nil, List.nil_append, List.cons_append, List.dropWhile_cons_of_neg (by simpa using h3)]
      simp
  · intro c hc
    rw [List.mem_reverse] at hc
    obtain ⟨j, hj, rfl⟩ := List.getElem_of_mem hc
    rw [List.getElem_drop]
    rw [List.length_drop] at hj
    have := nb_eq (hz (m + j) (by omega) (by omega))
    rw [List.getD_eq_getElem?_getD, List.getElem?_eq_getElem (by omega)] at this
    simpa using this

/-- no byte but '0' -/
theorem scan_none (neg : Bool) (a b : List UInt8) (h : FirstOK (a ++ b) (a.length + b.length) (-1)) : canon neg a b = [48] := by
  rcases h with ⟨_, h⟩ | ⟨i, _, e, _⟩
  · have h1 : tl a = [] := by
      rw [tl_drop a a.length (fun j hj => by rw [← nb_left a b hj]; exact h j (by omega)) (Nat.le_refl _) (fun h => absurd h (Nat.lt_irrefl _))]
      simp
    have h2 : tr b = [] := by
      rw [tr_take b 0 (Nat.zero_le _) (fun j _ hj => by rw [← nb_right a b j]; exact h _ (by omega)) (fun h => absurd h (Nat.lt_irrefl _))]
      simp
    rw [canon, h1, h2]
    simp [sgn, wh, fr]
  · omega

/-- what the model writes -/
def pre (neg : Bool) : List UInt8 := if neg then [45] else []
def mid (a : List UInt8) (i : Nat) : List UInt8 := if a.length ≤ i then [48] else a.drop i
def suf (a b : List UInt8) (m : Nat) : List UInt8 := if a.length ≤ m then 46 :: b.take (m - a.length + 1) else []

theorem scan_some (neg : Bool) (a b : List UInt8) (i m : Nat) (h1 : FirstOK (a ++ b) (a.length + b.length) i) (h2 : LastOK (a ++ b) (a.length + b.length) m) :
    canon neg a b = pre neg ++ (mid a i ++ suf a b m) := by
  rcases h1 with ⟨e, _⟩ | ⟨i', hi, e, hin, hiz⟩
  · omega
  obtain rfl : i = i' := by omega
  rcases h2 with ⟨e2, _⟩ | ⟨m', hm, e2, hmn, hmz⟩
  · omega
  obtain rfl : m = m' := by omega
  have him : i ≤ m := by
    rcases Nat.lt_or_ge m i with h | h
    · exact absurd (hiz m h) hmn
    · exact h
  have ha : wh (tl a) = mid a i ∧ ((tl a).isEmpty = false ∨ a.length ≤ i) := by
    unfold mid
    by_cases hp : a.length ≤ i
    · have : tl a = [] := by
        rw [tl_drop a a.length (fun j hj => by rw [← nb_left a b hj]; exact hiz j (by omega)) (Nat.le_refl _) (fun h => absurd h (Nat.lt_irrefl _))]
        simp
      rw [this, if_pos hp]
      exact ⟨rfl, .inr hp⟩
    · have : tl a = a.drop i := tl_drop a i (fun j hj => by rw [← nb_left a b (by omega)]; exact hiz j hj) (by omega) (fun h => by rw [← nb_left a b h]; exact hin)
      have hne : (a.drop i).isEmpty = false := by
        rw [List.isEmpty_eq_false_iff]
        intro h
        have := congrArg List.length h
        simp at this
        omega
      rw [this, if_neg hp]
      simp [wh, hne]
  have hb : fr (tr b) = suf a b m ∧ ((tr b).isEmpty = false ∨ m < a.length) := by
    unfold suf
    by_cases hp : a.length ≤ m
    · obtain ⟨q, rfl⟩ : ∃ q, m = a.length + q := ⟨m - a.length, by omega⟩
      have : tr b = b.take (q + 1) := tr_take b (q + 1) (by omega) (fun j h3 h4 => by rw [← nb_right a b j]; exact hmz _ (by omega) (by omega)) (fun _ => by rw [← nb_right a b]; exact hmn)
      have hne : (b.take (q + 1)).isEmpty = false := by
        rw [List.isEmpty_eq_false_iff]
        intro h
        have := congrArg List.length h
        rw [List.length_take, List.length_nil] at this
        omega
      rw [this, if_pos hp]
      simp [fr, hne]
    · have : tr b = [] := by
        rw [tr_take b 0 (Nat.zero_le _) (fun j _ hj => by rw [← nb_right a b j]; exact hmz _ (by omega) (by omega)) (fun h => absurd h (Nat.lt_irrefl _))]
        simp
      rw [this, if_neg hp]
      exact ⟨rfl, .inr (by omega)⟩
  have hs : sgn neg (tl a) (tr b) = pre neg := by
    have : (tl a).isEmpty = false ∨ (tr b).isEmpty = false := by
      rcases ha.2 with h | h
      · exact .inl h
      · rcases hb.2 with h' | h'
        · exact .inr h'
        · omega
    rcases this with h | h <;> simp [sgn, pre, h]
  rw [canon, hs, ha.1, hb.1]

theorem take_step (l : List UInt8) (i k : Nat) (h1 : i ≤ k) (h2 : k < l.length) : (l.drop i).take (k + 1 - i) = (l.drop i).take (k - i) ++ [l.getD k 0] := by
  rw [show k + 1 - i = k - i + 1 by omega, List.take_succ_eq_append_getElem (by rw [List.length_drop]; omega), List.getElem_drop]
  rw [List.getD_eq_getElem?_getD, List.getElem?_eq_getElem h2]
  simp [show i + (k - i) = k by omega]

theorem mid_le (l : List UInt8) (i : Nat) : (mid l i).length ≤ l.length + 1 := by
  unfold mid
  split
  · simp
  · rw [List.length_drop]; omega

theorem mid_ne (l : List UInt8) (i : Nat) : mid l i ≠ [] := by
  unfold mid
  split
  · simp
  · intro h
    have := congrArg List.length h
    rw [List.length_drop, List.length_nil] at this
    omega
theorem take_one (l : List UInt8) (k : Nat) (h2 : k < l.length) : l.take (k + 1) = l.take k ++ [l.getD k 0] := by
  rw [List.take_succ_eq_append_getElem h2]
  rw [List.getD_eq_getElem?_getD, List.getElem?_eq_getElem h2]
  rfl

end Canon
end Go.Proofs.Qxb6600692aDoor
