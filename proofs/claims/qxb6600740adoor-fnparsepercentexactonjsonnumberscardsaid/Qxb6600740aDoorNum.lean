/-
  Plain lists of bytes: decimal digits, their value, and what 'a percentage times 100' means: N times ten to the x. No Go in sight.
-/
namespace Go.Proofs.Qxb6600740aDoor
namespace Pc

def dig (c : UInt8) : Bool := decide (48 ≤ c.toNat) && decide (c.toNat ≤ 57)
def allDig (l : List UInt8) : Bool := l.all dig
def dv (c : UInt8) : Nat := c.toNat - 48
def val (l : List UInt8) : Nat := l.foldl (fun a c => a * 10 + dv c) 0

theorem dv_lt {c : UInt8} (h : dig c = true) : dv c < 10 := by
  unfold dig at h
  unfold dv
  simp at h
  omega

theorem val_acc : ∀ (l : List UInt8) (a : Nat), l.foldl (fun a c => a * 10 + dv c) a = a * 10 ^ l.length + val l
  | [], a => by simp [val]
  | c :: l, a => by
    have h1 := val_acc l (a * 10 + dv c)
    have h2 := val_acc l (0 * 10 + dv c)
    simp only [List.foldl_cons, List.length_cons, val] at h1 h2 ⊢
    rw [h1, h2, Nat.pow_succ, Nat.add_mul, Nat.add_mul]
    have : a * 10 * 10 ^ l.length = a * (10 ^ l.length * 10) := by rw [Nat.mul_assoc, Nat.mul_comm 10]
    omega
theorem val_append (a b : List UInt8) : val (a ++ b) = val a * 10 ^ b.length + val b := by
  unfold val
  rw [List.foldl_append, val_acc]
  rfl
theorem val_cons (c : UInt8) (l : List UInt8) : val (c :: l) = dv c * 10 ^ l.length + val l := by
  have := val_append [c] l
  simpa [val] using this
theorem val_snoc (l : List UInt8) (c : UInt8) : val (l ++ [c]) = val l * 10 + dv c := by
  rw [val_append]
  simp [val]
theorem val_nil : val [] = 0 := rfl

theorem allDig_cons (c : UInt8) (l : List UInt8) : allDig (c :: l) = (dig c && allDig l) := rfl
theorem allDig_append (a b : List UInt8) : allDig (a ++ b) = (allDig a && allDig b) := List.all_append

theorem val_lt : ∀ (l : List UInt8), allDig l = true → val l < 10 ^ l.length
  | [], _ => by simp [val]
  | c :: l, h => by
    rw [allDig_cons, Bool.and_eq_true] at h
    have h1 := val_lt l h.2
    have h2 := dv_lt h.1
    rw [val_cons, List.length_cons, Nat.pow_succ]
    have h3 : dv c * 10 ^ l.length ≤ 9 * 10 ^ l.length := Nat.mul_le_mul_right _ (by omega)
    omega

/-- leading zeros dropped -/
def tl (l : List UInt8) : List UInt8 := l.dropWhile (· == 48)
theorem dv48 : dv 48 = 0 := rfl
theorem val_tl : ∀ l : List UInt8, val (tl l) = val l
  | [] => rfl
  | c :: l => by
    unfold tl
    by_cases hc : c = 48
    · rw [List.dropWhile_cons_of_pos (by simp [hc]), val_cons, hc, dv48, Nat.zero_mul, Nat.zero_add]
      exact val_tl l
    · rw [List.dropWhile_cons_of_neg (by simp [hc])]
theorem allDig_tl : ∀ l : List UInt8, allDig l = true → allDig (tl l) = true
  | [], _ => rfl
  | c :: l, h => by
    unfold tl
    by_cases hc : c = 48
    · rw [List.dropWhile_cons_of_pos (by simp [hc])]
      rw [allDig_cons, Bool.and_eq_true] at h
      exact allDig_tl l h.2
    · rw [List.dropWhile_cons_of_neg (by simp [hc])]
      exact h
theorem tl_le : ∀ l : List UInt8, (tl l).length ≤ l.length
  | [] => Nat.le_refl _
  | c :: l => by
    unfold tl
    by_cases hc : c = 48
    · rw [List.dropWhile_cons_of_pos (by simp [hc])]
      exact Nat.le_succ_of_le (tl_le l)
    · rw [List.dropWhile_cons_of_neg (by simp [hc])]
      exact Nat.le_refl _
theorem tl_head : ∀ (l : List UInt8) (c : UInt8) (r : List UInt8), tl l = c :: r → c ≠ 48
  | [], _, _, h => by simp [tl] at h
  | a :: l, c, r, h => by
    unfold tl at h
    by_cases hc : a = 48
    · rw [List.dropWhile_cons_of_pos (by simp [hc])] at h
      exact tl_head l c r h
    · rw [List.dropWhile_cons_of_neg (by simp [hc])] at h
      rw [← (List.cons.inj h).1]
      exact hc

/-- a list that opens with no zero -/
def Led (l : List UInt8) : Prop := ∃ c r, l = c :: r ∧ c ≠ 48
theorem led_tl (l : List UInt8) (h : tl l ≠ []) : Led (tl l) := by
  cases hl : tl l with
  | nil => exact absurd hl h
  | cons c r => exact ⟨c, r, rfl, tl_head l c r hl⟩
theorem led_val {l : List UInt8} (h : Led l) (hd : allDig l = true) : 10 ^ (l.length - 1) ≤ val l := by
  obtain ⟨c, r, rfl, hc⟩ := h
  rw [allDig_cons, Bool.and_eq_true] at hd
  have h1 : 1 ≤ dv c := by
    have := hd.1
    unfold dig at this
    unfold dv
    simp at this
    have h48 : c.toNat ≠ 48 := fun e => hc (UInt8.toNat_inj.1 e)
    omega
  rw [val_cons, List.length_cons, Nat.add_sub_cancel]
  have := Nat.mul_le_mul_right (10 ^ r.length) h1
  omega
theorem led_pos {l : List UInt8} (h : Led l) (hd : allDig l = true) : 0 < val l := Nat.lt_of_lt_of_le (Nat.pow_pos (by decide)) (led_val h hd)
theorem tl_nil_iff (l : List UInt8) (hd : allDig l = true) : tl l = [] ↔ val l = 0 := by
  constructor
  · intro h
    rw [← val_tl, h]; rfl
  · intro h
    cases hl : tl l with
    | nil => rfl
    | cons c r =>
      have h1 := led_pos (led_tl l (by rw [hl]; simp)) (allDig_tl l hd)
      rw [val_tl] at h1
      omega

/-- N times ten to the x is the whole number m -/
def Eqv (N : Nat) (x : Int) (m : Nat) : Prop := (0 ≤ x ∧ m = N * 10 ^ x.toNat) ∨ (x < 0 ∧ N = m * 10 ^ (-x).toNat)

/-- the answer (n, ok) for N times ten to the x, with the sign -/
def SpecRel (N : Nat) (x : Int) (neg : Bool) (n : Int) (ok : Bool) : Prop :=
  (N = 0 ∧ n = 0 ∧ ok = true) ∨ (0 < N ∧ neg = true ∧ n = 0 ∧ ok = false) ∨
  (0 < N ∧ neg = false ∧ ok = true ∧ ∃ m : Nat, n = m ∧ m ≤ 10000 ∧ Eqv N x m) ∨
  (0 < N ∧ neg = false ∧ ok = false ∧ n = 0 ∧ ∀ m : Nat, m ≤ 10000 → ¬ Eqv N x m)

theorem eqv_one {N : Nat} {x : Int} {m m' : Nat} (h : Eqv N x m) (h' : Eqv N x m') : m = m' := by
  rcases h with ⟨a, b⟩ | ⟨a, b⟩ <;> rcases h' with ⟨a', b'⟩ | ⟨a', b'⟩
  · rw [b, b']
  · omega
  · omega
  · have : m * 10 ^ (-x).toNat = m' * 10 ^ (-x).toNat := by rw [← b, ← b']
    exact Nat.eq_of_mul_eq_mul_right (Nat.pow_pos (by decide)) this

/-- the answer is one -/
theorem spec_one {N : Nat} {x : Int} {neg : Bool} {n n' : Int} {ok ok' : Bool} (h : SpecRel N x neg n ok) (h' : SpecRel N x neg n' ok') : n = n' ∧ ok = ok' := by
  rcases h with ⟨a, b, c⟩ | ⟨a, b, c, d⟩ | ⟨a, b, c, m, d, e, f⟩ | ⟨a, b, c, d, e⟩
  · rcases h' with ⟨a', b', c'⟩ | ⟨a', _⟩ | ⟨a', _⟩ | ⟨a', _⟩
    · exact ⟨by rw [b, b'], by rw [c, c']⟩
    · omega
    · omega
    · omega
  · rcases h' with ⟨a', b', c'⟩ | ⟨a', b', c', d'⟩ | ⟨a', b', _⟩ | ⟨a', b', _⟩
    · omega
    · exact ⟨by rw [c, c'], by rw [d, d']⟩
    · rw [b] at b'; cases b'
    · rw [b] at b'; cases b'
  · rcases h' with ⟨a', b', c'⟩ | ⟨a', b', c', d'⟩ | ⟨a', b', c', m', d', e', f'⟩ | ⟨a', b', c', d', e'⟩
    · omega
    · rw [b] at b'; cases b'
    · exact ⟨by rw [d, d', eqv_one f f'], by rw [c, c']⟩
    · exact absurd f (e' m e)
  · rcases h' with ⟨a', b', c'⟩ | ⟨a', b', c', d'⟩ | ⟨a', b', c', m', d', e', f'⟩ | ⟨a', b', c', d', e'⟩
    · omega
    · rw [b] at b'; cases b'
    · exact absurd f' (e m' e')
    · exact ⟨by rw [d, d'], by rw [c, c']⟩

/-- far beyond: nothing up to 10000 -/
theorem far_up {N : Nat} {x : Int} (hN : 0 < N) (hx : 5 ≤ x) : ∀ m : Nat, m ≤ 10000 → ¬ Eqv N x m := by
  rintro m hm (⟨_, b⟩ | ⟨a, _⟩)
  · have h1 : 10 ^ 5 ≤ 10 ^ x.toNat := Nat.pow_le_pow_right (by decide) (by omega)
    have h2 : 1 * 10 ^ x.toNat ≤ N * 10 ^ x.toNat := Nat.mul_le_mul_right _ hN
    have h3 : (10 : Nat) ^ 5 = 100000 := by decide
    omega
  · omega
theorem far_down {N k : Nat} {x : Int} (hN : 0 < N) (hk : N < 10 ^ k) (hx : x ≤ -(k : Int)) (hx0 : x < 0) : ∀ m : Nat, m ≤ 10000 → ¬ Eqv N x m := by
  rintro m hm (⟨a, _⟩ | ⟨_, b⟩)
  · omega
  · have h1 : 10 ^ k ≤ 10 ^ (-x).toNat := Nat.pow_le_pow_right (by decide) (by omega)
    rcases Nat.eq_zero_or_pos m with h0 | h0
    · rw [h0, Nat.zero_mul] at b; omega
    · have h2 : 1 * 10 ^ (-x).toNat ≤ m * 10 ^ (-x).toNat := Nat.mul_le_mul_right _ h0
      omega

/-- behind the loop that strips zeros: D = D' and k zeros, the shift s raised by k -/
def Strip (D : List UInt8) (s : Int) (D' : List UInt8) (s' : Int) : Prop :=
  ∃ k : Nat, D = D' ++ List.replicate k 48 ∧ s' = s + k ∧ (0 < k → s' ≤ 0)
theorem strip_zero (D : List UInt8) (s : Int) : Strip D s D s := ⟨0, by simp, by simp, fun h => absurd h (Nat.lt_irrefl _)⟩
theorem strip_step {D : List UInt8} {s : Int} {D1 : List UInt8} {s1 : Int} (h : Strip D s (D1 ++ [48]) s1) (hs : s1 < 0) : Strip D s D1 (s1 + 1) := by
  obtain ⟨k, h1, h2, h3⟩ := h
  refine ⟨k + 1, ?_, ?_, fun _ => by omega⟩
  · rw [h1, List.append_assoc, List.replicate_succ]; rfl
  · rw [h2]; simp; omega
theorem val_zeros (k : Nat) : val (List.replicate k 48) = 0 := by
  induction k with
  | zero => rfl
  | succ k ih => rw [List.replicate_succ, val_cons, dv48, ih]; simp
theorem val_pad (D : List UInt8) (k : Nat) : val (D ++ List.replicate k 48) = val D * 10 ^ k := by
  rw [val_append, val_zeros, List.length_replicate]; rfl
theorem allDig_zeros (k : Nat) : allDig (List.replicate k 48) = true := by
  induction k with
  | zero => rfl
  | succ k ih => rw [List.replicate_succ, allDig_cons, ih]; rfl
theorem led_strip {D D' : List UInt8} {s s' : Int} (h : Strip D s D' s') (hD : Led D) (hd : allDig D = true) : Led D' ∧ allDig D' = true := by
  obtain ⟨k, h1, h2, h3⟩ := h
  have hd' : allDig D' = true := by
    rw [h1, allDig_append, Bool.and_eq_true] at hd
    exact hd.1
  refine ⟨?_, hd'⟩
  obtain ⟨c, r, e, hc⟩ := hD
  cases hD' : D' with
  | nil =>
    rw [hD', List.nil_append] at h1
    have h5 := led_pos ⟨c, r, e, hc⟩ hd
    rw [h1, val_zeros] at h5
    omega
  | cons c' r' =>
    rw [hD', e] at h1
    have := (List.cons.inj h1).1
    exact ⟨c', r', rfl, by rw [← this]; exact hc⟩

/-- out of range behind the loop -/
theorem end_low {D D' : List UInt8} {s s' : Int} (h : Strip D s D' s') (hD : Led D) (hd : allDig D = true) (hs : s' < 0) (hl : ∀ r, D' ≠ r ++ [48]) : SpecRel (val D) s false 0 false := by
  have hN := led_pos hD hd
  obtain ⟨l1, l2⟩ := led_strip h hD hd
  obtain ⟨k, h1, h2, h3⟩ := h
  refine .inr (.inr (.inr ⟨hN, rfl, rfl, rfl, ?_⟩))
  rintro m hm (⟨a, _⟩ | ⟨_, b⟩)
  · omega
  · rw [h1, val_pad] at b
    obtain ⟨t, ht⟩ : ∃ t : Nat, (-s).toNat = t + 1 + k := ⟨(-s).toNat - k - 1, by omega⟩
    rw [ht, Nat.pow_add, ← Nat.mul_assoc] at b
    have b2 := Nat.eq_of_mul_eq_mul_right (Nat.pow_pos (by decide)) b
    rw [Nat.pow_succ, ← Nat.mul_assoc] at b2
    obtain ⟨c, r, e, hc⟩ := l1
    have hne : D' ≠ [] := by rw [e]; simp
    have h4 := (List.dropLast_concat_getLast hne).symm
    have h5 := l2
    rw [h4, allDig_append, Bool.and_eq_true] at h5
    have h6 : dig (D'.getLast hne) = true := by simpa [allDig] using h5.2
    rw [h4, val_snoc] at b2
    have h7 := dv_lt h6
    have h8 : dv (D'.getLast hne) = 0 := by omega
    refine hl D'.dropLast ?_
    have h9 : D'.getLast hne = 48 := by
      unfold dv at h8
      unfold dig at h6
      simp at h6
      exact UInt8.toNat_inj.1 (by show _ = 48; omega)
    rw [h9] at h4
    exact h4

theorem eqv_strip {D D' : List UInt8} {s s' : Int} (h : Strip D s D' s') (hs : 0 ≤ s') : Eqv (val D) s (val D' * 10 ^ s'.toNat) := by
  obtain ⟨k, h1, h2, h3⟩ := h
  rcases Nat.eq_zero_or_pos k with h0 | h0
  · subst h0
    left
    refine ⟨by omega, ?_⟩
    rw [h1]
    simp at h2
    rw [h2]; simp
  · have h4 := h3 h0
    right
    refine ⟨by omega, ?_⟩
    rw [h1, val_pad, show s'.toNat = 0 by omega, show (-s).toNat = k by omega, Nat.pow_zero, Nat.mul_one]

theorem end_high {D D' : List UInt8} {s s' : Int} (h : Strip D s D' s') (hD : Led D) (hd : allDig D = true) (hs : 0 ≤ s') (hl : 5 < (D'.length : Int) + s') : SpecRel (val D) s false 0 false := by
  have hN := led_pos hD hd
  obtain ⟨l1, l2⟩ := led_strip h hD hd
  have h1 := eqv_strip h hs
  refine .inr (.inr (.inr ⟨hN, rfl, rfl, rfl, ?_⟩))
  intro m hm he
  have := eqv_one h1 he
  have h2 := led_val l1 l2
  have h3 : 10 ^ (D'.length - 1) * 10 ^ s'.toNat ≤ val D' * 10 ^ s'.toNat := Nat.mul_le_mul_right _ h2
  rw [← Nat.pow_add] at h3
  have h4 : 0 < D'.length := by obtain ⟨c, r, rfl, _⟩ := l1; simp
  have h5 : 10 ^ 5 ≤ 10 ^ (D'.length - 1 + s'.toNat) := Nat.pow_le_pow_right (by decide) (by omega)
  have h6 : (10 : Nat) ^ 5 = 100000 := by decide
  omega

theorem end_mid {D D' : List UInt8} {s s' : Int} (h : Strip D s D' s') (hD : Led D) (hd : allDig D = true) (hs : 0 ≤ s') :
    (val (D' ++ List.replicate s'.toNat 48) ≤ 10000 → SpecRel (val D) s false (val (D' ++ List.replicate s'.toNat 48)) true) ∧
    (¬ val (D' ++ List.replicate s'.toNat 48) ≤ 10000 → SpecRel (val D) s false 0 false) := by
  have hN := led_pos hD hd
  have h1 := eqv_strip h hs
  rw [val_pad]
  constructor
  · intro hle
    exact .inr (.inr (.inl ⟨hN, rfl, rfl, _, rfl, hle, h1⟩))
  · intro hle
    refine .inr (.inr (.inr ⟨hN, rfl, rfl, rfl, ?_⟩))
    intro m hm he
    have := eqv_one h1 he
    omega

end Pc
end Go.Proofs.Qxb6600740aDoor
