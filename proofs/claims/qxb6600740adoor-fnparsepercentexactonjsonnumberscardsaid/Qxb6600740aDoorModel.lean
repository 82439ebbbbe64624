/-
  Plain lists of bytes: a number's text read from left to right, its pieces by their places; the sum by place values. No Go in sight.
-/
import Derived.Test.Qxb6600740aDoorText
namespace Go.Proofs.Qxb6600740aDoor
namespace Pc

def nb (l : List UInt8) (k : Nat) : Int := ((l.getD k 0).toNat : Int)
theorem nb_lo (l : List UInt8) (k : Nat) : 0 ≤ nb l k := by unfold nb; omega
theorem nb_hi (l : List UInt8) (k : Nat) : nb l k ≤ 255 := by
  unfold nb
  have := (l.getD k 0).toNat_lt
  omega
/-- digits from a to b -/
def Dg (l : List UInt8) (a b : Nat) : Prop := ∀ j, a ≤ j → j < b → 48 ≤ nb l j ∧ nb l j ≤ 57
theorem dg_nil (l : List UInt8) (a : Nat) : Dg l a a := fun j h1 h2 => by omega
theorem dg_snoc {l : List UInt8} {a b : Nat} (h : Dg l a b) (h1 : 48 ≤ nb l b) (h2 : nb l b ≤ 57) : Dg l a (b + 1) := fun j ha hb => by
  rcases Nat.lt_or_ge j b with h3 | h3
  · exact h j ha h3
  · rw [show j = b by omega]; exact ⟨h1, h2⟩

/-- the piece from a to b -/
def sl (l : List UInt8) (a b : Nat) : List UInt8 := (l.drop a).take (b - a)
theorem sl_len (l : List UInt8) (a b : Nat) (h1 : a ≤ b) (h2 : b ≤ l.length) : (sl l a b).length = b - a := by
  unfold sl; rw [List.length_take, List.length_drop]; omega
theorem sl_nil (l : List UInt8) (a : Nat) : sl l a a = [] := by unfold sl; simp
theorem sl_all (l : List UInt8) : sl l 0 l.length = l := by unfold sl; simp
theorem sl_snoc (l : List UInt8) (a b : Nat) (h1 : a ≤ b) (h2 : b < l.length) : sl l a (b + 1) = sl l a b ++ [l.getD b 0] := by
  unfold sl
  rw [show b + 1 - a = b - a + 1 by omega, List.take_succ_eq_append_getElem (by rw [List.length_drop]; omega), List.getElem_drop]
  rw [List.getD_eq_getElem?_getD, List.getElem?_eq_getElem h2]
  simp [show a + (b - a) = b by omega]
theorem sl_one (l : List UInt8) (a : Nat) (h2 : a < l.length) : sl l a (a + 1) = [l.getD a 0] := by
  rw [sl_snoc l a a (Nat.le_refl _) h2, sl_nil]; rfl
theorem sl_join (l : List UInt8) (a : Nat) : ∀ (c b : Nat), a ≤ b → b ≤ c → c ≤ l.length → sl l a b ++ sl l b c = sl l a c
  | 0, b, h1, h2, _ => by
    obtain rfl : b = 0 := by omega
    rw [sl_nil, List.append_nil]
  | c + 1, b, h1, h2, h3 => by
    rcases Nat.lt_or_ge b (c + 1) with h | h
    · rw [sl_snoc l b c (by omega) (by omega), ← List.append_assoc, sl_join l a c b h1 (by omega) (by omega), sl_snoc l a c (by omega) (by omega)]
    · obtain rfl : b = c + 1 := by omega
      rw [sl_nil, List.append_nil]
theorem getD_of_nb {l : List UInt8} {k : Nat} {c : UInt8} (h : nb l k = (c.toNat : Int)) : l.getD k 0 = c := by
  unfold nb at h
  exact UInt8.toNat_inj.1 (by omega)
theorem sl_dig {l : List UInt8} {a : Nat} : ∀ {b : Nat}, a ≤ b → b ≤ l.length → Dg l a b → allDig (sl l a b) = true
  | 0, h1, _, _ => by
    obtain rfl : a = 0 := by omega
    rw [sl_nil]; rfl
  | b + 1, h1, h2, h => by
    rcases Nat.lt_or_ge a (b + 1) with h3 | h3
    · rw [sl_snoc l a b (by omega) (by omega), allDig_append, sl_dig (by omega) (by omega) (fun j x y => h j x (by omega)), Bool.true_and]
      have := h b (by omega) (by omega)
      unfold nb at this
      unfold allDig dig
      simp only [List.all_cons, List.all_nil, Bool.and_true, Bool.and_eq_true, decide_eq_true_eq]
      omega
    · obtain rfl : a = b + 1 := by omega
      rw [sl_nil]; rfl

/-- what the sign's test leaves -/
def SignOK (l : List UInt8) (neg : Bool) (a : Nat) : Prop := (neg = true ∧ a = 1 ∧ 0 < l.length ∧ nb l 0 = 45) ∨ (neg = false ∧ a = 0)
theorem sign_sl {l : List UInt8} {neg : Bool} {a : Nat} (h : SignOK l neg a) : sl l 0 a = sg neg ∧ a ≤ l.length := by
  rcases h with ⟨rfl, rfl, h1, h2⟩ | ⟨rfl, rfl⟩
  · refine ⟨?_, h1⟩
    rw [sl_one l 0 h1, getD_of_nb (c := 45) h2]; rfl
  · exact ⟨sl_nil _ _, by omega⟩
/-- the point and its digits, behind b -/
def FracOK (l : List UInt8) (b : Nat) (dot : Bool) (fs fe : Nat) : Prop :=
  (dot = false ∧ fs = b ∧ fe = b) ∨ (dot = true ∧ nb l b = 46 ∧ fs = b + 1 ∧ fs < fe ∧ fe ≤ l.length ∧ Dg l fs fe)
theorem frac_sl {l : List UInt8} {b : Nat} {dot : Bool} {fs fe : Nat} (h : FracOK l b dot fs fe) (hb : b ≤ l.length) : sl l b fe = dp dot (sl l fs fe) ∧ b ≤ fe ∧ fe ≤ l.length ∧ allDig (sl l fs fe) = true ∧ (dot = false → sl l fs fe = []) := by
  rcases h with ⟨rfl, rfl, rfl⟩ | ⟨rfl, h1, rfl, h3, h4, h5⟩
  · rw [sl_nil]; exact ⟨rfl, Nat.le_refl _, hb, rfl, fun _ => rfl⟩
  · refine ⟨?_, by omega, h4, sl_dig (by omega) h4 h5, fun h => by cases h⟩
    rw [← sl_join l b fe (b + 1) (by omega) (by omega) h4, sl_one l b (by omega), getD_of_nb (c := 46) h1]; rfl
/-- the exponent, behind fe, up to the end -/
def ExpOK (l : List UInt8) (fe : Nat) (hasE eneg : Bool) (es : Nat) : Prop :=
  (hasE = false ∧ fe = l.length) ∨
  (hasE = true ∧ fe < l.length ∧ (nb l fe = 101 ∨ nb l fe = 69) ∧ es < l.length ∧ Dg l es l.length ∧
    ((es = fe + 1 ∧ eneg = false) ∨ (es = fe + 2 ∧ nb l (fe + 1) = 43 ∧ eneg = false) ∨ (es = fe + 2 ∧ nb l (fe + 1) = 45 ∧ eneg = true)))
def expVal (l : List UInt8) (hasE eneg : Bool) (es : Nat) : Int := if hasE then (if eneg then -(val (sl l es l.length) : Int) else (val (sl l es l.length) : Int)) else 0

theorem shape_of {l : List UInt8} {neg dot hasE eneg : Bool} {a b fs fe es : Nat} (h1 : SignOK l neg a) (hab : a ≤ b) (hb : b ≤ l.length) (hd : Dg l a b)
    (h2 : FracOK l b dot fs fe) (h3 : ExpOK l fe hasE eneg es) : ∃ c t, Shape l neg (sl l a b) (sl l fs fe) dot hasE c t (expVal l hasE eneg es) := by
  obtain ⟨s1, s2⟩ := sign_sl h1
  obtain ⟨f1, f2, f3, f4, f5⟩ := frac_sl h2 hb
  have e0 : l = sg neg ++ (sl l a b ++ (dp dot (sl l fs fe) ++ sl l fe l.length)) := by
    rw [← s1, ← f1, sl_join l b l.length fe f2 f3 (Nat.le_refl _), sl_join l a l.length b hab hb (Nat.le_refl _), sl_join l 0 l.length a (Nat.zero_le _) s2 (Nat.le_refl _), sl_all]
  rcases h3 with ⟨rfl, h4⟩ | ⟨rfl, h4, h5, h6, h7, h8⟩
  · refine ⟨101, [], ⟨?_, sl_dig hab hb hd, f4, f5, .inl rfl, (fun h => by cases h), fun _ => rfl⟩⟩
    conv => lhs; rw [e0]
    rw [← h4, sl_nil]
    simp [mant, body, ep]
  · have hc : l.getD fe 0 = 101 ∨ l.getD fe 0 = 69 := h5.imp (fun h => getD_of_nb (c := 101) h) (fun h => getD_of_nb (c := 69) h)
    have ht : sl l fe l.length = l.getD fe 0 :: sl l (fe + 1) l.length := by
      rw [← sl_join l fe l.length (fe + 1) (by omega) (by omega) (Nat.le_refl _), sl_one l fe h4]; rfl
    refine ⟨l.getD fe 0, sl l (fe + 1) l.length, ⟨?_, sl_dig hab hb hd, f4, f5, hc, fun _ => ?_, (fun h => by cases h)⟩⟩
    · conv => lhs; rw [e0]
      rw [ht]
      simp [mant, body, ep]
    · have hds := sl_dig (Nat.le_of_lt h6) (Nat.le_refl _) h7
      have hne : sl l es l.length ≠ [] := by
        intro h
        have := congrArg List.length h
        rw [sl_len l es l.length (by omega) (Nat.le_refl _), List.length_nil] at this
        omega
      refine ⟨sl l es l.length, hds, hne, ?_⟩
      rcases h8 with ⟨rfl, rfl⟩ | ⟨rfl, h9, rfl⟩ | ⟨rfl, h9, rfl⟩
      · exact .inl ⟨rfl, rfl⟩
      · refine .inr (.inl ⟨?_, rfl⟩)
        rw [← sl_join l (fe + 1) l.length (fe + 1 + 1) (by omega) (by omega) (Nat.le_refl _), sl_one l (fe + 1) (by omega), getD_of_nb (c := 43) h9]; rfl
      · refine .inr (.inr ⟨?_, rfl⟩)
        rw [← sl_join l (fe + 1) l.length (fe + 1 + 1) (by omega) (by omega) (Nat.le_refl _), sl_one l (fe + 1) (by omega), getD_of_nb (c := 45) h9]; rfl

/-- a digit that is not zero and lies out of the places 0 to 4 -/
def Bad (Q : List UInt8) (y : Int) : Prop := ∃ Q1 c Q2, Q = Q1 ++ c :: Q2 ∧ dv c ≠ 0 ∧ ((Q2.length : Int) + y < 0 ∨ 4 < (Q2.length : Int) + y)
theorem bad_snoc {Q : List UInt8} {y : Int} (h : Bad Q y) (d : UInt8) : Bad (Q ++ [d]) (y - 1) := by
  obtain ⟨Q1, c, Q2, rfl, h1, h2⟩ := h
  refine ⟨Q1, c, Q2 ++ [d], by simp, h1, ?_⟩
  rw [List.length_append, List.length_singleton]
  omega
theorem bad_new {Q : List UInt8} {y : Int} (d : UInt8) (hd : dv d ≠ 0) (h : y - 1 < 0 ∨ 4 < y - 1) : Bad (Q ++ [d]) (y - 1) :=
  ⟨Q, d, [], rfl, hd, by simpa using h⟩

theorem bad_none {Q : List UInt8} {x : Int} (hQ : allDig Q = true) (h : Bad Q x) : 0 < val Q ∧ ∀ m : Nat, m ≤ 10000 → ¬ Eqv (val Q) x m := by
  obtain ⟨Q1, c, Q2, rfl, h1, h2⟩ := h
  rw [allDig_append, allDig_cons, Bool.and_eq_true, Bool.and_eq_true] at hQ
  obtain ⟨d1, d2, d3⟩ := hQ
  have hv : val (Q1 ++ c :: Q2) = val Q1 * 10 ^ (Q2.length + 1) + (dv c * 10 ^ Q2.length + val Q2) := by
    rw [val_append, val_cons, List.length_cons]
  have hc := dv_lt d2
  have hlt := val_lt Q2 d3
  have hp : 0 < 10 ^ Q2.length := Nat.pow_pos (by decide)
  have hge : 10 ^ Q2.length ≤ dv c * 10 ^ Q2.length := by
    have : 1 * 10 ^ Q2.length ≤ dv c * 10 ^ Q2.length := Nat.mul_le_mul_right _ (by omega)
    omega
  refine ⟨by rw [hv]; omega, ?_⟩
  rintro m hm (⟨a, b⟩ | ⟨a, b⟩)
  · rcases h2 with h2 | h2
    · omega
    · have h5 : 10 ^ 5 ≤ 10 ^ (Q2.length + x.toNat) := Nat.pow_le_pow_right (by decide) (by omega)
      have h6 : 10 ^ Q2.length * 10 ^ x.toNat ≤ val (Q1 ++ c :: Q2) * 10 ^ x.toNat := Nat.mul_le_mul_right _ (by rw [hv]; omega)
      rw [← Nat.pow_add] at h6
      have h7 : (10 : Nat) ^ 5 = 100000 := by decide
      omega
  · rcases h2 with h2 | h2
    · -- the digit lies below the point: N is no multiple
      obtain ⟨u, hu⟩ : ∃ u : Nat, (-x).toNat = Q2.length + 1 + u := ⟨(-x).toNat - Q2.length - 1, by omega⟩
      rw [hu, Nat.pow_add, ← Nat.mul_assoc] at b
      rw [hv] at b
      have hmod : (val Q1 * 10 ^ (Q2.length + 1) + (dv c * 10 ^ Q2.length + val Q2)) % 10 ^ (Q2.length + 1) = (m * 10 ^ (Q2.length + 1) * 10 ^ u) % 10 ^ (Q2.length + 1) := by rw [b]
      rw [Nat.mul_add_mod_self_right, Nat.mul_right_comm, Nat.mul_mod_left] at hmod
      have hsm : dv c * 10 ^ Q2.length + val Q2 < 10 ^ (Q2.length + 1) := by
        rw [Nat.pow_succ]
        have : dv c * 10 ^ Q2.length ≤ 9 * 10 ^ Q2.length := Nat.mul_le_mul_right _ (by omega)
        omega
      rw [Nat.mod_eq_of_lt hsm] at hmod
      omega
    · -- far above
      have h5 : Q2.length ≥ 5 + (-x).toNat := by omega
      obtain ⟨u, hu⟩ : ∃ u : Nat, Q2.length = 5 + (-x).toNat + u := ⟨Q2.length - 5 - (-x).toNat, by omega⟩
      have h6 : 10 ^ (5 + (-x).toNat) ≤ 10 ^ Q2.length := Nat.pow_le_pow_right (by decide) (by omega)
      rw [Nat.pow_add] at h6
      have h7 : m * 10 ^ (-x).toNat ≤ 10000 * 10 ^ (-x).toNat := Nat.mul_le_mul_right _ hm
      have h8 : (10 : Nat) ^ 5 = 100000 := by decide
      rw [h8] at h6
      have h9 : 0 < 10 ^ (-x).toNat := Nat.pow_pos (by decide)
      rw [hv] at b
      omega

theorem eqv_zero {N : Nat} {y : Int} {s : Nat} (h : Eqv N y s) : Eqv (N * 10 + 0) (y - 1) s := by
  rw [Nat.add_zero]
  rcases h with ⟨a, b⟩ | ⟨a, b⟩
  · rcases Int.lt_or_le y 1 with h1 | h1
    · right
      refine ⟨by omega, ?_⟩
      rw [b, show y.toNat = 0 by omega, show (-(y - 1)).toNat = 1 by omega]
      simp
    · left
      refine ⟨by omega, ?_⟩
      obtain ⟨u, hu⟩ : ∃ u : Nat, y.toNat = u + 1 := ⟨y.toNat - 1, by omega⟩
      rw [b, hu, show (y - 1).toNat = u by omega, Nat.pow_succ, Nat.mul_assoc, Nat.mul_comm 10]
  · right
    refine ⟨by omega, ?_⟩
    rw [b, show (-(y - 1)).toNat = (-y).toNat + 1 by omega, Nat.pow_succ, Nat.mul_assoc]
theorem eqv_digit {N : Nat} {y : Int} {s : Nat} (d : Nat) (h : Eqv N y s) (h0 : 0 ≤ y - 1) : Eqv (N * 10 + d) (y - 1) (s + d * 10 ^ (y - 1).toNat) := by
  rcases h with ⟨a, b⟩ | ⟨a, b⟩
  · left
    refine ⟨h0, ?_⟩
    obtain ⟨u, hu⟩ : ∃ u : Nat, y.toNat = u + 1 := ⟨y.toNat - 1, by omega⟩
    rw [b, hu, show (y - 1).toNat = u by omega, Nat.pow_succ, Nat.add_mul, Nat.mul_assoc, Nat.mul_comm 10]
  · omega

/-- the state of the two summing loops: behind the digits Q, the place y -/
def SumOK (Q : List UInt8) (y : Int) (s : Nat) (nz out : Bool) : Prop :=
  nz = decide (val Q ≠ 0) ∧ s ≤ Q.length * 90000 ∧ (out = false → Eqv (val Q) y s) ∧ (out = true → Bad Q y)
theorem sum_bd {Q : List UInt8} {s : Nat} {d : UInt8} (h : s ≤ Q.length * 90000) : s ≤ (Q ++ [d]).length * 90000 :=
  Nat.le_trans h (Nat.mul_le_mul_right _ (by rw [List.length_append]; omega))
theorem sum_zero (y : Int) : SumOK [] y 0 false false := by
  refine ⟨rfl, by simp, fun _ => ?_, fun h => by cases h⟩
  rcases Int.lt_or_le y 0 with h | h
  · exact .inr ⟨h, by simp [val]⟩
  · exact .inl ⟨h, by simp [val]⟩
theorem sum_skip {Q : List UInt8} {y : Int} {s : Nat} {nz out : Bool} (h : SumOK Q y s nz out) (d : UInt8) (hd : dv d = 0) : SumOK (Q ++ [d]) (y - 1) s nz out := by
  obtain ⟨h1, h2, h3, h4⟩ := h
  refine ⟨?_, sum_bd h2, fun ho => ?_, fun ho => bad_snoc (h4 ho) d⟩
  · rw [h1, val_snoc, hd, decide_eq_decide]; omega
  · rw [val_snoc, hd]; exact eqv_zero (h3 ho)
theorem sum_out {Q : List UInt8} {y : Int} {s : Nat} {nz out : Bool} (h : SumOK Q y s nz out) (d : UInt8) (hd : dv d ≠ 0) (hp : y - 1 < 0 ∨ 4 < y - 1) : SumOK (Q ++ [d]) (y - 1) s true true := by
  obtain ⟨h1, h2, h3, h4⟩ := h
  refine ⟨?_, sum_bd h2, (fun ho => by cases ho), fun _ => bad_new d hd hp⟩
  rw [val_snoc, eq_comm, decide_eq_true_eq]; omega
theorem sum_in {Q : List UInt8} {y : Int} {s : Nat} {nz out : Bool} (h : SumOK Q y s nz out) (d : UInt8) (hd : dv d ≠ 0) (hd9 : dv d ≤ 9) (hp : 0 ≤ y - 1) (hp4 : y - 1 ≤ 4) : SumOK (Q ++ [d]) (y - 1) (s + dv d * 10 ^ (y - 1).toNat) true out := by
  obtain ⟨h1, h2, h3, h4⟩ := h
  have hb : dv d * 10 ^ (y - 1).toNat ≤ 90000 := by
    have h5 : 10 ^ (y - 1).toNat ≤ 10 ^ 4 := Nat.pow_le_pow_right (by decide) (by omega)
    have h6 := Nat.mul_le_mul hd9 h5
    have h7 : (10 : Nat) ^ 4 = 10000 := by decide
    omega
  refine ⟨?_, (by rw [List.length_append, List.length_singleton, Nat.add_mul, Nat.one_mul]; exact Nat.add_le_add h2 hb), fun ho => ?_, fun ho => bad_snoc (h4 ho) d⟩
  · rw [val_snoc, eq_comm, decide_eq_true_eq]; omega
  · rw [val_snoc]; exact eqv_digit (dv d) (h3 ho) hp

/-- the model's last lines -/
theorem sum_end {Q : List UInt8} {x : Int} {s : Nat} {nz out neg : Bool} (hQ : allDig Q = true) (h : SumOK Q x s nz out) :
    (nz = false → SpecRel (val Q) x neg 0 true) ∧ (nz = true → (neg = true ∨ out = true ∨ 10000 < s) → SpecRel (val Q) x neg 0 false) ∧
    (nz = true → neg = false → out = false → ¬ 10000 < s → SpecRel (val Q) x neg s true) := by
  obtain ⟨h1, h2, h3, h4⟩ := h
  refine ⟨fun hz => ?_, fun hz ho => ?_, fun hz hn ho hs => ?_⟩
  · rw [hz, eq_comm, decide_eq_false_iff_not] at h1
    exact .inl ⟨by omega, rfl, rfl⟩
  · rw [hz, eq_comm, decide_eq_true_eq] at h1
    have hp : 0 < val Q := by omega
    cases hneg : neg with
    | true => exact .inr (.inl ⟨hp, rfl, rfl, rfl⟩)
    | false =>
      refine .inr (.inr (.inr ⟨hp, rfl, rfl, rfl, ?_⟩))
      cases hout : out with
      | true => exact (bad_none hQ (h4 hout)).2
      | false =>
        intro m hm he
        have := eqv_one (h3 hout) he
        rcases ho with ho | ho | ho
        · rw [hneg] at ho; cases ho
        · rw [hout] at ho; cases ho
        · omega
  · rw [hz, eq_comm, decide_eq_true_eq] at h1
    exact .inr (.inr (.inl ⟨by omega, hn, rfl, s, rfl, by omega, h3 ho⟩))

/-- an exponent cut off far out answers as the true one -/
theorem spec_far {N k : Nat} {x x' : Int} {neg : Bool} {n : Int} {ok : Bool} (hk : N < 10 ^ k) (hx : (5 ≤ x ∧ 5 ≤ x') ∨ (x ≤ -(k : Int) ∧ x < 0 ∧ x' ≤ -(k : Int) ∧ x' < 0)) (h : SpecRel N x neg n ok) : SpecRel N x' neg n ok := by
  rcases h with h | h | ⟨a, b, c, m, d, e, f⟩ | ⟨a, b, c, d, e⟩
  · exact .inl h
  · exact .inr (.inl h)
  · exfalso
    rcases hx with ⟨h1, h2⟩ | ⟨h1, h2, h3, h4⟩
    · exact far_up a h1 m e f
    · exact far_down a hk h1 h2 m e f
  · refine .inr (.inr (.inr ⟨a, b, c, d, ?_⟩))
    rcases hx with ⟨h1, h2⟩ | ⟨h1, h2, h3, h4⟩
    · exact far_up a h2
    · exact far_down a hk h3 h4

/-- the exponent as the model keeps it: the value, or cut off from 10 to the 12 on -/
def Capped (v e : Nat) : Prop := v = e ∨ (1000000000000 ≤ e ∧ 1000000000000 ≤ v)
theorem cap_step {l : List UInt8} {e : Nat} (d : UInt8) (h : Capped (val l) e) (he : e < 1000000000000) : Capped (val (l ++ [d])) (e * 10 + dv d) := by
  rcases h with rfl | ⟨h1, _⟩
  · rw [val_snoc]; exact .inl rfl
  · omega
theorem cap_stay {l : List UInt8} {e : Nat} (d : UInt8) (h : Capped (val l) e) (he : ¬ e < 1000000000000) : Capped (val (l ++ [d])) e := by
  rw [val_snoc]
  rcases h with rfl | ⟨h1, h2⟩
  · exact .inr ⟨by omega, by omega⟩
  · exact .inr ⟨by omega, by omega⟩
end Pc
end Go.Proofs.Qxb6600740aDoor
