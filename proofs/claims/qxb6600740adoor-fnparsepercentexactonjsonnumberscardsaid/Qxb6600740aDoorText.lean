/-
  Plain lists of bytes: a number's text and its pieces; what the library's plain functions answer on them. No Go in sight.
-/
import Derived.Test.Qxb6600740aDoorNum
import Derived.Lib.IndexAny
import Derived.Lib.Bytealg
import Derived.Lib.Strings
import Derived.Lib.AtoiAll
namespace Go.Proofs.Qxb6600740aDoor
namespace Pc

def sg (neg : Bool) : List UInt8 := if neg then [45] else []
def dp (dot : Bool) (fr : List UInt8) : List UInt8 := if dot then 46 :: fr else []
def ep (hasE : Bool) (c : UInt8) (t : List UInt8) : List UInt8 := if hasE then c :: t else []
def body (ip : List UInt8) (dot : Bool) (fr : List UInt8) : List UInt8 := ip ++ dp dot fr
def mant (neg : Bool) (ip : List UInt8) (dot : Bool) (fr : List UInt8) : List UInt8 := sg neg ++ body ip dot fr

/-- an exponent's text and its value -/
def ExpT (t : List UInt8) (E : Int) : Prop :=
  ∃ ds, allDig ds = true ∧ ds ≠ [] ∧ ((t = ds ∧ E = (val ds : Int)) ∨ (t = 43 :: ds ∧ E = (val ds : Int)) ∨ (t = 45 :: ds ∧ E = -(val ds : Int)))

/-- a text that reads: sign, digits, a point and digits, an exponent -/
structure Shape (num : List UInt8) (neg : Bool) (ip fr : List UInt8) (dot hasE : Bool) (c : UInt8) (t : List UInt8) (E : Int) : Prop where
  eq : num = mant neg ip dot fr ++ ep hasE c t
  dip : allDig ip = true
  dfr : allDig fr = true
  nofr : dot = false → fr = []
  cE : c = 101 ∨ c = 69
  tE : hasE = true → ExpT t E
  noE : hasE = false → E = 0

theorem dig_mem {l : List UInt8} (h : allDig l = true) {b : UInt8} (hb : b ∈ l) : 48 ≤ b.toNat ∧ b.toNat ≤ 57 := by
  have := List.all_eq_true.1 h b hb
  unfold dig at this
  simpa using this

theorem mant_mem {neg dot : Bool} {ip fr : List UInt8} (h1 : allDig ip = true) (h2 : allDig fr = true) {b : UInt8} (hb : b ∈ mant neg ip dot fr) : b.toNat = 45 ∨ b.toNat = 46 ∨ (48 ≤ b.toNat ∧ b.toNat ≤ 57) := by
  unfold mant sg body dp at hb
  rw [List.mem_append, List.mem_append] at hb
  rcases hb with hb | hb | hb
  · split at hb
    · simp at hb; subst hb; exact .inl rfl
    · simp at hb
  · exact .inr (.inr (dig_mem h1 hb))
  · split at hb
    · rcases List.mem_cons.1 hb with rfl | hb
      · exact .inr (.inl rfl)
      · exact .inr (.inr (dig_mem h2 hb))
    · simp at hb

theorem any_skip (chars : List UInt8) : ∀ (m r : List UInt8), (∀ b ∈ m, chars.contains b = false) → Lib.indexAny (m ++ r) chars = if Lib.indexAny r chars == -1 then -1 else Lib.indexAny r chars + m.length
  | [], r, _ => by
    simp only [List.nil_append, List.length_nil]
    split
    · rename_i h; simpa using h
    · simp
  | b :: m, r, h => by
    have ih := any_skip chars m r (fun x hx => h x (by simp [hx]))
    have hg := Lib.indexAny_ge chars r
    rw [List.cons_append, Lib.indexAny, if_neg (by rw [h b (by simp)]; simp), ih]
    by_cases h0 : Lib.indexAny r chars = -1
    · simp [h0]
    · have hne : (Lib.indexAny r chars == -1) = false := by simp [h0]
      rw [hne]
      simp only [Bool.false_eq_true, if_false, List.length_cons]
      rw [if_neg (by simp; omega)]
      omega

theorem byte_skip (c : UInt8) : ∀ (m r : List UInt8), (∀ b ∈ m, b ≠ c) → Lib.indexByte (m ++ r) c = if Lib.indexByte r c == -1 then -1 else Lib.indexByte r c + m.length
  | [], r, _ => by
    simp only [List.nil_append, List.length_nil]
    split
    · rename_i h; simpa using h
    · simp
  | b :: m, r, h => by
    have ih := byte_skip c m r (fun x hx => h x (by simp [hx]))
    have hg := Lib.indexByte_ge r c
    rw [List.cons_append, Lib.indexByte, if_neg (by simpa using h b (by simp)), ih]
    by_cases h0 : Lib.indexByte r c = -1
    · simp [h0]
    · have hne : (Lib.indexByte r c == -1) = false := by simp [h0]
      rw [hne]
      simp only [Bool.false_eq_true, if_false, List.length_cons]
      rw [if_neg (by simp; omega)]
      omega

theorem u8_ne {b c : UInt8} (h : b.toNat ≠ c.toNat) : b ≠ c := fun e => h (by rw [e])

/-- strings.IndexAny(num, "eE") -/
theorem any_num {num : List UInt8} {neg : Bool} {ip fr : List UInt8} {dot hasE : Bool} {c : UInt8} {t : List UInt8} {E : Int} (h : Shape num neg ip fr dot hasE c t E) :
    Lib.indexAny num [101, 69] = if hasE then ((mant neg ip dot fr).length : Int) else -1 := by
  rw [h.eq, any_skip]
  · cases hasE with
    | true =>
      have hc : ([101, 69] : List UInt8).contains c = true := by
        rcases h.cE with rfl | rfl <;> decide
      have h0 : Lib.indexAny (c :: t) [101, 69] = 0 := by rw [Lib.indexAny, if_pos hc]
      unfold ep
      simp [h0]
    | false =>
      unfold ep
      simp [Lib.indexAny]
  · intro b hb
    have h1 := mant_mem h.dip h.dfr hb
    have h2 : b ≠ 101 := u8_ne (by show b.toNat ≠ 101; omega)
    have h3 : b ≠ 69 := u8_ne (by show b.toNat ≠ 69; omega)
    simp [h2, h3]

theorem exp_mem {t : List UInt8} {E : Int} (h : ExpT t E) {b : UInt8} (hb : b ∈ t) : b.toNat < 128 := by
  obtain ⟨ds, hd, _, h⟩ := h
  rcases h with ⟨rfl, _⟩ | ⟨rfl, _⟩ | ⟨rfl, _⟩
  · have := dig_mem hd hb; omega
  · rcases List.mem_cons.1 hb with rfl | hb
    · decide
    · have := dig_mem hd hb; omega
  · rcases List.mem_cons.1 hb with rfl | hb
    · decide
    · have := dig_mem hd hb; omega

theorem ascii_num {num : List UInt8} {neg : Bool} {ip fr : List UInt8} {dot hasE : Bool} {c : UInt8} {t : List UInt8} {E : Int} (h : Shape num neg ip fr dot hasE c t E) :
    ∀ (j : Nat) (b : UInt8), num[j]? = some b → b.toNat < 128 := by
  intro j b hj
  have hb := List.mem_of_getElem? hj
  rw [h.eq, List.mem_append] at hb
  rcases hb with hb | hb
  · have := mant_mem h.dip h.dfr hb
    omega
  · unfold ep at hb
    cases hasE with
    | true =>
      simp only [if_true] at hb
      rcases List.mem_cons.1 hb with rfl | hb
      · rcases h.cE with rfl | rfl <;> decide
      · exact exp_mem (h.tE rfl) hb
    | false => simp at hb

/-- strings.HasPrefix(mant, "-") -/
theorem pre_mant {ip fr : List UInt8} {dot : Bool} (neg : Bool) (h1 : allDig ip = true) : Lib.hasPrefix (mant neg ip dot fr) [45] = neg := by
  unfold Lib.hasPrefix mant sg body dp
  cases neg with
  | true => simp
  | false =>
    cases ip with
    | nil =>
      cases dot
      · rfl
      · simp [List.isPrefixOf]
    | cons c r =>
      have := dig_mem h1 (b := c) (by simp)
      have hne : (45 : UInt8) ≠ c := (u8_ne (by show c.toNat ≠ 45; omega)).symm
      simp [List.isPrefixOf, hne]
theorem trim_mant {ip fr : List UInt8} {dot : Bool} (neg : Bool) (h1 : allDig ip = true) : Lib.trimPrefix (mant neg ip dot fr) [45] = body ip dot fr := by
  unfold Lib.trimPrefix
  rw [pre_mant neg h1]
  cases neg <;> simp [mant, sg]

/-- the point's place -/
theorem dot_body {ip fr : List UInt8} {dot : Bool} (h1 : allDig ip = true) : Lib.indexByte (body ip dot fr) 46 = if dot then (ip.length : Int) else -1 := by
  unfold body
  rw [byte_skip]
  · cases dot with
    | true =>
      have h0 : Lib.indexByte (46 :: fr) 46 = 0 := by rw [Lib.indexByte, if_pos (by decide)]
      unfold dp
      simp [h0]
    | false =>
      unfold dp
      simp [Lib.indexByte]
  · intro b hb
    have := dig_mem h1 hb
    exact u8_ne (by show b.toNat ≠ 46; omega)

/-- strconv's digits -/
theorem uint_run : ∀ (ds : List UInt8) (acc : Nat), allDig ds = true → acc < 18446744073709551616 →
    (acc * 10 ^ ds.length + val ds < 18446744073709551616 ∧ Lib.parseUint10 acc ds = .ok (acc * 10 ^ ds.length + val ds)) ∨
    (18446744073709551616 ≤ acc * 10 ^ ds.length + val ds ∧ Lib.parseUint10 acc ds = .range)
  | [], acc, _, ha => by
    left
    simp [Lib.parseUint10, val, ha]
  | c :: ds, acc, h, ha => by
    have hc := dig_mem h (b := c) (by simp)
    rw [allDig_cons, Bool.and_eq_true] at h
    have e : acc * 10 ^ (c :: ds).length + val (c :: ds) = (acc * 10 + (c.toNat - 48)) * 10 ^ ds.length + val ds := by
      rw [val_cons, List.length_cons, Nat.pow_succ, Nat.add_mul]
      unfold dv
      have : acc * 10 * 10 ^ ds.length = acc * (10 ^ ds.length * 10) := by rw [Nat.mul_assoc, Nat.mul_comm 10]
      omega
    rw [e, Lib.parseUint10, if_pos hc]
    have hp : 1 ≤ 10 ^ ds.length := Nat.pow_pos (by decide)
    have hm : (acc * 10 + (c.toNat - 48)) * 1 ≤ (acc * 10 + (c.toNat - 48)) * 10 ^ ds.length := Nat.mul_le_mul_left _ hp
    by_cases h1 : 1844674407370955162 ≤ acc
    · rw [if_pos h1]
      exact .inr ⟨by omega, rfl⟩
    · rw [if_neg h1]
      by_cases h2 : 18446744073709551616 ≤ acc * 10 + (c.toNat - 48)
      · rw [if_pos h2]
        exact .inr ⟨by omega, rfl⟩
      · rw [if_neg h2]
        exact uint_run ds _ h.2 (by omega)

theorem mag_run (ds : List UInt8) (h : allDig ds = true) (hne : ds ≠ []) :
    (val ds < 18446744073709551616 ∧ Lib.parseMag ds = .ok (val ds)) ∨ (18446744073709551616 ≤ val ds ∧ Lib.parseMag ds = .range) := by
  have := uint_run ds 0 h (by decide)
  simp only [Nat.zero_mul, Nat.zero_add] at this
  unfold Lib.parseMag
  rw [if_neg hne]
  exact this

/-- strconv.Atoi at an exponent's text -/
theorem atoi_exp {t : List UInt8} {E : Int} (h : ExpT t E) : (Lib.atoiAll t = .ok E ∧ -9223372036854775808 ≤ E ∧ E ≤ 9223372036854775807) ∨ (Lib.atoiAll t = .range ∧ (1000000 < E ∨ E < -1000000)) := by
  obtain ⟨ds, hd, hne, h⟩ := h
  have hm := mag_run ds hd hne
  rcases h with ⟨rfl, rfl⟩ | ⟨rfl, rfl⟩ | ⟨rfl, rfl⟩
  · cases t with
    | nil => exact absurd rfl hne
    | cons c r =>
      have hc := dig_mem hd (b := c) (by simp)
      unfold Lib.atoiAll
      simp only []
      rw [if_neg (by omega)]
      rcases hm with ⟨h1, h2⟩ | ⟨h1, h2⟩
      · rw [h2]
        simp only []
        by_cases h3 : 9223372036854775808 ≤ val (c :: r)
        · rw [if_pos ⟨by omega, h3⟩]
          exact .inr ⟨rfl, by omega⟩
        · rw [if_neg (by omega), if_neg (by omega), if_neg (by omega)]
          exact .inl ⟨rfl, by omega, by omega⟩
      · rw [h2]
        exact .inr ⟨rfl, by omega⟩
  · unfold Lib.atoiAll
    simp only []
    rw [if_pos (by decide)]
    have h45 : ¬ (43 : UInt8).toNat = 45 := by decide
    rcases hm with ⟨h1, h2⟩ | ⟨h1, h2⟩
    · rw [h2]
      simp only []
      by_cases h3 : 9223372036854775808 ≤ val ds
      · rw [if_pos ⟨h45, h3⟩]
        exact .inr ⟨rfl, by omega⟩
      · rw [if_neg (by omega), if_neg (by omega), if_neg h45]
        exact .inl ⟨rfl, by omega, by omega⟩
    · rw [h2]
      exact .inr ⟨rfl, by omega⟩
  · unfold Lib.atoiAll
    simp only []
    rw [if_pos (by decide)]
    have h45 : (45 : UInt8).toNat = 45 := by decide
    rcases hm with ⟨h1, h2⟩ | ⟨h1, h2⟩
    · rw [h2]
      simp only []
      rw [if_neg (by omega)]
      by_cases h3 : 9223372036854775808 < val ds
      · rw [if_pos ⟨h45, h3⟩]
        exact .inr ⟨rfl, by omega⟩
      · rw [if_neg (by omega), if_pos h45]
        exact .inl ⟨rfl, by omega, by omega⟩
    · rw [h2]
      exact .inr ⟨rfl, by omega⟩

/-- strconv.Atoi at digits -/
theorem atoi_dig {l : List UInt8} (h : allDig l = true) (hne : l ≠ []) (hb : val l < 1000000) : Lib.atoiAll l = .ok (val l : Int) := by
  rcases atoi_exp ⟨l, h, hne, .inl ⟨rfl, rfl⟩⟩ with ⟨h1, _⟩ | ⟨_, h1⟩
  · exact h1
  · omega
end Pc
end Go.Proofs.Qxb6600740aDoor
