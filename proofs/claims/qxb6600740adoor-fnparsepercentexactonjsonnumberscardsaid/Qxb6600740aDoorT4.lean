/-
  FnParsePercentRoundTrip: the law's walk.
-/
import Derived.Test.Qxb6600740aDoorT2
import Derived.Test.Qxb6600740aDoorT3
namespace Go.Proofs.Qxb6600740aDoor
open Go.RowKit

set_option maxHeartbeats 400000 in
theorem parse8 {W : World} (hL : Laid W) (num : ByteArray) (neg : Bool) (ip fr : List UInt8) (dot hasE : Bool) (c : UInt8) (t : List UInt8) (E : Int)
    (h : Pc.Shape num.data.toList neg ip fr dot hasE c t E) (hsz : num.size ≤ 70000) (w : World) (hb : Below W.heap.size W w) :
    Calls Tryd.prog 8 #[.string num] w (ParseEnd (Pc.val (ip ++ fr)) (E + 2 - fr.length) neg w) := by
  have K := hide (parse15 hL num neg ip fr dot hasE c t E h hsz w hb)
  generalize Pc.val (ip ++ fr) = N at K ⊢
  generalize E + 2 - (fr.length : Int) = X at K ⊢
  clear h
  go_enter Tryd.func8, Tryd.ntmps8
  go_wp2_with fail
  refine K.out.mono ?_
  rintro e w' ⟨n, ok, rfl, hs, hb'⟩
  have HS := hide hs
  clear hs
  go_wp2
  go_ret2
  exact ⟨n, ok, rfl, HS.out, hb'⟩

theorem spec_pad (n q : Nat) (hn : n ≤ 10000) : Pc.SpecRel (n * 10 ^ q) (-(q : Int)) false n true := by
  have hp : 0 < 10 ^ q := Nat.pow_pos (by decide)
  rcases Nat.eq_zero_or_pos n with h0 | h0
  · subst h0
    exact .inl ⟨by simp, rfl, rfl⟩
  · refine .inr (.inr (.inl ⟨Nat.mul_pos h0 hp, rfl, rfl, n, rfl, hn, ?_⟩))
    rcases Nat.eq_zero_or_pos q with hq | hq
    · subst hq
      left
      exact ⟨by omega, by simp⟩
    · right
      exact ⟨by omega, by rw [show (-(-(q : Int))).toNat = q by omega]⟩

/-- the end of the law: the answer is n, true -/
theorem rt_end {N : Nat} {X : Int} {n : Nat} {g : Int} {ok : Bool} (h : Pc.SpecRel N X false g ok) (h' : Pc.SpecRel N X false n true) : ok = true ∧ g = n := by
  have := Pc.spec_one h h'
  exact ⟨this.2, this.1⟩

theorem cat_str (a b : List UInt8) : Value.string ((⟨a.toArray⟩ : ByteArray) ++ ⟨b.toArray⟩) = .string ⟨(a ++ b).toArray⟩ := by
  rw [← Lib.mk_data ((⟨a.toArray⟩ : ByteArray) ++ ⟨b.toArray⟩), Joins.data_append]

set_option maxRecDepth 100000 in
set_option maxHeartbeats 2000000 in
theorem rt0 {W : World} (hL : Laid W) (n q : Nat) (f p : Int) (hn : n ≤ 10000) (hf : 0 ≤ f ∧ f ≤ 255) (hp : 0 ≤ p ∧ p ≤ 255) (hq : p % 8 = q) (h3 : f % 3 = 0) :
    Calls Tryd.prog 4 #[.int .i64 n, .int .u8 f, .int .u8 p] W fun e w' => e = .returned (.bool true) ∧ Below W.heap.size W w' := by
  obtain ⟨hf1, hf2⟩ := hf
  obtain ⟨hp1, hp2⟩ := hp
  have hq7 : q ≤ 7 := by omega
  have e0 : (f % 3 == 0) = true := by simp [h3]
  have HQ := hide hq
  clear h3
  have K1 := hide (fun w => itoa9 n w hn)
  have K2 : Hid (∀ w, Calls Tryd.prog 9 #[.int .i64 ((n : Int) % 100)] w (ItoaEnd (n % 100) w)) := fun w => itoa9 (n % 100) w (by omega)
  have K3 : Hid (∀ w, Calls Tryd.prog 9 #[.int .i64 ((n : Int) / 100)] w (ItoaEnd (n / 100) w)) := fun w => itoa9 (n / 100) w (by omega)
  have K10 : Hid (∀ w, Calls Tryd.prog 10 #[.int .i64 (p % 8)] w fun e w' => e = .returned (.string ⟨(List.replicate q 48).toArray⟩) ∧ w' = w) := fun w => by
    rw [hq]; exact zeros10 q w hq7
  clear hq
  go_enter Tryd.func4, Tryd.ntmps4
  go_wp2_with fail
  refine (K1.out _).mono ?_
  rintro e w1 ⟨l1, rfl, -, -, -, -, -, hb1⟩
  go_wp2_with fail
  refine (K2.out _).mono ?_
  rintro e w2 ⟨l2, rfl, d2, n2, v2, -, z2, hb2⟩
  have z2' := z2 (by omega)
  have p2 : 0 < l2.length := List.length_pos_iff.2 n2
  have V2 := hide v2
  clear z2 v2
  generalize hfr : (if l2.length < 2 then 48 :: l2 else l2) = fr
  have HF := hide hfr
  clear hfr
  go_upto_if 60 with fail
  go_cut [10] (fun s wc => s = .string ⟨fr.toArray⟩ ∧ wc = w2)
  case first =>
    by_cases hlt : l2.length < 2
    · go_wp2_with fail
      go_meet
      refine ⟨?_, rfl⟩
      rw [← HF.out, if_pos hlt]
      exact cat_str [48] l2
    · go_wp2_with fail
      go_meet
      refine ⟨?_, rfl⟩
      rw [← HF.out, if_neg (by omega)]
  case rest =>
    obtain ⟨rfl, rfl⟩ := hcut
    go_wp2_with fail
    refine (K3.out _).mono ?_
    rintro e w3 ⟨l3, rfl, d3, n3, v3, z3, -, hb3⟩
    have V3 := hide v3
    clear v3
    have z4 : fr.length ≤ 2 := by
      rw [← HF.out]
      split
      · simp; omega
      · omega
    go_wp2_with fail
    refine (K10.out _).mono ?_
    rintro e w4 ⟨rfl, rfl⟩
    go_wp2_with fail
    have hfd : Pc.allDig fr = true ∧ Pc.val fr = n % 100 ∧ fr.length = 2 := by
      rw [← HF.out]
      split
      · rename_i h
        refine ⟨by rw [Pc.allDig_cons, d2]; rfl, by rw [Pc.val_cons, Pc.dv48, V2.out]; simp, by simp; omega⟩
      · exact ⟨d2, V2.out, by omega⟩
    refine (parse8 hL _ false l3 (fr ++ List.replicate q 48) true false 101 [] 0 ⟨?_, d3, ?_, by simp, .inl rfl, by simp, by simp⟩ ?_ _ ?_).mono ?_
    · simp [Pc.mant, Pc.sg, Pc.body, Pc.dp, Pc.ep]
    · rw [Pc.allDig_append, hfd.1, Pc.allDig_zeros]; rfl
    · rw [Lib.size_eq]
      simp
      omega
    · exact hb1.trans ((hb2.mono hb1.size).trans (hb3.mono (Nat.le_trans hb1.size hb2.size)))
    · rintro e w5 ⟨g, ok, rfl, hs, hb5⟩
      have hN : Pc.val (l3 ++ (fr ++ List.replicate q 48)) = n * 10 ^ q := by
        rw [← List.append_assoc, Pc.val_pad, Pc.val_append, hfd.2.1, hfd.2.2, V3.out]
        congr 1
        omega
      have hX : (0 : Int) + 2 - ((fr ++ List.replicate q 48).length : Nat) = -(q : Int) := by
        rw [List.length_append, List.length_replicate, hfd.2.2]; omega
      rw [hN, hX] at hs
      obtain ⟨rfl, rfl⟩ := rt_end hs (spec_pad n q hn)
      clear hs hN hX hfd
      go_wp2
      go_ret
      exact ⟨ret_bool (by simp), hb1.trans ((hb2.mono hb1.size).trans ((hb3.mono (Nat.le_trans hb1.size hb2.size)).trans (hb5.mono (Nat.le_trans hb1.size (Nat.le_trans hb2.size hb3.size)))))⟩

set_option maxRecDepth 100000 in
set_option maxHeartbeats 2000000 in
theorem rt1 {W : World} (hL : Laid W) (n q : Nat) (f p : Int) (hn : n ≤ 10000) (hf : 0 ≤ f ∧ f ≤ 255) (hp : 0 ≤ p ∧ p ≤ 255) (hq : p % 8 = q) (h3 : f % 3 = 1) :
    Calls Tryd.prog 4 #[.int .i64 n, .int .u8 f, .int .u8 p] W fun e w' => e = .returned (.bool true) ∧ Below W.heap.size W w' := by
  obtain ⟨hf1, hf2⟩ := hf
  obtain ⟨hp1, hp2⟩ := hp
  have hq7 : q ≤ 7 := by omega
  have e0 : (f % 3 == 0) = false := by simp [h3]
  have e1 : (f % 3 == 1) = true := by simp [h3]
  clear h3
  have K1 := hide (fun w => itoa9 n w hn)
  have K2 : Hid (∀ w, Calls Tryd.prog 9 #[.int .i64 (p % 8 + 2)] w (ItoaEnd (q + 2) w)) := fun w => by
    rw [hq]; exact itoa9 (q + 2) w (by omega)
  have K10 : Hid (∀ w, Calls Tryd.prog 10 #[.int .i64 (p % 8)] w fun e w' => e = .returned (.string ⟨(List.replicate q 48).toArray⟩) ∧ w' = w) := fun w => by
    rw [hq]; exact zeros10 q w hq7
  clear hq
  go_enter Tryd.func4, Tryd.ntmps4
  go_wp2_with fail
  refine (K1.out _).mono ?_
  rintro e w1 ⟨l1, rfl, d1, -, v1, z1, -, hb1⟩
  have V1 := hide v1
  clear v1
  go_wp2_with fail
  refine (K10.out _).mono ?_
  rintro e w2 ⟨rfl, rfl⟩
  go_wp2_with fail
  refine (K2.out _).mono ?_
  rintro e w3 ⟨l3, rfl, d3, n3, v3, z3, -, hb3⟩
  have V3 := hide v3
  clear v3
  go_wp2_with fail
  refine (parse8 hL _ false (l1 ++ List.replicate q 48) [] false true 101 (45 :: l3) (-((q + 2 : Nat) : Int)) ⟨?_, ?_, rfl, fun _ => rfl, .inl rfl, fun _ => ⟨l3, d3, n3, .inr (.inr ⟨rfl, by rw [V3.out]⟩)⟩, by simp⟩ ?_ _ ?_).mono ?_
  · simp [Pc.mant, Pc.sg, Pc.body, Pc.dp, Pc.ep]
  · rw [Pc.allDig_append, d1, Pc.allDig_zeros]; rfl
  · rw [Lib.size_eq]
    simp
    omega
  · exact hb1.trans (hb3.mono hb1.size)
  · rintro e w5 ⟨g, ok, rfl, hs, hb5⟩
    have hN : Pc.val (l1 ++ List.replicate q 48 ++ []) = n * 10 ^ q := by
      rw [List.append_nil, Pc.val_pad, V1.out]
    have hX : -((q + 2 : Nat) : Int) + 2 - (([] : List UInt8).length : Nat) = -(q : Int) := by
      simp; omega
    rw [hN, hX] at hs
    obtain ⟨rfl, rfl⟩ := rt_end hs (spec_pad n q hn)
    clear hs hN hX
    go_wp2
    go_ret
    exact ⟨ret_bool (by simp), hb1.trans ((hb3.mono hb1.size).trans (hb5.mono (Nat.le_trans hb1.size hb3.size)))⟩

set_option maxRecDepth 100000 in
set_option maxHeartbeats 2000000 in
theorem rt2 {W : World} (hL : Laid W) (n q : Nat) (f p : Int) (hn : n ≤ 10000) (hf : 0 ≤ f ∧ f ≤ 255) (hp : 0 ≤ p ∧ p ≤ 255) (hq : p % 8 = q) (h3 : f % 3 = 2) :
    Calls Tryd.prog 4 #[.int .i64 n, .int .u8 f, .int .u8 p] W fun e w' => e = .returned (.bool true) ∧ Below W.heap.size W w' := by
  obtain ⟨hf1, hf2⟩ := hf
  obtain ⟨hp1, hp2⟩ := hp
  have hq7 : q ≤ 7 := by omega
  have e0 : (f % 3 == 0) = false := by simp [h3]
  have e1 : (f % 3 == 1) = false := by simp [h3]
  clear h3
  have K1 := hide (fun w => itoa9 n w hn)
  have K10 : Hid (∀ w, Calls Tryd.prog 10 #[.int .i64 (p % 8)] w fun e w' => e = .returned (.string ⟨(List.replicate q 48).toArray⟩) ∧ w' = w) := fun w => by
    rw [hq]; exact zeros10 q w hq7
  have HQ := hide hq
  have hq0 : 0 ≤ p % 8 := by omega
  have hq8 : p % 8 ≤ 7 := by omega
  clear hq
  go_enter Tryd.func4, Tryd.ntmps4
  go_wp2_with fail
  refine (K1.out _).mono ?_
  rintro e w1 ⟨l1, rfl, d1, n1, v1, z1, -, hb1⟩
  have p1 : 0 < l1.length := List.length_pos_iff.2 n1
  have V1 := hide v1
  clear v1 n1
  by_cases hx : 0 ≤ p % 8 + (l1.length : Int) - 2
  · have K2 : Hid (∀ w, Calls Tryd.prog 9 #[.int .i64 (p % 8 + (l1.length : Int) - 2)] w (ItoaEnd (q + l1.length - 2) w)) := fun w => by
      have := itoa9 (q + l1.length - 2) w (by omega)
      rw [show ((q + l1.length - 2 : Nat) : Int) = p % 8 + (l1.length : Int) - 2 by have := HQ.out; omega] at this
      exact this
    go_wp2_with fail
    refine (K10.out _).mono ?_
    rintro e w2 ⟨rfl, rfl⟩
    go_wp2_with fail
    refine (K2.out _).mono ?_
    rintro e w3 ⟨l3, rfl, d3, n3, v3, z3, -, hb3⟩
    have V3 := hide v3
    clear v3
    go_wp2_with fail
    refine (parse8 hL _ false [48] (List.replicate q 48 ++ l1) true true 69 (43 :: l3) ((q + l1.length - 2 : Nat) : Int) ⟨?_, rfl, ?_, by simp, .inr rfl, fun _ => ⟨l3, d3, n3, .inr (.inl ⟨rfl, by rw [V3.out]⟩)⟩, by simp⟩ ?_ _ ?_).mono ?_
    · simp [Pc.mant, Pc.sg, Pc.body, Pc.dp, Pc.ep]
    · rw [Pc.allDig_append, d1, Pc.allDig_zeros]; rfl
    · rw [Lib.size_eq]
      simp
      omega
    · exact hb1.trans (hb3.mono hb1.size)
    · rintro e w5 ⟨g, ok, rfl, hs, hb5⟩
      have hN : Pc.val ([48] ++ (List.replicate q 48 ++ l1)) = n * 10 ^ 0 := by
        rw [Pc.val_append, Pc.val_append, Pc.val_zeros, V1.out, show Pc.val [48] = 0 from rfl]
        simp
      have hX : ((q + l1.length - 2 : Nat) : Int) + 2 - ((List.replicate q 48 ++ l1).length : Nat) = -((0 : Nat) : Int) := by
        rw [List.length_append, List.length_replicate]
        have := HQ.out
        omega
      rw [hN, hX] at hs
      obtain ⟨rfl, rfl⟩ := rt_end hs (spec_pad n 0 hn)
      clear hs hN hX
      go_wp2
      go_ret
      exact ⟨ret_bool (by simp), hb1.trans ((hb3.mono hb1.size).trans (hb5.mono (Nat.le_trans hb1.size hb3.size)))⟩
  · have K2 : Hid (∀ w, Calls Tryd.prog 9 #[.int .i64 (-(p % 8 + (l1.length : Int) - 2))] w (ItoaEnd (2 - (q + l1.length)) w)) := fun w => by
      have := itoa9 (2 - (q + l1.length)) w (by omega)
      rw [show ((2 - (q + l1.length) : Nat) : Int) = -(p % 8 + (l1.length : Int) - 2) by have := HQ.out; omega] at this
      exact this
    go_wp2_with fail
    refine (K10.out _).mono ?_
    rintro e w2 ⟨rfl, rfl⟩
    go_wp2_with fail
    refine (K2.out _).mono ?_
    rintro e w3 ⟨l3, rfl, d3, n3, v3, z3, -, hb3⟩
    have V3 := hide v3
    clear v3
    go_wp2_with fail
    refine (parse8 hL _ false [48] (List.replicate q 48 ++ l1) true true 69 (45 :: l3) (-((2 - (q + l1.length) : Nat) : Int)) ⟨?_, rfl, ?_, by simp, .inr rfl, fun _ => ⟨l3, d3, n3, .inr (.inr ⟨rfl, by rw [V3.out]⟩)⟩, by simp⟩ ?_ _ ?_).mono ?_
    · simp [Pc.mant, Pc.sg, Pc.body, Pc.dp, Pc.ep]
    · rw [Pc.allDig_append, d1, Pc.allDig_zeros]; rfl
    · rw [Lib.size_eq]
      simp
      omega
    · exact hb1.trans (hb3.mono hb1.size)
    · rintro e w5 ⟨g, ok, rfl, hs, hb5⟩
      have hN : Pc.val ([48] ++ (List.replicate q 48 ++ l1)) = n * 10 ^ 0 := by
        rw [Pc.val_append, Pc.val_append, Pc.val_zeros, V1.out, show Pc.val [48] = 0 from rfl]
        simp
      have hX : -((2 - (q + l1.length) : Nat) : Int) + 2 - ((List.replicate q 48 ++ l1).length : Nat) = -((0 : Nat) : Int) := by
        rw [List.length_append, List.length_replicate]
        have := HQ.out
        omega
      rw [hN, hX] at hs
      obtain ⟨rfl, rfl⟩ := rt_end hs (spec_pad n 0 hn)
      clear hs hN hX
      go_wp2
      go_ret
      exact ⟨ret_bool (by simp), hb1.trans ((hb3.mono hb1.size).trans (hb5.mono (Nat.le_trans hb1.size hb3.size)))⟩

theorem rt_walk {W : World} (hL : Laid W) (n f p : Int) (hf : 0 ≤ f ∧ f ≤ 255) (hp : 0 ≤ p ∧ p ≤ 255) :
    Calls Tryd.prog 4 #[.int .i64 n, .int .u8 f, .int .u8 p] W fun e w' => e = .returned (.bool true) ∧ Below W.heap.size W w' := by
  by_cases h1 : n < 0
  · go_enter Tryd.func4, Tryd.ntmps4
    go_wp2
    go_ret
    exact ⟨rfl, Below.refl _ _⟩
  · by_cases h2 : 10000 < n
    · go_enter Tryd.func4, Tryd.ntmps4
      go_wp2
      go_ret
      exact ⟨rfl, Below.refl _ _⟩
    · obtain ⟨m, rfl⟩ := Int.eq_ofNat_of_zero_le (show 0 ≤ n by omega)
      obtain ⟨q, hq⟩ := Int.eq_ofNat_of_zero_le (show 0 ≤ p % 8 by omega)
      have h3 : f % 3 = 0 ∨ f % 3 = 1 ∨ f % 3 = 2 := by omega
      rcases h3 with h3 | h3 | h3
      · exact rt0 hL m q f p (by omega) hf hp hq h3
      · exact rt1 hL m q f p (by omega) hf hp hq h3
      · exact rt2 hL m q f p (by omega) hf hp hq h3

end Go.Proofs.Qxb6600740aDoor
