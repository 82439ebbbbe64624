/-
  zzModelPercent, cut into stages: the sum over the whole digits.
-/
import Derived.Test.Qxb6600740aDoorM1
namespace Go.Proofs.Qxb6600740aDoor
open Go.RowKit

set_option maxRecDepth 100000 in
set_option maxHeartbeats 4000000 in
theorem stage45 (s : ByteArray) (L : List UInt8) (w : World) (hg : ∀ (n : Nat) (h : n < s.size), ((s[n]'h).toNat : Int) = Pc.nb L n) (HLen : Hid (L.length = s.size)) (hsz : s.size ≤ 65536)
    (neg : Bool) (a b fs fe : Nat) (e : Int) (hab : a ≤ b) (hbf : b ≤ fs) (hfs : fs ≤ fe) (hfe : fe ≤ s.size) (he1 : -20000000000000 ≤ e) (he2 : e ≤ 20000000000000) (HDi : Hid (Pc.Dg L a b)) (HDg : Hid (Pc.Dg L fs fe))
    (HGood : Hid (∀ n ok, Pc.SpecRel (Pc.val (Pc.sl L a b ++ Pc.sl L fs fe)) (e + 2 - ((fe : Int) - fs)) neg n ok → Good L n ok))
    (c1 c2 c3 c4 c5 c6 c13 c14 c15 c16 c17 c18 c19 c20 c21 c22 c23 c24 c25 c26 c27 c28 c29 c30 c31 c32 c33 c34 c35 c36 c37 c38 c39 c40 c41 c42 c43 c44 c45 c46 c47 c48 c49 c50 c51 c52 c53 c54 c55 c56 c57 c58 c59 c60 c61 c62 c63 c64 c65 c66 c67 c68 c69 c70 c71 c72 c73 c74 c75 c76 c77 c78 c79 c80 c81 c82 c83 c84 c85 c86 c87 c88 c89 c90 c91 c92 c93 c94 c95 c96 c97 c98 c99 c100 c101 c102 c103 c104 c105 c106 c107 c108 c109 c110 c111 c112 c113 c114 c115 c116 c117 c118 c119 c120 c121 c122 c123 c124 c125 c126 c127 c128 c129 c130 c131 c132 c133 c134 c135 c136 c137 c138 c139 c140 c141 c142 c143 c144 c145 c146 c147 c148 c149 c150 c151 c152 c153 c154 c155 c156 c157 c158 c159 c160 c161 c162 c163 c164 c165 c166 c167 c168 c169 c170 c171 c172 c173 c174 c175 c176 c177 c178 c179 c180 c181 c182 c183 c184 c185 c186 c187 c188 c189 c190 c191 c192 c193 c194 c195 c196 c197 c198 c199 c200 c201 c202 c203 c204 c205 c206 c207 c208 c209 c210 c211 c212 c213 c214 c215 c216 c217 c218 c219 c220 c221 c222 c223 c224 c225 c226 c227 c228 c229 c230 c231 c232 c233 c234 c235 : Value) :
    Code.wp Tryd.prog ((Tryd.f7.body.bind (tailAt 45)).getD .skip) (bodyPost Tryd.prog Tryd.f7 (ModelEnd L w)) ⟨#[.string s, c1, c2, c3, c4, c5, c6, .bool neg, .int .i64 a, .int .i64 b, .int .i64 fs, .int .i64 fe, .int .i64 e, c13, c14, c15, c16, c17, c18, c19, c20, c21, c22, c23, c24, c25, c26, c27, c28, c29, c30, c31, c32, c33, c34, c35, c36, c37, c38, c39, c40, c41, c42, c43, c44, c45, c46, c47, c48, c49, c50, c51, c52, c53, c54, c55, c56, c57, c58, c59, c60, c61, c62, c63, c64, c65, c66, c67, c68, c69, c70, c71, c72, c73, c74, c75, c76, c77, c78, c79, c80, c81, c82, c83, c84, c85, c86, c87, c88, c89, c90, c91, c92, c93, c94, c95, c96, c97, c98, c99, c100, c101, c102, c103, c104, c105, c106, c107, c108, c109, c110, c111, c112, c113, c114, c115, c116, c117, c118, c119, c120, c121, c122, c123, c124, c125, c126, c127, c128, c129, c130, c131, c132, c133, c134, c135, c136, c137, c138, c139, c140, c141, c142, c143, c144, c145, c146, c147, c148, c149, c150, c151, c152, c153, c154, c155, c156, c157, c158, c159, c160, c161, c162, c163, c164, c165, c166, c167, c168, c169, c170, c171, c172, c173, c174, c175, c176, c177, c178, c179, c180, c181, c182, c183, c184, c185, c186, c187, c188, c189, c190, c191, c192, c193, c194, c195, c196, c197, c198, c199, c200, c201, c202, c203, c204, c205, c206, c207, c208, c209, c210, c211, c212, c213, c214, c215, c216, c217, c218, c219, c220, c221, c222, c223, c224, c225, c226, c227, c228, c229, c230, c231, c232, c233, c234, c235], []⟩ w := by
  conv => arg 2; whnf
  go_upto_block 6 with fail
  go_cut [15, 16, 17, 18, 19, 20] (fun s15 s16 s17 _ _ _ wc => ∃ (sm' : Nat) (nz' out' : Bool), s15 = .int .i64 sm' ∧ s16 = .bool nz' ∧ s17 = .bool out' ∧ Pc.SumOK (Pc.sl L a b) (e + 2) sm' nz' out' ∧ wc = w)
  case first =>
    go_wp2_with fail
    go_loop [15, 16, 17, 18, 19, 20] (fun s15 s16 s17 s21 _ _ => ∃ (k sm' : Nat) (nz' out' : Bool), s21 = .int .i64 k ∧ a ≤ k ∧ k ≤ b ∧ s15 = .int .i64 sm' ∧ s16 = .bool nz' ∧ s17 = .bool out' ∧ Pc.SumOK (Pc.sl L a k) (e + 2 + ((b : Int) - k)) sm' nz' out') (fun _ _ _ s21 _ _ => b - (intOf s21).toNat)
    case atStart =>
      refine ⟨a, 0, false, false, rfl, Nat.le_refl _, hab, rfl, rfl, rfl, ?_⟩
      rw [Pc.sl_nil]
      exact Pc.sum_zero _
    case round =>
      obtain ⟨k, sm', nz', out', rfl, hk1, hk2, rfl, rfl, rfl, hS⟩ := hrel
      by_cases hlt : k < b
      · have hdig := HDi.out k hk1 hlt
        obtain ⟨v, hv⟩ : ∃ v : Nat, Pc.nb L k = 48 + (v : Int) := ⟨(Pc.nb L k - 48).toNat, by omega⟩
        have hv9 : v ≤ 9 := by omega
        have hdv : Pc.dv (L.getD k 0) = v := by
          unfold Pc.dv
          unfold Pc.nb at hv
          omega
        have hsn : Pc.sl L a (k + 1) = Pc.sl L a k ++ [L.getD k 0] := by
          rw [Pc.sl_snoc L a k hk1 (by rw [HLen.out]; omega)]
        have hyy : e + 2 + ((b : Int) - ((k + 1 : Nat) : Int)) = e + 2 + ((b : Int) - k) - 1 := by omega
        have hll : (Pc.sl L a k).length ≤ 65536 := by
          rw [Pc.sl_len L a k hk1 (by rw [HLen.out]; omega)]
          omega
        have hsmb : sm' ≤ 5898240000 := by
          have h1 := hS.2.1
          have h2 := Nat.mul_le_mul_right 90000 hll
          omega
        have HSN := hide hsn
        have HYY := hide hyy
        have HDV := hide hdv
        have HSS := hide hS
        clear hsn hyy hdv hS hdig hll
        by_cases h0 : v = 0
        · have hq : ((v : Int) == 0) = true := by simp [h0]
          have H0 := hide h0
          clear h0
          go_wp2
          go_round
          case rel => exact ⟨k + 1, sm', nz', out', by go_num, by omega, by omega, rfl, rfl, rfl, by rw [HSN.out, HYY.out]; exact Pc.sum_skip HSS.out _ (by rw [HDV.out]; exact H0.out)⟩
          case measure => simp [intOf]; omega
        · have hq : ((v : Int) == 0) = false := by simp [h0]
          by_cases hp : (b : Int) - 1 - k + e + 2 < 0 ∨ 4 < (b : Int) - 1 - k + e + 2
          · have HP := hide hp
            rcases hp with hp | hp
            all_goals
              go_wp2
              go_round
              case rel => exact ⟨k + 1, sm', true, true, by go_num, by omega, by omega, rfl, rfl, rfl, by rw [HSN.out, HYY.out]; exact Pc.sum_out HSS.out _ (by rw [HDV.out]; exact h0) (by have := HP.out; omega)⟩
              case measure => simp [intOf]; omega
          · obtain ⟨p, hpp⟩ : ∃ p : Nat, (b : Int) - 1 - k + e + 2 = p := ⟨((b : Int) - 1 - k + e + 2).toNat, by omega⟩
            have hp4 : p ≤ 4 := by omega
            have K14 : Hid (∀ w, Calls Tryd.prog 14 #[.int .i64 ((b : Int) - 1 - k + e + 2)] w fun e w' => e = .returned (.int .i64 ((10 ^ p : Nat) : Int)) ∧ w' = w) := fun w => by rw [hpp]; exact pow14 p w hp4
            have hpow : 10 ^ p ≤ 10000 := by
              have : 10 ^ p ≤ 10 ^ 4 := Nat.pow_le_pow_right (by decide) hp4
              have h4 : (10 : Nat) ^ 4 = 10000 := by decide
              omega
            have HPP := hide hpp
            have hp1 : 0 ≤ (b : Int) - 1 - k + e + 2 := by omega
            have hp2 : (b : Int) - 1 - k + e + 2 ≤ 4 := by omega
            clear hpp hp
            have hT : (10 ^ p : Nat) = (10 ^ p : Nat) := rfl
            generalize hT2 : (10 ^ p : Nat) = T at K14 hpow hT
            have HT := hide hT2
            clear hT hT2
            have hvT : v * T ≤ 90000 := by
              have := Nat.mul_le_mul hv9 hpow
              omega
            obtain ⟨P, hP⟩ : ∃ P : Nat, P = v * T := ⟨_, rfl⟩
            have hPm : (48 + (v : Int) - 48) * (T : Int) = (P : Int) := by rw [hP, show 48 + (v : Int) - 48 = v by omega, Int.natCast_mul]
            have hPb : P ≤ 90000 := by rw [hP]; exact hvT
            have HP2 := hide hP
            clear hP hvT
            go_wp2_with fail
            refine (K14.out _).mono ?_
            rintro e1 w' ⟨rfl, rfl⟩
            go_wp2
            go_round
            case rel =>
              refine ⟨k + 1, sm' + P, true, out', by go_num, by omega, by omega, by go_num, rfl, rfl, ?_⟩
              rw [HSN.out, HYY.out]
              have hh := Pc.sum_in HSS.out (L.getD k 0) (by rw [HDV.out]; exact h0) (by rw [HDV.out]; exact hv9) (by omega) (by omega)
              rw [HDV.out, show (e + 2 + ((b : Int) - k) - 1).toNat = p by have := HPP.out; omega, HT.out] at hh
              rw [HP2.out]
              exact hh
            case measure => simp [intOf]; omega
      · obtain rfl : k = b := by omega
        have HSS := hide hS
        clear hS
        go_wp2_with fail
        go_meet
        have hz := HSS.out
        rw [show e + 2 + ((k : Int) - k) = e + 2 by omega] at hz
        exact ⟨sm', nz', out', rfl, rfl, rfl, hz, rfl⟩
  case rest =>
    obtain ⟨sm', nz', out', rfl, rfl, rfl, hS, rfl⟩ := hcut
    rename_i K hK
    refine hK _ _ ?_
    exact stage58 s L _ hg HLen hsz neg nz' out' sm' fs fe e (Pc.sl L a b) hfs hfe he1 he2 HDg (by rw [Pc.sl_len L a b hab (by rw [HLen.out]; omega)]; omega) (Pc.sl_dig hab (by rw [HLen.out]; omega) HDi.out) hS HGood _ _ _ _ _ _ _ _ _ _ _ _ _ _ _ _ _ _ _ _ _ _ _ _ _ _ _ _ _ _ _ _ _ _ _ _ _ _ _ _ _ _ _ _ _ _ _ _ _ _ _ _ _ _ _ _ _ _ _ _ _ _ _ _ _ _ _ _ _ _ _ _ _ _ _ _ _ _ _ _ _ _ _ _ _ _ _ _ _ _ _ _ _ _ _ _ _ _ _ _ _ _ _ _ _ _ _ _ _ _ _ _ _ _ _ _ _ _ _ _ _ _ _ _ _ _ _ _ _ _ _ _ _ _ _ _ _ _ _ _ _ _ _ _ _ _ _ _ _ _ _ _ _ _ _ _ _ _ _ _ _ _ _ _ _ _ _ _ _ _ _ _ _ _ _ _ _ _ _ _ _ _ _ _ _ _ _ _ _ _ _ _ _ _ _ _ _ _ _ _ _ _ _ _ _ _ _ _ _ _ _ _ _ _ _ _ _ _ _ _ _ _ _ _ _ _ _ _
end Go.Proofs.Qxb6600740aDoor
