/-
  zzModelPercent, cut into stages: the point and its digits.
-/
import Derived.Test.Qxb6600740aDoorM3
namespace Go.Proofs.Qxb6600740aDoor
open Go.RowKit

set_option maxRecDepth 100000 in
set_option maxHeartbeats 4000000 in
theorem stage16 (s : ByteArray) (L : List UInt8) (w : World) (hg : ∀ (n : Nat) (h : n < s.size), ((s[n]'h).toNat : Int) = Pc.nb L n) (HLen : Hid (L.length = s.size)) (hsz : s.size ≤ 65536)
    (neg : Bool) (a b : Nat) (hab : a < b) (hbn : b ≤ s.size) (HDi : Hid (Pc.Dg L a b))
    (HFin : Hid (∀ dot fs fe hasE eneg es, Pc.FracOK L b dot fs fe → Pc.ExpOK L fe hasE eneg es → ∀ n ok, Pc.SpecRel (Pc.val (Pc.sl L a b ++ Pc.sl L fs fe)) (Pc.expVal L hasE eneg es + 2 - ((fe : Int) - fs)) neg n ok → Good L n ok))
    (c1 c2 c3 c4 c9 c10 c11 c12 c13 c14 c15 c16 c17 c18 c19 c20 c21 c22 c23 c24 c25 c26 c27 c28 c29 c30 c31 c32 c33 c34 c35 c36 c37 c38 c39 c40 c41 c42 c43 c44 c45 c46 c47 c48 c49 c50 c51 c52 c53 c54 c55 c56 c57 c58 c59 c60 c61 c62 c63 c64 c65 c66 c67 c68 c69 c70 c71 c72 c73 c74 c75 c76 c77 c78 c79 c80 c81 c82 c83 c84 c85 c86 c87 c88 c89 c90 c91 c92 c93 c94 c95 c96 c97 c98 c99 c100 c101 c102 c103 c104 c105 c106 c107 c108 c109 c110 c111 c112 c113 c114 c115 c116 c117 c118 c119 c120 c121 c122 c123 c124 c125 c126 c127 c128 c129 c130 c131 c132 c133 c134 c135 c136 c137 c138 c139 c140 c141 c142 c143 c144 c145 c146 c147 c148 c149 c150 c151 c152 c153 c154 c155 c156 c157 c158 c159 c160 c161 c162 c163 c164 c165 c166 c167 c168 c169 c170 c171 c172 c173 c174 c175 c176 c177 c178 c179 c180 c181 c182 c183 c184 c185 c186 c187 c188 c189 c190 c191 c192 c193 c194 c195 c196 c197 c198 c199 c200 c201 c202 c203 c204 c205 c206 c207 c208 c209 c210 c211 c212 c213 c214 c215 c216 c217 c218 c219 c220 c221 c222 c223 c224 c225 c226 c227 c228 c229 c230 c231 c232 c233 c234 c235 : Value) :
    Code.wp Tryd.prog ((Tryd.f7.body.bind (tailAt 16)).getD .skip) (bodyPost Tryd.prog Tryd.f7 (ModelEnd L w)) ⟨#[.string s, c1, c2, c3, c4, .int .i64 s.size, .int .i64 b, .bool neg, .int .i64 a, c9, c10, c11, c12, c13, c14, c15, c16, c17, c18, c19, c20, c21, c22, c23, c24, c25, c26, c27, c28, c29, c30, c31, c32, c33, c34, c35, c36, c37, c38, c39, c40, c41, c42, c43, c44, c45, c46, c47, c48, c49, c50, c51, c52, c53, c54, c55, c56, c57, c58, c59, c60, c61, c62, c63, c64, c65, c66, c67, c68, c69, c70, c71, c72, c73, c74, c75, c76, c77, c78, c79, c80, c81, c82, c83, c84, c85, c86, c87, c88, c89, c90, c91, c92, c93, c94, c95, c96, c97, c98, c99, c100, c101, c102, c103, c104, c105, c106, c107, c108, c109, c110, c111, c112, c113, c114, c115, c116, c117, c118, c119, c120, c121, c122, c123, c124, c125, c126, c127, c128, c129, c130, c131, c132, c133, c134, c135, c136, c137, c138, c139, c140, c141, c142, c143, c144, c145, c146, c147, c148, c149, c150, c151, c152, c153, c154, c155, c156, c157, c158, c159, c160, c161, c162, c163, c164, c165, c166, c167, c168, c169, c170, c171, c172, c173, c174, c175, c176, c177, c178, c179, c180, c181, c182, c183, c184, c185, c186, c187, c188, c189, c190, c191, c192, c193, c194, c195, c196, c197, c198, c199, c200, c201, c202, c203, c204, c205, c206, c207, c208, c209, c210, c211, c212, c213, c214, c215, c216, c217, c218, c219, c220, c221, c222, c223, c224, c225, c226, c227, c228, c229, c230, c231, c232, c233, c234, c235], []⟩ w := by
  conv => arg 2; whnf
  go_upto_region 19 with fail
  go_cut [73] (fun s73 wc => ∃ bD : Bool, s73 = .bool bD ∧ (bD = true → b < s.size ∧ Pc.nb L b = 46) ∧ wc = w)
  case first =>
    by_cases h0 : b < s.size
    · by_cases h1 : Pc.nb L b = 46
      · have hq : (Pc.nb L b == 46) = true := by simp [h1]
        have H1 := hide h1
        clear h1
        go_wp2_with fail
        go_meet
        exact ⟨true, rfl, fun _ => ⟨h0, H1.out⟩, rfl⟩
      · have hq : (Pc.nb L b == 46) = false := by simp [h1]
        clear h1
        go_wp2_with fail
        go_meet
        exact ⟨false, rfl, fun h => by simp at h, rfl⟩
    · go_wp2_with fail
      go_meet
      exact ⟨false, rfl, fun h => by simp at h, rfl⟩
  case rest =>
    obtain ⟨bD, rfl, hbD, rfl⟩ := hcut
    have HB := hide hbD
    clear hbD
    go_upto_if 73 with fail
    go_cut [6, 10, 11] (fun s6 s10 s11 wc' => ∃ (dot : Bool) (fs fe : Nat), s6 = .int .i64 fe ∧ s10 = .int .i64 fs ∧ s11 = .int .i64 fe ∧ Pc.FracOK L b dot fs fe ∧ b ≤ fs ∧ fs ≤ fe ∧ fe ≤ s.size ∧ wc' = wc)
    case first =>
      cases bD with
      | false =>
        go_wp2_with fail
        go_meet
        exact ⟨false, b, b, rfl, rfl, rfl, .inl ⟨rfl, rfl, rfl⟩, Nat.le_refl _, Nat.le_refl _, hbn, rfl⟩
      | true =>
        have hD : b < s.size ∧ Pc.nb L b = 46 := by have := HB.out; simpa using this
        obtain ⟨hD1, hD2⟩ := hD
        have HD2 := hide hD2
        clear hD2 HB
        go_upto_block 2 with fail
        go_cut [6] (fun s6 wc' => ∃ k : Nat, s6 = .int .i64 k ∧ b + 1 ≤ k ∧ k ≤ s.size ∧ Pc.Dg L (b + 1) k ∧ wc' = wc)
        case first =>
          go_wp2_with fail
          go_loop [6] (fun s6 => ∃ k : Nat, s6 = .int .i64 k ∧ b + 1 ≤ k ∧ k ≤ s.size ∧ Pc.Dg L (b + 1) k) (fun s6 => s.size - (intOf s6).toNat)
          case atStart => exact ⟨b + 1, by go_num, Nat.le_refl _, by omega, Pc.dg_nil L _⟩
          case round =>
            obtain ⟨k, rfl, hk1, hk2, hk3⟩ := hrel
            have HK := hide hk3
            clear hk3
            by_cases hlt : k < s.size
            · by_cases hd : 48 ≤ Pc.nb L k ∧ Pc.nb L k ≤ 57
              · have K2 := hide (fun w => digit13_yes (Pc.nb L k) w hd.1 hd.2)
                have HDD := hide hd
                clear hd
                go_wp2_with fail
                refine (K2.out _).mono ?_
                rintro e w' ⟨rfl, rfl⟩
                go_wp2
                go_round
                case rel => exact ⟨k + 1, by go_num, by omega, by omega, Pc.dg_snoc HK.out HDD.out.1 HDD.out.2⟩
                case measure => simp [intOf]; omega
              · have K2 := hide (fun w => digit13_no (Pc.nb L k) w (by omega))
                clear hd
                go_wp2_with fail
                refine (K2.out _).mono ?_
                rintro e w' ⟨rfl, rfl⟩
                go_wp2_with fail
                go_meet
                exact ⟨k, rfl, hk1, hk2, HK.out, rfl⟩
            · go_wp2_with fail
              go_meet
              exact ⟨k, rfl, hk1, hk2, HK.out, rfl⟩
        case rest =>
          obtain ⟨k, rfl, hk1, hk2, hk3, rfl⟩ := hcut
          have HK := hide hk3
          clear hk3
          by_cases hke : k = b + 1
          · have hne : ((k : Int) == (b : Int) + 1) = true := by simp; omega
            go_wp2
            go_ret3
            exact model_no L _
          · have hne : ((k : Int) == (b : Int) + 1) = false := by simp; omega
            go_wp2_with fail
            go_meet
            exact ⟨true, b + 1, k, rfl, by go_num, rfl, .inr ⟨rfl, HD2.out, rfl, by omega, by rw [HLen.out]; exact hk2, HK.out⟩, by omega, by omega, hk2, rfl⟩
    case rest =>
      obtain ⟨dot, fs, fe, rfl, rfl, rfl, hF, h1, h2, h3, rfl⟩ := hcut
      have hDg : Pc.Dg L fs fe := by
        rcases hF with ⟨_, rfl, rfl⟩ | ⟨_, _, _, _, _, h⟩
        · exact Pc.dg_nil L _
        · exact h
      rename_i K hK
      refine hK _ _ ?_
      exact stage27 s L _ hg HLen hsz neg a b fs fe (Nat.le_of_lt hab) h1 h2 h3 HDi hDg (fun hasE eneg es hX n ok hs => HFin.out dot fs fe hasE eneg es hF hX n ok hs) _ _ _ _ _ _ _ _ _ _ _ _ _ _ _ _ _ _ _ _ _ _ _ _ _ _ _ _ _ _ _ _ _ _ _ _ _ _ _ _ _ _ _ _ _ _ _ _ _ _ _ _ _ _ _ _ _ _ _ _ _ _ _ _ _ _ _ _ _ _ _ _ _ _ _ _ _ _ _ _ _ _ _ _ _ _ _ _ _ _ _ _ _ _ _ _ _ _ _ _ _ _ _ _ _ _ _ _ _ _ _ _ _ _ _ _ _ _ _ _ _ _ _ _ _ _ _ _ _ _ _ _ _ _ _ _ _ _ _ _ _ _ _ _ _ _ _ _ _ _ _ _ _ _ _ _ _ _ _ _ _ _ _ _ _ _ _ _ _ _ _ _ _ _ _ _ _ _ _ _ _ _ _ _ _ _ _ _ _ _ _ _ _ _ _ _ _ _ _ _ _ _ _ _ _ _ _ _ _ _ _ _ _ _ _ _ _ _ _ _ _ _ _ _ _ _ _ _
end Go.Proofs.Qxb6600740aDoor
