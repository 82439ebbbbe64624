/-
  zzModelPercent, cut into stages: the exponent's digits.
-/
import Derived.Test.Qxb6600740aDoorM2
namespace Go.Proofs.Qxb6600740aDoor
open Go.RowKit

/-- the exponent as the model keeps it, beside the true one -/
def CapRel (E e : Int) : Prop := E = e ∨ (1000000000000 ≤ E ∧ 1000000000000 ≤ e) ∨ (E ≤ -1000000000000 ∧ e ≤ -1000000000000)

theorem model_bound (L : List UInt8) (a b fs fe : Nat) (hab : a ≤ b) (hbf : b ≤ fs) (hfs : fs ≤ fe) (hfe : fe ≤ L.length) (K : Nat) (hL : L.length ≤ K) (h1 : Pc.Dg L a b) (h2 : Pc.Dg L fs fe) :
    Pc.val (Pc.sl L a b ++ Pc.sl L fs fe) < 10 ^ K := by
  have hd : Pc.allDig (Pc.sl L a b ++ Pc.sl L fs fe) = true := by
    rw [Pc.allDig_append, Pc.sl_dig hab (by omega) h1, Pc.sl_dig hfs hfe h2]; rfl
  have hl : (Pc.sl L a b ++ Pc.sl L fs fe).length ≤ K := by
    rw [List.length_append, Pc.sl_len L a b hab (by omega), Pc.sl_len L fs fe hfs hfe]
    omega
  exact Nat.lt_of_lt_of_le (Pc.val_lt _ hd) (Nat.pow_le_pow_right (by decide) hl)

/-- what is left of a sequence, at whatever depth, from the statement that opens with region n -/
def tailIn (n : Nat) : Code → Option Code
  | .seq a b => if firstRegion a == some n then some (.seq a b) else match tailIn n a with
    | some c => some c
    | none => tailIn n b
  | .cond _ a b => match tailIn n a with
    | some c => some c
    | none => tailIn n b
  | .block _ c => tailIn n c
  | .scope c => tailIn n c
  | .loop c => tailIn n c
  | _ => none

set_option maxRecDepth 100000 in
set_option maxHeartbeats 4000000 in
theorem stage34 (s : ByteArray) (L : List UInt8) (w : World) (hg : ∀ (n : Nat) (h : n < s.size), ((s[n]'h).toNat : Int) = Pc.nb L n) (HLen : Hid (L.length = s.size)) (hsz : s.size ≤ 65536)
    (fe : Nat) (hE1 : fe < s.size) (HE2 : Hid (Pc.nb L fe = 101 ∨ Pc.nb L fe = 69)) (es : Nat) (eneg : Bool) (hes : es ≤ s.size)
    (HSig : Hid ((es = fe + 1 ∧ eneg = false) ∨ (es = fe + 2 ∧ Pc.nb L (fe + 1) = 43 ∧ eneg = false) ∨ (es = fe + 2 ∧ Pc.nb L (fe + 1) = 45 ∧ eneg = true)))
    (c1 c2 c3 c4 c7 c8 c9 c10 c11 c14 c15 c16 c17 c18 c19 c20 c21 c22 c23 c24 c25 c26 c27 c28 c29 c30 c31 c32 c33 c34 c35 c36 c37 c38 c39 c40 c41 c42 c43 c44 c45 c46 c47 c48 c49 c50 c51 c52 c53 c54 c55 c56 c57 c58 c59 c60 c61 c62 c63 c64 c65 c66 c67 c68 c69 c70 c71 c72 c73 c74 c75 c76 c77 c78 c79 c80 c81 c82 c83 c84 c85 c86 c87 c88 c89 c90 c91 c92 c93 c94 c95 c96 c97 c98 c99 c100 c101 c102 c103 c104 c105 c106 c107 c108 c109 c110 c111 c112 c113 c114 c115 c116 c117 c118 c119 c120 c121 c122 c123 c124 c125 c126 c127 c128 c129 c130 c131 c132 c133 c134 c135 c136 c137 c138 c139 c140 c141 c142 c143 c144 c145 c146 c147 c148 c149 c150 c151 c152 c153 c154 c155 c156 c157 c158 c159 c160 c161 c162 c163 c164 c165 c166 c167 c168 c169 c170 c171 c172 c173 c174 c175 c176 c177 c178 c179 c180 c181 c182 c183 c184 c185 c186 c187 c188 c189 c190 c191 c192 c193 c194 c195 c196 c197 c198 c199 c200 c201 c202 c203 c204 c205 c206 c207 c208 c209 c210 c211 c212 c213 c214 c215 c216 c217 c218 c219 c220 c221 c222 c223 c224 c225 c226 c227 c228 c229 c230 c231 c232 c233 c234 c235 : Value) (J K : Act → World → Prop) (hJK : ∀ a' w', Met J a' w' → K a' w')
    (HK : Hid (∀ (i : Nat) (e : Int) (u14 u130 u131 u132 u133 u134 u135 u136 u137 u138 u139 u140 u141 u142 u143 u144 u145 u146 u147 u148 u149 u150 u151 u152 u153 u154 u155 u156 u157 : Value), i ≤ s.size → -20000000000000 ≤ e → e ≤ 20000000000000 → (i = s.size → ∃ hasE eneg es, Pc.ExpOK L fe hasE eneg es ∧ CapRel (Pc.expVal L hasE eneg es) e) → J ⟨#[.string s, c1, c2, c3, c4, .int .i64 s.size, .int .i64 i, c7, c8, c9, c10, c11, .int .i64 e, .bool eneg, u14, c15, c16, c17, c18, c19, c20, c21, c22, c23, c24, c25, c26, c27, c28, c29, c30, c31, c32, c33, c34, c35, c36, c37, c38, c39, c40, c41, c42, c43, c44, c45, c46, c47, c48, c49, c50, c51, c52, c53, c54, c55, c56, c57, c58, c59, c60, c61, c62, c63, c64, c65, c66, c67, c68, c69, c70, c71, c72, c73, c74, c75, c76, c77, c78, c79, c80, c81, c82, c83, c84, c85, c86, c87, c88, c89, c90, c91, c92, c93, c94, c95, c96, c97, c98, c99, c100, c101, c102, c103, c104, c105, c106, c107, c108, c109, c110, c111, c112, c113, c114, c115, c116, c117, c118, c119, c120, c121, c122, c123, c124, c125, c126, c127, c128, c129, u130, u131, u132, u133, u134, u135, u136, u137, u138, u139, u140, u141, u142, u143, u144, u145, u146, u147, u148, u149, u150, u151, u152, u153, u154, u155, u156, u157, c158, c159, c160, c161, c162, c163, c164, c165, c166, c167, c168, c169, c170, c171, c172, c173, c174, c175, c176, c177, c178, c179, c180, c181, c182, c183, c184, c185, c186, c187, c188, c189, c190, c191, c192, c193, c194, c195, c196, c197, c198, c199, c200, c201, c202, c203, c204, c205, c206, c207, c208, c209, c210, c211, c212, c213, c214, c215, c216, c217, c218, c219, c220, c221, c222, c223, c224, c225, c226, c227, c228, c229, c230, c231, c232, c233, c234, c235], []⟩ w)) :
    Code.wp Tryd.prog ((Tryd.f7.body.bind (tailIn 34)).getD .skip) (Exit.then K (bodyPost Tryd.prog Tryd.f7 (ModelEnd L w))) ⟨#[.string s, c1, c2, c3, c4, .int .i64 s.size, .int .i64 es, c7, c8, c9, c10, c11, .int .i64 0, .bool eneg, c14, c15, c16, c17, c18, c19, c20, c21, c22, c23, c24, c25, c26, c27, c28, c29, c30, c31, c32, c33, c34, c35, c36, c37, c38, c39, c40, c41, c42, c43, c44, c45, c46, c47, c48, c49, c50, c51, c52, c53, c54, c55, c56, c57, c58, c59, c60, c61, c62, c63, c64, c65, c66, c67, c68, c69, c70, c71, c72, c73, c74, c75, c76, c77, c78, c79, c80, c81, c82, c83, c84, c85, c86, c87, c88, c89, c90, c91, c92, c93, c94, c95, c96, c97, c98, c99, c100, c101, c102, c103, c104, c105, c106, c107, c108, c109, c110, c111, c112, c113, c114, c115, c116, c117, c118, c119, c120, c121, c122, c123, c124, c125, c126, c127, c128, c129, c130, c131, c132, c133, c134, c135, c136, c137, c138, c139, c140, c141, c142, c143, c144, c145, c146, c147, c148, c149, c150, c151, c152, c153, c154, c155, c156, c157, c158, c159, c160, c161, c162, c163, c164, c165, c166, c167, c168, c169, c170, c171, c172, c173, c174, c175, c176, c177, c178, c179, c180, c181, c182, c183, c184, c185, c186, c187, c188, c189, c190, c191, c192, c193, c194, c195, c196, c197, c198, c199, c200, c201, c202, c203, c204, c205, c206, c207, c208, c209, c210, c211, c212, c213, c214, c215, c216, c217, c218, c219, c220, c221, c222, c223, c224, c225, c226, c227, c228, c229, c230, c231, c232, c233, c234, c235], []⟩ w := by
  conv => arg 2; whnf
  go_upto_block 4 with fail
  go_cut [6, 12] (fun s6 s12 wc3 => ∃ k e : Nat, s6 = .int .i64 k ∧ s12 = .int .i64 e ∧ es ≤ k ∧ k ≤ s.size ∧ e ≤ 10000000000000 ∧ Pc.Dg L es k ∧ Pc.Capped (Pc.val (Pc.sl L es k)) e ∧ wc3 = w)
  case first =>
    go_wp2_with fail
    go_loop [6, 12] (fun s6 s12 => ∃ k e : Nat, s6 = .int .i64 k ∧ s12 = .int .i64 e ∧ es ≤ k ∧ k ≤ s.size ∧ e ≤ 10000000000000 ∧ Pc.Dg L es k ∧ Pc.Capped (Pc.val (Pc.sl L es k)) e) (fun s6 _ => s.size - (intOf s6).toNat)
    case atStart => exact ⟨es, 0, rfl, rfl, Nat.le_refl _, hes, by omega, Pc.dg_nil L es, by rw [Pc.sl_nil]; exact .inl rfl⟩
    case round =>
      obtain ⟨k, e, rfl, rfl, hk1, hk2, hek, hDk, hCap⟩ := hrel
      have HDk := hide hDk
      have HCap := hide hCap
      clear hDk hCap
      by_cases hlt : k < s.size
      · by_cases hd : 48 ≤ Pc.nb L k ∧ Pc.nb L k ≤ 57
        · have K2 := hide (fun w => digit13_yes (Pc.nb L k) w hd.1 hd.2)
          obtain ⟨v, hv⟩ : ∃ v : Nat, Pc.nb L k = 48 + (v : Int) := ⟨(Pc.nb L k - 48).toNat, by omega⟩
          have hv9 : v ≤ 9 := by omega
          have hdv : Pc.dv (L.getD k 0) = v := by
            unfold Pc.dv
            unfold Pc.nb at hv
            omega
          have HDV := hide hdv
          have HSN := hide (Pc.sl_snoc L es k hk1 (by rw [HLen.out]; omega))
          have HD2 := hide hd
          rw [hv] at K2
          clear hd hdv
          have hekI : (e : Int) ≤ 10000000000000 := by omega
          have he0 : 0 ≤ (e : Int) := by omega
          have HEK := hide hek
          clear hek
          generalize hei : (e : Int) = ei at hekI he0 ⊢
          have HEI := hide hei
          clear hei
          by_cases hcap : ei < 1000000000000
          · go_wp2_with fail
            refine (K2.out _).mono ?_
            rintro e1 w' ⟨rfl, rfl⟩
            go_wp2
            go_round
            case rel =>
              have hee := HEI.out
              refine ⟨k + 1, e * 10 + v, by go_num, by rw [show ((e * 10 + v : Nat) : Int) = ei * 10 + v by omega]; go_num, by omega, by omega, by omega, Pc.dg_snoc HDk.out HD2.out.1 HD2.out.2, ?_⟩
              rw [HSN.out]
              have := Pc.cap_step (L.getD k 0) HCap.out (by omega)
              rw [HDV.out] at this
              exact this
            case measure => simp [intOf]; omega
          · go_wp2_with fail
            refine (K2.out _).mono ?_
            rintro e1 w' ⟨rfl, rfl⟩
            go_wp2
            go_round
            case rel => exact ⟨k + 1, e, by go_num, by rw [HEI.out], by omega, by omega, HEK.out, Pc.dg_snoc HDk.out HD2.out.1 HD2.out.2, by rw [HSN.out]; exact Pc.cap_stay _ HCap.out (by have := HEI.out; omega)⟩
            case measure => simp [intOf]; omega
        · have K2 := hide (fun w => digit13_no (Pc.nb L k) w (by omega))
          clear hd
          go_wp2_with fail
          refine (K2.out _).mono ?_
          rintro e1 w' ⟨rfl, rfl⟩
          go_wp2_with fail
          go_meet
          exact ⟨k, e, rfl, rfl, hk1, hk2, hek, HDk.out, HCap.out, rfl⟩
      · go_wp2_with fail
        go_meet
        exact ⟨k, e, rfl, rfl, hk1, hk2, hek, HDk.out, HCap.out, rfl⟩
  case rest =>
    obtain ⟨k, e, rfl, rfl, hk1, hk2, hek, hDk, hCap, rfl⟩ := hcut
    have HDk := hide hDk
    have HCap := hide hCap
    clear hDk hCap
    by_cases hke : k = es
    · subst hke
      go_wp2
      go_ret3
      exact model_no L _
    · have hne : ((k : Int) == (es : Int)) = false := by simp; omega
      have hfin : ∀ ee : Int, ee = (if eneg then -(e : Int) else (e : Int)) → k = s.size → ∃ hasE eneg es, Pc.ExpOK L fe hasE eneg es ∧ CapRel (Pc.expVal L hasE eneg es) ee := by
        intro ee hee hk
        have hks : L.length = k := by rw [HLen.out, hk]
        refine ⟨true, eneg, es, .inr ⟨rfl, by rw [HLen.out]; exact hE1, HE2.out, by rw [hks]; omega, by rw [hks]; exact HDk.out, HSig.out⟩, ?_⟩
        unfold Pc.expVal
        rw [hee, hks]
        have hcp := HCap.out
        cases eneg with
        | false =>
          rcases hcp with h | ⟨h1, h2⟩
          · exact .inl (by rw [h]; rfl)
          · exact .inr (.inl ⟨by simp; omega, by simp; omega⟩)
        | true =>
          rcases hcp with h | ⟨h1, h2⟩
          · exact .inl (by rw [h]; rfl)
          · exact .inr (.inr ⟨by simp; omega, by simp; omega⟩)
      have HF := hide hfin
      clear hfin
      cases eneg with
      | false =>
        go_wp2_with fail
        refine Met.intro ?_
        exact HK.out k e _ _ _ _ _ _ _ _ _ _ _ _ _ _ _ _ _ _ _ _ _ _ _ _ _ _ _ _ _ hk2 (by omega) (by omega) (HF.out _ rfl)
      | true =>
        go_wp2_with fail
        refine Met.intro ?_
        exact HK.out k (-(e : Int)) _ _ _ _ _ _ _ _ _ _ _ _ _ _ _ _ _ _ _ _ _ _ _ _ _ _ _ _ _ hk2 (by omega) (by omega) (HF.out _ rfl)
end Go.Proofs.Qxb6600740aDoor
