/-
  zzModelPercent, cut into stages: the exponent's sign.
-/
import Derived.Test.Qxb6600740aDoorM3a
namespace Go.Proofs.Qxb6600740aDoor
open Go.RowKit

set_option maxRecDepth 100000 in
set_option maxHeartbeats 4000000 in
theorem stage29 (s : ByteArray) (L : List UInt8) (w : World) (hg : ∀ (n : Nat) (h : n < s.size), ((s[n]'h).toNat : Int) = Pc.nb L n) (HLen : Hid (L.length = s.size)) (hsz : s.size ≤ 65536)
    (fe : Nat) (hE1 : fe < s.size) (HE2 : Hid (Pc.nb L fe = 101 ∨ Pc.nb L fe = 69))
    (c1 c2 c3 c4 c7 c8 c9 c10 c11 c13 c14 c15 c16 c17 c18 c19 c20 c21 c22 c23 c24 c25 c26 c27 c28 c29 c30 c31 c32 c33 c34 c35 c36 c37 c38 c39 c40 c41 c42 c43 c44 c45 c46 c47 c48 c49 c50 c51 c52 c53 c54 c55 c56 c57 c58 c59 c60 c61 c62 c63 c64 c65 c66 c67 c68 c69 c70 c71 c72 c73 c74 c75 c76 c77 c78 c79 c80 c81 c82 c83 c84 c85 c86 c87 c88 c89 c90 c91 c92 c93 c94 c95 c96 c97 c98 c99 c100 c101 c102 c103 c104 c105 c106 c107 c108 c109 c110 c111 c112 c113 c114 c115 c116 c117 c118 c119 c120 c121 c122 c123 c124 c125 c126 c127 c128 c129 c130 c131 c132 c133 c134 c135 c136 c137 c138 c139 c140 c141 c142 c143 c144 c145 c146 c147 c148 c149 c150 c151 c152 c153 c154 c155 c156 c157 c158 c159 c160 c161 c162 c163 c164 c165 c166 c167 c168 c169 c170 c171 c172 c173 c174 c175 c176 c177 c178 c179 c180 c181 c182 c183 c184 c185 c186 c187 c188 c189 c190 c191 c192 c193 c194 c195 c196 c197 c198 c199 c200 c201 c202 c203 c204 c205 c206 c207 c208 c209 c210 c211 c212 c213 c214 c215 c216 c217 c218 c219 c220 c221 c222 c223 c224 c225 c226 c227 c228 c229 c230 c231 c232 c233 c234 c235 : Value) (J K : Act → World → Prop) (hJK : ∀ a' w', Met J a' w' → K a' w')
    (HK : Hid (∀ (i : Nat) (e : Int) (u13 u14 u24 u25 u26 u27 u28 u29 u30 u31 u32 u33 u34 u35 u36 u37 u38 u39 u40 u41 u42 u43 u44 u45 u46 u47 u48 u49 u50 u51 u52 u53 u54 u55 u56 u57 u58 u59 u60 u61 u62 u63 u64 u65 u66 u67 u68 u69 u70 u71 u72 u73 u74 u75 u76 u77 u78 u79 u80 u81 u82 u83 u84 u85 u86 u87 u88 u89 u90 u91 u92 u93 u94 u95 u96 u97 u98 u99 u100 u101 u102 u103 u104 u105 u106 u107 u108 u109 u110 u111 u112 u113 u114 u115 u116 u117 u118 u119 u120 u121 u122 u123 u124 u125 u126 u127 u128 u129 u130 u131 u132 u133 u134 u135 u136 u137 u138 u139 u140 u141 u142 u143 u144 u145 u146 u147 u148 u149 u150 u151 u152 u153 u154 u155 u156 u157 u158 u159 u160 u161 u162 u163 u164 u165 u166 u167 u168 u169 u170 u171 u172 u173 u174 u175 u176 u177 u178 u179 u180 u181 u182 u183 u184 u185 u186 u187 u188 u189 u190 u191 u192 u193 u194 u195 u196 u197 u198 u199 u200 u201 u202 u203 u204 u205 u206 u207 u208 u209 u210 u211 u212 u213 u214 u215 u216 u217 u218 u219 u220 u221 u222 u223 u224 u225 u226 u227 u228 u229 u230 u231 u232 u233 u234 u235 : Value), i ≤ s.size → -20000000000000 ≤ e → e ≤ 20000000000000 → (i = s.size → ∃ hasE eneg es, Pc.ExpOK L fe hasE eneg es ∧ CapRel (Pc.expVal L hasE eneg es) e) → J ⟨#[.string s, c1, c2, c3, c4, .int .i64 s.size, .int .i64 i, c7, c8, c9, c10, c11, .int .i64 e, u13, u14, c15, c16, c17, c18, c19, c20, c21, c22, c23, u24, u25, u26, u27, u28, u29, u30, u31, u32, u33, u34, u35, u36, u37, u38, u39, u40, u41, u42, u43, u44, u45, u46, u47, u48, u49, u50, u51, u52, u53, u54, u55, u56, u57, u58, u59, u60, u61, u62, u63, u64, u65, u66, u67, u68, u69, u70, u71, u72, u73, u74, u75, u76, u77, u78, u79, u80, u81, u82, u83, u84, u85, u86, u87, u88, u89, u90, u91, u92, u93, u94, u95, u96, u97, u98, u99, u100, u101, u102, u103, u104, u105, u106, u107, u108, u109, u110, u111, u112, u113, u114, u115, u116, u117, u118, u119, u120, u121, u122, u123, u124, u125, u126, u127, u128, u129, u130, u131, u132, u133, u134, u135, u136, u137, u138, u139, u140, u141, u142, u143, u144, u145, u146, u147, u148, u149, u150, u151, u152, u153, u154, u155, u156, u157, u158, u159, u160, u161, u162, u163, u164, u165, u166, u167, u168, u169, u170, u171, u172, u173, u174, u175, u176, u177, u178, u179, u180, u181, u182, u183, u184, u185, u186, u187, u188, u189, u190, u191, u192, u193, u194, u195, u196, u197, u198, u199, u200, u201, u202, u203, u204, u205, u206, u207, u208, u209, u210, u211, u212, u213, u214, u215, u216, u217, u218, u219, u220, u221, u222, u223, u224, u225, u226, u227, u228, u229, u230, u231, u232, u233, u234, u235], []⟩ w)) :
    Code.wp Tryd.prog ((Tryd.f7.body.bind (tailIn 29)).getD .skip) (Exit.then K (bodyPost Tryd.prog Tryd.f7 (ModelEnd L w))) ⟨#[.string s, c1, c2, c3, c4, .int .i64 s.size, .int .i64 fe, c7, c8, c9, c10, c11, .int .i64 0, c13, c14, c15, c16, c17, c18, c19, c20, c21, c22, c23, c24, c25, c26, c27, c28, c29, c30, c31, c32, c33, c34, c35, c36, c37, c38, c39, c40, c41, c42, c43, c44, c45, c46, c47, c48, c49, c50, c51, c52, c53, c54, c55, c56, c57, c58, c59, c60, c61, c62, c63, c64, c65, c66, c67, c68, c69, c70, c71, c72, c73, c74, c75, c76, c77, c78, c79, c80, c81, c82, c83, c84, c85, c86, c87, c88, c89, c90, c91, c92, c93, c94, c95, c96, c97, c98, c99, c100, c101, c102, c103, c104, c105, c106, c107, c108, c109, c110, c111, c112, c113, c114, c115, c116, c117, c118, c119, c120, c121, c122, c123, c124, c125, c126, c127, c128, c129, c130, c131, c132, c133, c134, c135, c136, c137, c138, c139, c140, c141, c142, c143, c144, c145, c146, c147, c148, c149, c150, c151, c152, c153, c154, c155, c156, c157, c158, c159, c160, c161, c162, c163, c164, c165, c166, c167, c168, c169, c170, c171, c172, c173, c174, c175, c176, c177, c178, c179, c180, c181, c182, c183, c184, c185, c186, c187, c188, c189, c190, c191, c192, c193, c194, c195, c196, c197, c198, c199, c200, c201, c202, c203, c204, c205, c206, c207, c208, c209, c210, c211, c212, c213, c214, c215, c216, c217, c218, c219, c220, c221, c222, c223, c224, c225, c226, c227, c228, c229, c230, c231, c232, c233, c234, c235], []⟩ w := by
  conv => arg 2; whnf
  go_upto_region 31 with fail
  go_cut [123] (fun s123 wc' => ∃ bS : Bool, s123 = .bool bS ∧ (bS = true → fe + 1 < s.size ∧ (Pc.nb L (fe + 1) = 43 ∨ Pc.nb L (fe + 1) = 45)) ∧ wc' = w)
  case first =>
    by_cases h0 : fe + 1 < s.size
    · by_cases h1 : Pc.nb L (fe + 1) = 43
      · have hq : (Pc.nb L (fe + 1) == 43) = true := by simp [h1]
        have H1 := hide h1
        clear h1
        go_wp2_with fail
        go_meet
        exact ⟨true, rfl, fun _ => ⟨h0, .inl H1.out⟩, rfl⟩
      · have hq : (Pc.nb L (fe + 1) == 43) = false := by simp [h1]
        clear h1
        by_cases h2 : Pc.nb L (fe + 1) = 45
        · have hq2 : (Pc.nb L (fe + 1) == 45) = true := by simp [h2]
          have H2 := hide h2
          clear h2
          go_wp2_with fail
          go_meet
          exact ⟨true, rfl, fun _ => ⟨h0, .inr H2.out⟩, rfl⟩
        · have hq2 : (Pc.nb L (fe + 1) == 45) = false := by simp [h2]
          clear h2
          go_wp2_with fail
          go_meet
          exact ⟨false, rfl, fun h => by simp at h, rfl⟩
    · go_wp2_with fail
      go_meet
      exact ⟨false, rfl, fun h => by simp at h, rfl⟩
  case rest =>
    obtain ⟨bS, rfl, hbS, rfl⟩ := hcut
    have HBS := hide hbS
    clear hbS
    go_upto_if 123 with fail
    go_cut [6, 13] (fun s6 s13 wc'' => ∃ (es : Nat) (eneg : Bool), s6 = .int .i64 es ∧ s13 = .bool eneg ∧ es ≤ s.size ∧ ((es = fe + 1 ∧ eneg = false) ∨ (es = fe + 2 ∧ Pc.nb L (fe + 1) = 43 ∧ eneg = false) ∨ (es = fe + 2 ∧ Pc.nb L (fe + 1) = 45 ∧ eneg = true)) ∧ wc'' = wc)
    case first =>
      cases bS with
      | false =>
        go_wp2_with fail
        go_meet
        exact ⟨fe + 1, false, by go_num, rfl, by omega, .inl ⟨rfl, rfl⟩, rfl⟩
      | true =>
        have hS : fe + 1 < s.size ∧ (Pc.nb L (fe + 1) = 43 ∨ Pc.nb L (fe + 1) = 45) := by have := HBS.out; simpa using this
        obtain ⟨hS1, hS2⟩ := hS
        rcases hS2 with hS2 | hS2
        · have hq : (Pc.nb L (fe + 1) == 45) = false := by simp [hS2]
          have HS2 := hide hS2
          clear hS2
          go_wp2_with fail
          go_meet
          exact ⟨fe + 2, false, by go_num, rfl, by omega, .inr (.inl ⟨rfl, HS2.out, rfl⟩), rfl⟩
        · have hq : (Pc.nb L (fe + 1) == 45) = true := by simp [hS2]
          have HS2 := hide hS2
          clear hS2
          go_wp2_with fail
          go_meet
          exact ⟨fe + 2, true, by go_num, rfl, by omega, .inr (.inr ⟨rfl, HS2.out, rfl⟩), rfl⟩
    case rest =>
      obtain ⟨es, eneg, rfl, rfl, hes, hsig, rfl⟩ := hcut
      have HSig := hide hsig
      clear hsig HBS
      rename_i K1 hK1
      refine hK1 _ _ ?_
      exact stage34 s L _ hg HLen hsz fe hE1 HE2 es eneg hes HSig _ _ _ _ _ _ _ _ _ _ _ _ _ _ _ _ _ _ _ _ _ _ _ _ _ _ _ _ _ _ _ _ _ _ _ _ _ _ _ _ _ _ _ _ _ _ _ _ _ _ _ _ _ _ _ _ _ _ _ _ _ _ _ _ _ _ _ _ _ _ _ _ _ _ _ _ _ _ _ _ _ _ _ _ _ _ _ _ _ _ _ _ _ _ _ _ _ _ _ _ _ _ _ _ _ _ _ _ _ _ _ _ _ _ _ _ _ _ _ _ _ _ _ _ _ _ _ _ _ _ _ _ _ _ _ _ _ _ _ _ _ _ _ _ _ _ _ _ _ _ _ _ _ _ _ _ _ _ _ _ _ _ _ _ _ _ _ _ _ _ _ _ _ _ _ _ _ _ _ _ _ _ _ _ _ _ _ _ _ _ _ _ _ _ _ _ _ _ _ _ _ _ _ _ _ _ _ _ _ _ _ _ _ _ _ _ _ _ _ _ _ _ _ _ _ _ _ _ _ _ _ J K hJK (fun i e u14 u130 u131 u132 u133 u134 u135 u136 u137 u138 u139 u140 u141 u142 u143 u144 u145 u146 u147 u148 u149 u150 u151 u152 u153 u154 u155 u156 u157 h1 h2 h3 h4 => HK.out i e _ _ _ _ _ _ _ _ _ _ _ _ _ _ _ _ _ _ _ _ _ _ _ _ _ _ _ _ _ _ _ _ _ _ _ _ _ _ _ _ _ _ _ _ _ _ _ _ _ _ _ _ _ _ _ _ _ _ _ _ _ _ _ _ _ _ _ _ _ _ _ _ _ _ _ _ _ _ _ _ _ _ _ _ _ _ _ _ _ _ _ _ _ _ _ _ _ _ _ _ _ _ _ _ _ _ _ _ _ _ _ _ _ _ _ _ _ _ _ _ _ _ _ _ _ _ _ _ _ _ _ _ _ _ _ _ _ _ _ _ _ _ _ _ _ _ _ _ _ _ _ _ _ _ _ _ _ _ _ _ _ _ _ _ _ _ _ _ _ _ _ _ _ _ _ _ _ _ _ _ _ _ _ _ _ _ _ _ _ _ _ _ _ _ _ _ _ _ _ _ _ _ _ _ _ _ _ _ _ _ _ _ _ _ h1 h2 h3 h4)
end Go.Proofs.Qxb6600740aDoor
