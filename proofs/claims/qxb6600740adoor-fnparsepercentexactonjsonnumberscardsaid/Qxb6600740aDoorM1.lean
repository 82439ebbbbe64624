/-
  zzModelPercent, cut into stages: its last lines.
-/
import Derived.Test.Qxb6600740aDoorT1
import Derived.Test.Qxb6600740aDoorModel
import Derived.Deep.CutBlock
namespace Go.Proofs.Qxb6600740aDoor
open Go.RowKit

theorem get_nb (b : ByteArray) (L : List UInt8) (hL : b.data.toList = L) : ∀ (n : Nat) (h : n < b.size), ((b[n]'h).toNat : Int) = Pc.nb L n := fun n h => by
  subst hL
  unfold Pc.nb
  rw [List.getD_eq_getElem?_getD, List.getElem?_eq_getElem (by simpa using h)]
  rfl

set_option maxHeartbeats 400000 in
theorem digit13_yes (c : Int) (w : World) (h1 : 48 ≤ c) (h2 : c ≤ 57) : Calls Tryd.prog 13 #[.int .u8 c] w fun e w' => e = .returned (.bool true) ∧ w' = w := by
  go_enter Tryd.func13, Tryd.ntmps13
  go_wp2
  go_ret
  exact ⟨rfl, rfl⟩
set_option maxHeartbeats 400000 in
theorem digit13_no (c : Int) (w : World) (h : c < 48 ∨ 57 < c) : Calls Tryd.prog 13 #[.int .u8 c] w fun e w' => e = .returned (.bool false) ∧ w' = w := by
  rcases h with h | h
  · go_enter Tryd.func13, Tryd.ntmps13
    go_wp2
    go_ret
    exact ⟨rfl, rfl⟩
  · have h1 : 48 ≤ c := by omega
    go_enter Tryd.func13, Tryd.ntmps13
    go_wp2
    go_ret
    exact ⟨ret_bool (by simp; omega), rfl⟩
set_option maxHeartbeats 400000 in
theorem pow14 (p : Nat) (w : World) (h : p ≤ 4) : Calls Tryd.prog 14 #[.int .i64 p] w fun e w' => e = .returned (.int .i64 ((10 ^ p : Nat) : Int)) ∧ w' = w := by
  match p, h with
  | 0, _ => go_enter Tryd.func14, Tryd.ntmps14; go_wp2; go_ret; exact ⟨rfl, rfl⟩
  | 1, _ => go_enter Tryd.func14, Tryd.ntmps14; go_wp2; go_ret; exact ⟨rfl, rfl⟩
  | 2, _ => go_enter Tryd.func14, Tryd.ntmps14; go_wp2; go_ret; exact ⟨rfl, rfl⟩
  | 3, _ => go_enter Tryd.func14, Tryd.ntmps14; go_wp2; go_ret; exact ⟨rfl, rfl⟩
  | 4, _ => go_enter Tryd.func14, Tryd.ntmps14; go_wp2; go_ret; exact ⟨rfl, rfl⟩

def Good (L : List UInt8) (n : Int) (ok : Bool) : Prop :=
  ∃ neg ip fr dot hasE c t E, Pc.Shape L neg ip fr dot hasE c t E ∧ Pc.SpecRel (Pc.val (ip ++ fr)) (E + 2 - fr.length) neg n ok
def ModelEnd (L : List UInt8) (w : World) (e : Ending) (w' : World) : Prop :=
  ∃ (valid : Bool) (n : Int) (ok : Bool), e = .returned (.tuple #[.bool valid, .int .i64 n, .bool ok]) ∧ w' = w ∧ (valid = true → Good L n ok)
theorem model_no (L : List UInt8) (w : World) : ModelEnd L w (.returned (.tuple #[.bool false, .int .i64 0, .bool false])) w := ⟨false, 0, false, rfl, rfl, fun h => by cases h⟩

/-- the number of the first region -/
def firstRegion : Code → Option Nat
  | .region n _ _ => some n
  | .seq a b => match firstRegion a with
    | some n => some n
    | none => firstRegion b
  | .block _ c => firstRegion c
  | .scope c => firstRegion c
  | .loop c => firstRegion c
  | _ => none
/-- what is left of a sequence from the statement that opens with region n -/
def tailAt (n : Nat) : Code → Option Code
  | .seq a b => if firstRegion a == some n then some (.seq a b) else tailAt n b
  | _ => none

set_option maxRecDepth 100000 in
set_option maxHeartbeats 4000000 in
theorem stage68 (L : List UInt8) (w : World) (neg nz out : Bool) (sm : Nat) (hsm : sm ≤ 5898240000)
    (h1 : nz = false → Good L 0 true) (h2 : nz = true → (neg = true ∨ out = true ∨ 10000 < sm) → Good L 0 false) (h3 : nz = true → neg = false → out = false → ¬ 10000 < sm → Good L sm true)
    (c0 c1 c2 c3 c4 c5 c6 c8 c9 c10 c11 c12 c13 c14 c18 c19 c20 c21 c22 c23 c24 c25 c26 c27 c28 c29 c30 c31 c32 c33 c34 c35 c36 c37 c38 c39 c40 c41 c42 c43 c44 c45 c46 c47 c48 c49 c50 c51 c52 c53 c54 c55 c56 c57 c58 c59 c60 c61 c62 c63 c64 c65 c66 c67 c68 c69 c70 c71 c72 c73 c74 c75 c76 c77 c78 c79 c80 c81 c82 c83 c84 c85 c86 c87 c88 c89 c90 c91 c92 c93 c94 c95 c96 c97 c98 c99 c100 c101 c102 c103 c104 c105 c106 c107 c108 c109 c110 c111 c112 c113 c114 c115 c116 c117 c118 c119 c120 c121 c122 c123 c124 c125 c126 c127 c128 c129 c130 c131 c132 c133 c134 c135 c136 c137 c138 c139 c140 c141 c142 c143 c144 c145 c146 c147 c148 c149 c150 c151 c152 c153 c154 c155 c156 c157 c158 c159 c160 c161 c162 c163 c164 c165 c166 c167 c168 c169 c170 c171 c172 c173 c174 c175 c176 c177 c178 c179 c180 c181 c182 c183 c184 c185 c186 c187 c188 c189 c190 c191 c192 c193 c194 c195 c196 c197 c198 c199 c200 c201 c202 c203 c204 c205 c206 c207 c208 c209 c210 c211 c212 c213 c214 c215 c216 c217 c218 c219 c220 c221 c222 c223 c224 c225 c226 c227 c228 c229 c230 c231 c232 c233 c234 c235 : Value) :
    Code.wp Tryd.prog ((Tryd.f7.body.bind (tailAt 68)).getD .skip) (bodyPost Tryd.prog Tryd.f7 (ModelEnd L w)) ⟨#[c0, c1, c2, c3, c4, c5, c6, .bool neg, c8, c9, c10, c11, c12, c13, c14, .int .i64 sm, .bool nz, .bool out, c18, c19, c20, c21, c22, c23, c24, c25, c26, c27, c28, c29, c30, c31, c32, c33, c34, c35, c36, c37, c38, c39, c40, c41, c42, c43, c44, c45, c46, c47, c48, c49, c50, c51, c52, c53, c54, c55, c56, c57, c58, c59, c60, c61, c62, c63, c64, c65, c66, c67, c68, c69, c70, c71, c72, c73, c74, c75, c76, c77, c78, c79, c80, c81, c82, c83, c84, c85, c86, c87, c88, c89, c90, c91, c92, c93, c94, c95, c96, c97, c98, c99, c100, c101, c102, c103, c104, c105, c106, c107, c108, c109, c110, c111, c112, c113, c114, c115, c116, c117, c118, c119, c120, c121, c122, c123, c124, c125, c126, c127, c128, c129, c130, c131, c132, c133, c134, c135, c136, c137, c138, c139, c140, c141, c142, c143, c144, c145, c146, c147, c148, c149, c150, c151, c152, c153, c154, c155, c156, c157, c158, c159, c160, c161, c162, c163, c164, c165, c166, c167, c168, c169, c170, c171, c172, c173, c174, c175, c176, c177, c178, c179, c180, c181, c182, c183, c184, c185, c186, c187, c188, c189, c190, c191, c192, c193, c194, c195, c196, c197, c198, c199, c200, c201, c202, c203, c204, c205, c206, c207, c208, c209, c210, c211, c212, c213, c214, c215, c216, c217, c218, c219, c220, c221, c222, c223, c224, c225, c226, c227, c228, c229, c230, c231, c232, c233, c234, c235], []⟩ w := by
  conv => arg 2; whnf
  have H1 := hide h1
  have H2 := hide h2
  have H3 := hide h3
  clear h1 h2 h3
  cases nz with
  | false =>
    go_wp2
    go_ret3
    exact ⟨true, 0, true, rfl, rfl, fun _ => by have := H1.out; simpa using this⟩
  | true =>
    cases neg with
    | true =>
      go_wp2
      go_ret3
      exact ⟨true, 0, false, rfl, rfl, fun _ => by have := H2.out; simpa using this⟩
    | false =>
      cases out with
      | true =>
        go_wp2
        go_ret3
        exact ⟨true, 0, false, rfl, rfl, fun _ => by have := H2.out; simpa using this⟩
      | false =>
        by_cases hs : 10000 < sm
        · go_wp2
          go_ret3
          exact ⟨true, 0, false, rfl, rfl, fun _ => by have := H2.out; simp at this; exact this hs⟩
        · go_wp2
          go_ret3
          exact ⟨true, sm, true, rfl, rfl, fun _ => by have := H3.out; simp at this; exact this (by omega)⟩

set_option maxRecDepth 100000 in
set_option maxHeartbeats 4000000 in
theorem stage58 (s : ByteArray) (L : List UInt8) (w : World) (hg : ∀ (n : Nat) (h : n < s.size), ((s[n]'h).toNat : Int) = Pc.nb L n) (HLen : Hid (L.length = s.size)) (hsz : s.size ≤ 65536)
    (neg nz out : Bool) (sm fs fe : Nat) (e : Int) (Q : List UInt8) (hfs : fs ≤ fe) (hfe : fe ≤ s.size) (he1 : -20000000000000 ≤ e) (he2 : e ≤ 20000000000000) (HDg : Hid (Pc.Dg L fs fe))
    (hQl : Q.length + (fe - fs) ≤ 65536) (HQ : Hid (Pc.allDig Q = true)) (HSum : Hid (Pc.SumOK Q (e + 2) sm nz out))
    (HGood : Hid (∀ n ok, Pc.SpecRel (Pc.val (Q ++ Pc.sl L fs fe)) (e + 2 - ((fe : Int) - fs)) neg n ok → Good L n ok))
    (c1 c2 c3 c4 c5 c6 c8 c9 c13 c14 c18 c19 c20 c21 c22 c23 c24 c25 c26 c27 c28 c29 c30 c31 c32 c33 c34 c35 c36 c37 c38 c39 c40 c41 c42 c43 c44 c45 c46 c47 c48 c49 c50 c51 c52 c53 c54 c55 c56 c57 c58 c59 c60 c61 c62 c63 c64 c65 c66 c67 c68 c69 c70 c71 c72 c73 c74 c75 c76 c77 c78 c79 c80 c81 c82 c83 c84 c85 c86 c87 c88 c89 c90 c91 c92 c93 c94 c95 c96 c97 c98 c99 c100 c101 c102 c103 c104 c105 c106 c107 c108 c109 c110 c111 c112 c113 c114 c115 c116 c117 c118 c119 c120 c121 c122 c123 c124 c125 c126 c127 c128 c129 c130 c131 c132 c133 c134 c135 c136 c137 c138 c139 c140 c141 c142 c143 c144 c145 c146 c147 c148 c149 c150 c151 c152 c153 c154 c155 c156 c157 c158 c159 c160 c161 c162 c163 c164 c165 c166 c167 c168 c169 c170 c171 c172 c173 c174 c175 c176 c177 c178 c179 c180 c181 c182 c183 c184 c185 c186 c187 c188 c189 c190 c191 c192 c193 c194 c195 c196 c197 c198 c199 c200 c201 c202 c203 c204 c205 c206 c207 c208 c209 c210 c211 c212 c213 c214 c215 c216 c217 c218 c219 c220 c221 c222 c223 c224 c225 c226 c227 c228 c229 c230 c231 c232 c233 c234 c235 : Value) :
    Code.wp Tryd.prog ((Tryd.f7.body.bind (tailAt 58)).getD .skip) (bodyPost Tryd.prog Tryd.f7 (ModelEnd L w)) ⟨#[.string s, c1, c2, c3, c4, c5, c6, .bool neg, c8, c9, .int .i64 fs, .int .i64 fe, .int .i64 e, c13, c14, .int .i64 sm, .bool nz, .bool out, c18, c19, c20, c21, c22, c23, c24, c25, c26, c27, c28, c29, c30, c31, c32, c33, c34, c35, c36, c37, c38, c39, c40, c41, c42, c43, c44, c45, c46, c47, c48, c49, c50, c51, c52, c53, c54, c55, c56, c57, c58, c59, c60, c61, c62, c63, c64, c65, c66, c67, c68, c69, c70, c71, c72, c73, c74, c75, c76, c77, c78, c79, c80, c81, c82, c83, c84, c85, c86, c87, c88, c89, c90, c91, c92, c93, c94, c95, c96, c97, c98, c99, c100, c101, c102, c103, c104, c105, c106, c107, c108, c109, c110, c111, c112, c113, c114, c115, c116, c117, c118, c119, c120, c121, c122, c123, c124, c125, c126, c127, c128, c129, c130, c131, c132, c133, c134, c135, c136, c137, c138, c139, c140, c141, c142, c143, c144, c145, c146, c147, c148, c149, c150, c151, c152, c153, c154, c155, c156, c157, c158, c159, c160, c161, c162, c163, c164, c165, c166, c167, c168, c169, c170, c171, c172, c173, c174, c175, c176, c177, c178, c179, c180, c181, c182, c183, c184, c185, c186, c187, c188, c189, c190, c191, c192, c193, c194, c195, c196, c197, c198, c199, c200, c201, c202, c203, c204, c205, c206, c207, c208, c209, c210, c211, c212, c213, c214, c215, c216, c217, c218, c219, c220, c221, c222, c223, c224, c225, c226, c227, c228, c229, c230, c231, c232, c233, c234, c235], []⟩ w := by
  conv => arg 2; whnf
  go_upto_block 8 with fail
  go_cut [15, 16, 17, 21, 22, 23] (fun s15 s16 s17 _ _ _ wc => ∃ (sm' : Nat) (nz' out' : Bool), s15 = .int .i64 sm' ∧ s16 = .bool nz' ∧ s17 = .bool out' ∧ Pc.SumOK (Q ++ Pc.sl L fs fe) (e + 2 - ((fe : Int) - fs)) sm' nz' out' ∧ wc = w)
  case first =>
    go_wp2_with fail
    go_loop [15, 16, 17, 21, 22, 23] (fun s15 s16 s17 s21 _ _ => ∃ (k sm' : Nat) (nz' out' : Bool), s21 = .int .i64 k ∧ fs ≤ k ∧ k ≤ fe ∧ s15 = .int .i64 sm' ∧ s16 = .bool nz' ∧ s17 = .bool out' ∧ Pc.SumOK (Q ++ Pc.sl L fs k) (e + 2 - ((k : Int) - fs)) sm' nz' out') (fun _ _ _ s21 _ _ => fe - (intOf s21).toNat)
    case atStart =>
      refine ⟨fs, sm, nz, out, rfl, Nat.le_refl _, hfs, rfl, rfl, rfl, ?_⟩
      rw [Pc.sl_nil, List.append_nil, show e + 2 - ((fs : Int) - fs) = e + 2 by omega]
      exact HSum.out
    case round =>
      obtain ⟨k, sm', nz', out', rfl, hk1, hk2, rfl, rfl, rfl, hS⟩ := hrel
      by_cases hlt : k < fe
      · have hdig := HDg.out k hk1 hlt
        obtain ⟨v, hv⟩ : ∃ v : Nat, Pc.nb L k = 48 + (v : Int) := ⟨(Pc.nb L k - 48).toNat, by omega⟩
        have hv9 : v ≤ 9 := by omega
        have hdv : Pc.dv (L.getD k 0) = v := by
          unfold Pc.dv
          unfold Pc.nb at hv
          omega
        have hsn : Q ++ Pc.sl L fs (k + 1) = (Q ++ Pc.sl L fs k) ++ [L.getD k 0] := by
          rw [Pc.sl_snoc L fs k hk1 (by rw [HLen.out]; omega), List.append_assoc]
        have hyy : e + 2 - (((k + 1 : Nat) : Int) - fs) = e + 2 - ((k : Int) - fs) - 1 := by omega
        have hll : (Q ++ Pc.sl L fs k).length ≤ 65536 := by
          rw [List.length_append, Pc.sl_len L fs k hk1 (by rw [HLen.out]; omega)]
          omega
        have hsmb : sm' ≤ 5898240000 := by
          have h1 := hS.2.1
          have h2 := Nat.mul_le_mul_right 90000 hll
          omega
        have HSN := hide hsn
        have HYY := hide hyy
        have HDV := hide hdv
        have HSS := hide hS
        clear hsn hyy hdv hS hdig hll
        by_cases h0 : v = 0
        · have hq : ((v : Int) == 0) = true := by simp [h0]
          have H0 := hide h0
          clear h0
          go_wp2
          go_round
          case rel => exact ⟨k + 1, sm', nz', out', by go_num, by omega, by omega, rfl, rfl, rfl, by rw [HSN.out, HYY.out]; exact Pc.sum_skip HSS.out _ (by rw [HDV.out]; exact H0.out)⟩
          case measure => simp [intOf]; omega
        · have hq : ((v : Int) == 0) = false := by simp [h0]
          by_cases hp : e + 2 - ((k : Int) - fs + 1) < 0 ∨ 4 < e + 2 - ((k : Int) - fs + 1)
          · have HP := hide hp
            rcases hp with hp | hp
            all_goals
              go_wp2
              go_round
              case rel => exact ⟨k + 1, sm', true, true, by go_num, by omega, by omega, rfl, rfl, rfl, by rw [HSN.out, HYY.out]; exact Pc.sum_out HSS.out _ (by rw [HDV.out]; exact h0) (by have := HP.out; omega)⟩
              case measure => simp [intOf]; omega
          · obtain ⟨p, hpp⟩ : ∃ p : Nat, e + 2 - ((k : Int) - fs + 1) = p := ⟨(e + 2 - ((k : Int) - fs + 1)).toNat, by omega⟩
            have hp4 : p ≤ 4 := by omega
            have K14 : Hid (∀ w, Calls Tryd.prog 14 #[.int .i64 (e + 2 - ((k : Int) - fs + 1))] w fun e w' => e = .returned (.int .i64 ((10 ^ p : Nat) : Int)) ∧ w' = w) := fun w => by rw [hpp]; exact pow14 p w hp4
            have hpow : 10 ^ p ≤ 10000 := by
              have : 10 ^ p ≤ 10 ^ 4 := Nat.pow_le_pow_right (by decide) hp4
              have h4 : (10 : Nat) ^ 4 = 10000 := by decide
              omega
            have HPP := hide hpp
            have hp1 : 0 ≤ e + 2 - ((k : Int) - fs + 1) := by omega
            have hp2 : e + 2 - ((k : Int) - fs + 1) ≤ 4 := by omega
            clear hpp hp
            have hT : (10 ^ p : Nat) = (10 ^ p : Nat) := rfl
            generalize hT2 : (10 ^ p : Nat) = T at K14 hpow hT
            have HT := hide hT2
            clear hT hT2
            have hvT : v * T ≤ 90000 := by
              have := Nat.mul_le_mul hv9 hpow
              omega
            obtain ⟨P, hP⟩ : ∃ P : Nat, P = v * T := ⟨_, rfl⟩
            have hPm : (48 + (v : Int) - 48) * (T : Int) = (P : Int) := by rw [hP, show 48 + (v : Int) - 48 = v by omega, Int.natCast_mul]
            have hPb : P ≤ 90000 := by rw [hP]; exact hvT
            have HP2 := hide hP
            clear hP hvT
            go_wp2_with fail
            refine (K14.out _).mono ?_
            rintro e1 w' ⟨rfl, rfl⟩
            go_wp2
            go_round
            case rel =>
              refine ⟨k + 1, sm' + P, true, out', by go_num, by omega, by omega, by go_num, rfl, rfl, ?_⟩
              rw [HSN.out, HYY.out]
              have hh := Pc.sum_in HSS.out (L.getD k 0) (by rw [HDV.out]; exact h0) (by rw [HDV.out]; exact hv9) (by omega) (by omega)
              rw [HDV.out, show (e + 2 - ((k : Int) - fs) - 1).toNat = p by have := HPP.out; omega, HT.out] at hh
              rw [HP2.out]
              exact hh
            case measure => simp [intOf]; omega
      · obtain rfl : k = fe := by omega
        have HSS := hide hS
        clear hS
        go_wp2_with fail
        go_meet
        exact ⟨sm', nz', out', rfl, rfl, rfl, HSS.out, rfl⟩
  case rest =>
    obtain ⟨sm', nz', out', rfl, rfl, rfl, hS, rfl⟩ := hcut
    have hdd : Pc.allDig (Q ++ Pc.sl L fs fe) = true := by rw [Pc.allDig_append, HQ.out, Pc.sl_dig hfs (by rw [HLen.out]; exact hfe) HDg.out]; rfl
    have hend := Pc.sum_end (neg := neg) hdd hS
    have hll : (Q ++ Pc.sl L fs fe).length ≤ 65536 := by
      rw [List.length_append, Pc.sl_len L fs fe hfs (by rw [HLen.out]; exact hfe)]
      omega
    have hsmb : sm' ≤ 5898240000 := by
      have h1 := hS.2.1
      have h2 := Nat.mul_le_mul_right 90000 hll
      omega
    rename_i K hK
    refine hK _ _ ?_
    exact stage68 L _ neg nz' out' sm' hsmb (fun h => HGood.out _ _ (hend.1 h)) (fun h h' => HGood.out _ _ (hend.2.1 h h')) (fun h h' h'' h3 => HGood.out _ _ (hend.2.2 h h' h'' h3)) _ _ _ _ _ _ _ _ _ _ _ _ _ _ _ _ _ _ _ _ _ _ _ _ _ _ _ _ _ _ _ _ _ _ _ _ _ _ _ _ _ _ _ _ _ _ _ _ _ _ _ _ _ _ _ _ _ _ _ _ _ _ _ _ _ _ _ _ _ _ _ _ _ _ _ _ _ _ _ _ _ _ _ _ _ _ _ _ _ _ _ _ _ _ _ _ _ _ _ _ _ _ _ _ _ _ _ _ _ _ _ _ _ _ _ _ _ _ _ _ _ _ _ _ _ _ _ _ _ _ _ _ _ _ _ _ _ _ _ _ _ _ _ _ _ _ _ _ _ _ _ _ _ _ _ _ _ _ _ _ _ _ _ _ _ _ _ _ _ _ _ _ _ _ _ _ _ _ _ _ _ _ _ _ _ _ _ _ _ _ _ _ _ _ _ _ _ _ _ _ _ _ _ _ _ _ _ _ _ _ _ _ _ _ _ _ _ _ _ _ _ _ _ _ _ _ _ _ _ _ _ _
end Go.Proofs.Qxb6600740aDoor
