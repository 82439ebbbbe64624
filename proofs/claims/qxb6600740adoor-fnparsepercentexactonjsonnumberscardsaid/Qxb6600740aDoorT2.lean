/-
  The walk of parsePercent.
-/
import Derived.Test.Qxb6600740aDoorT1
namespace Go.Proofs.Qxb6600740aDoor
open Go.RowKit

theorem suffix_iff (D : List UInt8) : Lib.hasSuffix D [48] = true ↔ ∃ r, D = r ++ [48] := by
  unfold Lib.hasSuffix
  rw [List.isSuffixOf_iff_suffix]
  constructor
  · rintro ⟨r, h⟩; exact ⟨r, h.symm⟩
  · rintro ⟨r, h⟩; exact ⟨r, h.symm⟩

theorem rep_zeros (q : Nat) : Lib.repeatL [48] q = List.replicate q 48 := by
  induction q with
  | zero => rfl
  | succ q ih => rw [Lib.repeatL, ih, List.replicate_succ]; rfl

def ParseEnd (N : Nat) (x : Int) (neg : Bool) (w : World) (e : Ending) (w' : World) : Prop :=
  ∃ (n : Int) (ok : Bool), e = .returned (.tuple #[.int .i64 n, .bool ok]) ∧ Pc.SpecRel N x neg n ok ∧ Below w.heap.size w w'

set_option maxRecDepth 100000 in
set_option maxHeartbeats 2000000 in
theorem parse15 {W : World} (hL : Laid W) (num : ByteArray) (neg : Bool) (ip fr : List UInt8) (dot hasE : Bool) (c : UInt8) (t : List UInt8) (E : Int)
    (h : Pc.Shape num.data.toList neg ip fr dot hasE c t E) (hsz : num.size ≤ 70000) (w : World) (hb : Below W.heap.size W w) :
    Calls Tryd.prog 15 #[.string num] w (ParseEnd (Pc.val (ip ++ fr)) (E + 2 - fr.length) neg w) := by
  have lnum : num.size = (Pc.mant neg ip dot fr).length + (Pc.ep hasE c t).length := by rw [Lib.size_eq, h.eq, List.length_append]
  have lbody : (Pc.body ip dot fr).length ≤ (Pc.mant neg ip dot fr).length := by unfold Pc.mant; rw [List.length_append]; omega
  have lpf : ip.length + fr.length ≤ (Pc.body ip dot fr).length := by
    unfold Pc.body Pc.dp
    cases dot with
    | true => simp
    | false => rw [h.nofr rfl]; simp
  have hdig : Pc.allDig (ip ++ fr) = true := by rw [Pc.allDig_append, h.dip, h.dfr]; rfl
  -- the contracts
  have k16 := fun w => Tryd.strings_IndexAny_laid num ⟨#[101, 69]⟩ w (by omega) (by decide) (Pc.ascii_num h) (by
    intro j b hj
    have := List.mem_of_getElem? hj
    simp at this
    rcases this with rfl | rfl <;> decide)
  have k17 := fun w => Tryd.strings_HasPrefix ⟨(Pc.mant neg ip dot fr).toArray⟩ ⟨#[45]⟩ w
  have k19 := fun w => Tryd.strings_TrimPrefix ⟨(Pc.mant neg ip dot fr).toArray⟩ ⟨#[45]⟩ w
  have k18 := fun w => cut18 ip fr dot ⟨(Pc.body ip dot fr).toArray⟩ w (by simp) h.dip h.nofr (by rw [Lib.size_mk]; omega)
  have k20 := fun w => Tryd.strings_TrimLeft_one (⟨ip.toArray⟩ ++ ⟨fr.toArray⟩) 48 (by decide) w
  rw [show (⟨#[101, 69]⟩ : ByteArray).data.toList = [101, 69] from rfl, Pc.any_num h] at k16
  rw [show (⟨(Pc.mant neg ip dot fr).toArray⟩ : ByteArray).data.toList = Pc.mant neg ip dot fr by simp, show (⟨#[45]⟩ : ByteArray).data.toList = [45] from rfl] at k17 k19
  rw [Pc.pre_mant neg h.dip] at k17
  rw [Pc.trim_mant neg h.dip] at k19
  rw [show ((⟨ip.toArray⟩ ++ ⟨fr.toArray⟩ : ByteArray)).data.toList = ip ++ fr by rw [Joins.data_append]] at k20
  have K16 := hide k16
  have K17 := hide k17
  have K18 := hide k18
  have K19 := hide k19
  have K20 := hide k20
  clear k16 k17 k18 k19 k20
  have HE := hide h.eq
  have HtE := hide h.tE
  have HnoE := hide h.noE
  clear h
  generalize hM : Pc.mant neg ip dot fr = M at *
  generalize hB : Pc.body ip dot fr = B at *
  generalize hx : (⟨ip.toArray⟩ : ByteArray) = x at *
  generalize hy : (⟨fr.toArray⟩ : ByteArray) = y at *
  have sx : x.size = ip.length := by rw [← hx, Lib.size_mk]
  have sy : y.size = fr.length := by rw [← hy, Lib.size_mk]
  clear hM hB hx hy
  generalize hD : Lib.trimLeftB (ip ++ fr) 48 = D at *
  have hD' : Pc.tl (ip ++ fr) = D := hD
  have HD := hide hD'
  clear hD hD'
  generalize hiv : (if hasE then (M.length : Int) else -1) = iv at K16
  have HI := hide hiv
  clear hiv
  generalize hT : (if hasE then (⟨t.toArray⟩ : ByteArray) else ⟨#[]⟩) = tx
  have HT := hide hT
  clear hT
  have Hsx := hide sx
  have Hsy := hide sy
  have lx : x.size ≤ 70000 := by omega
  have ly : y.size ≤ 70000 := by omega
  clear sx sy
  have Hln := hide lnum
  clear lnum
  have hv : Pc.val D = Pc.val (ip ++ fr) := by rw [← HD.out, Pc.val_tl]
  have hDn : D = [] → Pc.val (ip ++ fr) = 0 := fun h => by rw [← hv, h]; rfl
  generalize Pc.val (ip ++ fr) = N at hv hDn ⊢
  generalize hX : E + 2 - (fr.length : Int) = X
  have HV := hide hv
  have HDn := hide hDn
  have HX := hide hX
  clear hv hX hDn
  go_enter Tryd.func15, Tryd.ntmps15
  go_wp2_with fail
  refine (K16.out _).mono ?_
  rintro e w1 ⟨rfl, hb1⟩
  go_upto_if 20 with fail
  go_cut [4, 5] (fun s4 s5 wc => s4 = .string ⟨M.toArray⟩ ∧ s5 = .string tx ∧ Below w.heap.size w wc)
  case first =>
    cases hasE with
    | true =>
      obtain rfl : (M.length : Int) = iv := HI.out
      have e1 := ext_head num M (c :: t) HE.out
      have e2 := ext_tail num M t c HE.out
      have l1 : M.length < num.size := by rw [Hln.out]; simp [Pc.ep]
      go_wp2_with fail
      go_quiet (fail)
      go_wp2_with fail
      go_meet
      exact ⟨rfl, by rw [← HT.out]; rfl, hb1.trans (Joins.below_draws _ _ _)⟩
    | false =>
      obtain rfl : -1 = iv := HI.out
      go_wp2_with fail
      go_meet
      refine ⟨?_, by rw [← HT.out]; rfl, hb1⟩
      rw [← Lib.mk_data num, HE.out]
      simp [Pc.ep]
  case rest =>
    obtain ⟨rfl, rfl, hbc⟩ := hcut
    clear hb1
    go_wp2_with fail
    refine (K17.out _).mono ?_
    rintro e w2 ⟨rfl, rfl⟩
    go_wp2_with fail
    refine (K19.out _).mono ?_
    rintro e w2 ⟨rfl, rfl⟩
    go_wp2_with fail
    refine (K18.out _).mono ?_
    rintro e w3 ⟨rfl, hb3⟩
    go_wp2_with fail
    refine (K20.out _).mono ?_
    rintro e w4 ⟨rfl, rfl⟩
    have hbw : Below w.heap.size w w4 := hbc.trans (hb3.mono hbc.size)
    clear hbc hb3 K16 K17 K18 K19 K20
    by_cases hD0 : D = []
    · subst hD0
      go_wp2
      go_ret2
      exact ⟨0, true, rfl, .inl ⟨by have := HDn.out; simpa using this, rfl, rfl⟩, hbw⟩
    · have hDe : D.isEmpty = false := by simpa using hD0
      have hled : Pc.Led D := by rw [← HD.out]; exact Pc.led_tl _ (by rw [HD.out]; exact hD0)
      have hdD : Pc.allDig D = true := by rw [← HD.out]; exact Pc.allDig_tl _ hdig
      have lD : D.length ≤ 70000 := by
        have := Pc.tl_le (ip ++ fr)
        rw [HD.out, List.length_append] at this
        have := Hln.out
        omega
      have hpos := Pc.led_pos hled hdD
      have hlt := Pc.val_lt D hdD
      rw [HV.out] at hpos hlt
      have HLed := hide hled
      have HdD := hide hdD
      have HP := hide hpos
      have HLt := hide hlt
      clear hled hdD hD0 hpos hlt
      cases neg with
      | true =>
        go_wp2
        go_ret2
        exact ⟨0, false, rfl, .inr (.inl ⟨HP.out, rfl, rfl, rfl⟩), hbw⟩
      | false =>
        have htx : tx.toList.isEmpty = !hasE := by
          rw [← HT.out, Lib.toList_data]
          cases hasE with
          | false => rfl
          | true =>
            obtain ⟨ds, _, hne, h⟩ := HtE.out rfl
            rcases h with ⟨rfl, _⟩ | ⟨rfl, _⟩ | ⟨rfl, _⟩
            · simpa using hne
            · rfl
            · rfl
        go_upto_if 48 with fail
        clear htx
        go_cut [12, 13, 14] (fun s12 _ _ wc => s12 = .int .i64 X ∧ -1100000 ≤ X ∧ X ≤ 1100000 ∧ Below w.heap.size w wc)
        case first =>
          cases hasE with
          | false =>
            obtain rfl : E = 0 := by have := HnoE.out; simpa using this
            go_wp2_with fail
            go_meet
            have eX := HX.out
            rw [← Hsy.out] at eX
            exact ⟨by rw [← eX]; go_num, by omega, by omega, hbw⟩
          | true =>
            have etx : (⟨t.toArray⟩ : ByteArray) = tx := by have := HT.out; simpa using this
            have hE : Pc.ExpT t E := by have := HtE.out; simpa using this
            have lt : t.length ≤ 70000 := by
              have := Hln.out
              simp [Pc.ep] at this
              omega
            have farU : 1000000 < E → Pc.SpecRel N X false 0 false := fun h => .inr (.inr (.inr ⟨HP.out, rfl, rfl, rfl, Pc.far_up HP.out (by have := HX.out; have := Hsy.out; omega)⟩))
            have farD : E < -1000000 → Pc.SpecRel N X false 0 false := fun h => .inr (.inr (.inr ⟨HP.out, rfl, rfl, rfl, Pc.far_down HP.out HLt.out (by have := HX.out; omega) (by have := HX.out; omega)⟩))
            have HU := hide farU
            have HDn2 := hide farD
            clear farU farD
            rcases Pc.atoi_exp hE with ⟨hat, _, _⟩ | ⟨hat, hbig⟩
            · have k21 := fun w => Tryd.strconv_Atoi_ok ⟨t.toArray⟩ (by rw [Lib.size_mk]; omega) E (by simpa using hat) w
              rw [etx] at k21
              have K21 := hide k21
              clear k21 hE hat etx
              go_wp2_with fail
              refine (K21.out _).mono ?_
              rintro e w5 ⟨rfl, hw5⟩
              have hb5 : Below w.heap.size w w5 := by
                rcases hw5 with rfl | ⟨tt, rfl⟩
                · exact hbw
                · exact hbw.trans (Joins.below_bytesWorld _ _ _ _ hbw.size)
              clear hw5 hbw
              by_cases h1 : E < -1000000
              · go_wp2
                go_ret2
                exact ⟨0, false, rfl, HDn2.out h1, hb5⟩
              · by_cases h2 : 1000000 < E
                · go_wp2
                  go_ret2
                  exact ⟨0, false, rfl, HU.out h2, hb5⟩
                · go_wp2_with fail
                  go_meet
                  have eX := HX.out
                  rw [← Hsy.out] at eX
                  exact ⟨by rw [← eX]; go_num, by omega, by omega, hb5⟩
            · obtain ⟨tp, p, hvar⟩ := env_range hL
              have k21 := Tryd.strconv_Atoi_range_var ⟨t.toArray⟩ (by rw [Lib.size_mk]; omega) (by simpa using hat) tp p w4 (below_var hvar (hb.trans (hbw.mono hb.size)))
              rw [etx] at k21
              have K21 := hide k21
              have hfar : Pc.SpecRel N X false 0 false := by
                rcases hbig with h | h
                · exact HU.out h
                · exact HDn2.out h
              have HFar := hide hfar
              clear k21 hE hat hvar etx hfar hbig HU HDn2
              go_wp2_with fail
              refine K21.out.mono ?_
              rintro e w5 ⟨NN, rfl, _, _, hb5⟩
              go_wp2
              go_ret2
              exact ⟨0, false, rfl, HFar.out, hbw.trans (hb5.mono hbw.size)⟩
        case rest =>
          obtain ⟨rfl, hX1, hX2, hbc⟩ := hcut
          clear hbw HT HtE HnoE HE HI Hln HLt HDn HX Hsx Hsy hdig HD
          go_wp2_with fail
          go_loopw [11, 12] (fun a b wr => ∃ (D' : List UInt8) (s' : Int), a = .string ⟨D'.toArray⟩ ∧ b = .int .i64 s' ∧ Pc.Strip D X D' s' ∧ D'.length ≤ 70000 ∧ -1100000 ≤ s' ∧ s' ≤ 1100000 ∧ Below w.heap.size w wr) (fun _ b _ => (-(intOf b)).toNat)
          case atStart => exact ⟨D, X, rfl, rfl, Pc.strip_zero _ _, lD, hX1, hX2, hbc⟩
          case round =>
            obtain ⟨D', s', rfl, rfl, hS, lD', b1, b2, hbr⟩ := hrel
            have HS := hide hS
            clear hS hbc
            have k22 := fun w => Tryd.strings_HasSuffix ⟨D'.toArray⟩ ⟨#[48]⟩ w (by rw [Lib.size_mk]; omega)
            rw [show (⟨D'.toArray⟩ : ByteArray).data.toList = D' by simp, show (⟨#[48]⟩ : ByteArray).data.toList = [48] from rfl] at k22
            by_cases hneg : s' < 0
            · cases hsuf : Lib.hasSuffix D' [48] with
              | true =>
                rw [hsuf] at k22
                obtain ⟨r, hr⟩ := (suffix_iff D').1 hsuf
                have hz : (⟨D'.toArray⟩ : ByteArray).size = r.length + 1 := by rw [Lib.size_mk, hr]; simp
                have ez : (⟨D'.toArray⟩ : ByteArray).extract 0 r.length = ⟨r.toArray⟩ := ext_head _ r [48] (by simpa using hr)
                have HSt := hide (Pc.strip_step (by rw [← hr]; exact HS.out) hneg)
                have lr : r.length ≤ 70000 := by rw [hr] at lD'; simp at lD'; omega
                generalize (⟨D'.toArray⟩ : ByteArray) = z at k22 hz ez ⊢
                have K22 := hide k22
                clear k22 HS hsuf hr lD'
                go_wp2_with fail
                refine (K22.out _).mono ?_
                rintro e w5 ⟨rfl, rfl⟩
                go_wp2
                go_roundw
                case rel => exact ⟨r, s' + 1, rfl, rfl, HSt.out, lr, by omega, by omega, hbr⟩
                case measure => simp [intOf]; omega
              | false =>
                rw [hsuf] at k22
                have hend := Pc.end_low HS.out HLed.out HdD.out hneg (fun r hr => by
                  have := (suffix_iff D').2 ⟨r, hr⟩
                  rw [hsuf] at this
                  cases this)
                rw [HV.out] at hend
                have HEnd := hide hend
                have K22 := hide k22
                clear k22 HS hend hsuf
                go_wp2_with fail
                refine (K22.out _).mono ?_
                rintro e w5 ⟨rfl, rfl⟩
                go_wp2
                go_ret2
                exact ⟨0, false, rfl, HEnd.out, hbr⟩
            · clear k22
              have hd' := Pc.led_strip HS.out HLed.out HdD.out
              have h0 : 0 ≤ s' := by omega
              have hz : (⟨D'.toArray⟩ : ByteArray).size = D'.length := Lib.size_mk _
              have K23 := hide (itoa23 hL (hb.trans (hbr.mono hb.size)))
              by_cases hbig : 5 < (D'.length : Int) + s'
              · have hend := Pc.end_high HS.out HLed.out HdD.out h0 hbig
                rw [HV.out] at hend
                have HEnd := hide hend
                generalize (⟨D'.toArray⟩ : ByteArray) = z at hz ⊢
                have Hd := hide hd'
                clear hend HS hd'
                go_wp2_with fail
                refine K23.out.mono ?_
                rintro e w5 ⟨rfl, hb5⟩
                go_wp2
                go_ret2
                exact ⟨0, false, rfl, HEnd.out, hbr.trans (hb5.mono hbr.size)⟩
              · obtain ⟨q, rfl⟩ := Int.eq_ofNat_of_zero_le h0
                have hmid := Pc.end_mid HS.out HLed.out HdD.out h0
                rw [HV.out, show ((q : Nat) : Int).toNat = q from rfl] at hmid
                have k24 := fun w => Tryd.strings_Repeat ⟨#[48]⟩ q w (by omega) (by
                  have : (⟨#[48]⟩ : ByteArray).size = 1 := rfl
                  rw [this]; omega)
                rw [show (⟨#[48]⟩ : ByteArray).data.toList = [48] from rfl, rep_zeros] at k24
                have hdl : Pc.allDig (D' ++ List.replicate q 48) = true := by rw [Pc.allDig_append, hd'.2, Pc.allDig_zeros]; rfl
                have hvl := Pc.val_lt _ hdl
                have hll : (D' ++ List.replicate q 48).length ≤ 5 := by rw [List.length_append, List.length_replicate]; omega
                have hvb : Pc.val (D' ++ List.replicate q 48) < 100000 := by
                  have : 10 ^ (D' ++ List.replicate q 48).length ≤ 10 ^ 5 := Nat.pow_le_pow_right (by decide) hll
                  have h5 : (10 : Nat) ^ 5 = 100000 := by decide
                  omega
                have hne : D' ++ List.replicate q 48 ≠ [] := by
                  obtain ⟨c1, r1, e1, _⟩ := hd'.1
                  rw [e1]; simp
                have k21 := fun w => Tryd.strconv_Atoi_ok (⟨D'.toArray⟩ ++ ⟨(List.replicate q 48).toArray⟩) (by
                  rw [Lib.size_eq, Joins.data_append]
                  show (D' ++ List.replicate q 48).length ≤ _
                  omega) (Pc.val (D' ++ List.replicate q 48)) (by
                  rw [Joins.data_append]
                  show Lib.atoiAll (D' ++ List.replicate q 48) = _
                  exact Pc.atoi_dig hdl hne (by omega)) w
                have hy1 : (⟨(List.replicate q 48).toArray⟩ : ByteArray).size = q := by rw [Lib.size_mk, List.length_replicate]
                generalize (⟨(List.replicate q 48).toArray⟩ : ByteArray) = zz at k21 k24 hy1
                generalize Pc.val (D' ++ List.replicate q 48) = V at k21 hmid hvb
                generalize (⟨D'.toArray⟩ : ByteArray) = z at hz k21 ⊢
                have K21 := hide k21
                have K24 := hide k24
                have HM := hide hmid
                clear k21 k24 hmid HS hd' hdl hvl hll hne
                go_wp2_with fail
                refine K23.out.mono ?_
                rintro e w5 ⟨rfl, hb5⟩
                go_wp2_with fail
                refine (K24.out _).mono ?_
                rintro e w6 ⟨rfl, hb6⟩
                go_wp2_with fail
                refine (K21.out _).mono ?_
                rintro e w7 ⟨rfl, hw7⟩
                have hb6' : Below w.heap.size w w6 := hbr.trans ((hb5.mono hbr.size).trans (hb6.mono (Nat.le_trans hbr.size hb5.size)))
                have hb7 : Below w.heap.size w w7 := by
                  rcases hw7 with rfl | ⟨tt, rfl⟩
                  · exact hb6'
                  · exact hb6'.trans (Joins.below_bytesWorld _ _ _ _ hb6'.size)
                clear hw7 hb6' hb5 hb6
                by_cases hle : V ≤ 10000
                · go_wp2
                  go_ret2
                  exact ⟨V, true, rfl, HM.out.1 hle, hb7⟩
                · go_wp2
                  go_ret2
                  exact ⟨0, false, rfl, HM.out.2 hle, hb7⟩
end Go.Proofs.Qxb6600740aDoor
