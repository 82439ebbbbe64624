/-
  The walk of headerName.
-/
import Derived.Test.Qxb6600831aDoorT1
namespace Go.Proofs.Qxb6600831aDoor
open Go.RowKit

theorem ext_head (s : ByteArray) (L : List UInt8) (h : s.data.toList = L) (k : Nat) : s.extract 0 k = ⟨(L.take k).toArray⟩ := by
  rw [Lib.extract_eq, h]; simp
theorem ext_tail (s : ByteArray) (L : List UInt8) (h : s.data.toList = L) (k : Nat) : s.extract k s.size = ⟨(L.drop k).toArray⟩ := by
  rw [Lib.extract_eq, h]
  have : L.length = s.size := by rw [← h, Array.length_toList]; rfl
  rw [List.take_of_length_le (by rw [List.length_drop, this]; omega)]

/-- what headerName answers -/
def ans (git raw : Bool) (L : List UInt8) : List UInt8 := if place git raw L < 0 then L else Hn.hdr L (place git raw L).toNat

theorem builder0 (w : World) :
    (w.alloc (.cells #[.pointer none, .slice none 0 0] 36)).heap[w.heap.size]? = some (.cells #[.pointer none, .slice none 0 0] 36 (0, 0)) := heap_alloc_new _ _

theorem step18 {B b : Nat} {l : List UInt8} {w : World} {C : Int} (c : UInt8) (hC : C = (c.toNat : Int)) (h : Lib.IsBuilderF 36 5 B b (Lib.byteCells l ++ [.int .u8 C]) w) : Lib.IsBuilderF 36 5 B b (Lib.byteCells (l ++ [c])) w := by
  rw [Lib.byteCells_append]; subst hC; exact h
theorem step17 {B b : Nat} {l : List UInt8} {w : World} (s : List UInt8) (h : Lib.IsBuilderF 36 5 B b (Lib.byteCells l ++ Lib.strCells ⟨s.toArray⟩) w) : Lib.IsBuilderF 36 5 B b (Lib.byteCells (l ++ s)) w := by
  rw [Lib.byteCells_append]
  rw [Lib.strCells_eq] at h
  exact h

theorem index_lt (L : List UInt8) (c : UInt8) : Lib.indexByte L c = -1 ∨ ∃ p : Nat, Lib.indexByte L c = p ∧ p < L.length := by
  induction L with
  | nil => exact .inl rfl
  | cons b l ih =>
    unfold Lib.indexByte
    split
    · exact .inr ⟨0, rfl, by simp⟩
    · split
      · exact .inl rfl
      · rcases ih with h | ⟨p, h, hp⟩
        · rename_i h2; simp [h] at h2
        · exact .inr ⟨p + 1, by rw [h]; rfl, by simp; omega⟩
theorem index_none (L : List UInt8) (c : UInt8) (h : Lib.indexByte L c = -1) : ∀ x ∈ L, x ≠ c := by
  induction L with
  | nil => intro x hx; simp at hx
  | cons b l ih =>
    unfold Lib.indexByte at h
    split at h
    · cases h
    · rename_i hb
      split at h
      · rename_i hl
        intro x hx
        rcases List.mem_cons.1 hx with rfl | hx
        · simpa using hb
        · exact ih (by simpa using hl) x hx
      · rcases index_lt l c with h' | ⟨p, h', _⟩
        · rename_i h2; simp [h'] at h2
        · omega

set_option maxRecDepth 100000 in
set_option maxHeartbeats 2000000 in
theorem head12 (git raw : Bool) (s : ByteArray) (L : List UInt8) (hL : s.data.toList = L) (w : World) (hsz : s.size ≤ 1000000) :
    Calls Tryd.prog 12 #[.agg (optC git raw), .string s] w fun e w' => e = .returned (.string ⟨(ans git raw L).toArray⟩) ∧ Below w.heap.size w w' := by
  have k13 := sub13 git raw s w
  rw [hL] at k13
  have hlen : L.length = s.size := by rw [← hL, Array.length_toList]; rfl
  have hcases : place git raw L = -1 ∨ ∃ p : Nat, place git raw L = p ∧ p < L.length := by
    unfold place
    split
    · exact index_lt L 34
    · exact .inl rfl
  unfold ans
  rcases hcases with hp | ⟨p, hp, hpl⟩
  · rw [hp] at k13 ⊢
    rw [if_pos (by omega)]
    have es : (⟨L.toArray⟩ : ByteArray) = s := by rw [← hL, Lib.mk_data]
    rw [es]
    have K13 := hide k13
    generalize optC git raw = C at K13 ⊢
    clear hp k13 es hL hlen
    go_enter Tryd.func12, Tryd.ntmps12
    go_wp2_with fail
    refine K13.out.mono ?_
    rintro e w1 ⟨rfl, hb1⟩
    go_wp2
    go_ret
    exact ⟨rfl, hb1⟩
  · rw [hp] at k13 ⊢
    rw [if_neg (by omega), show ((p : Nat) : Int).toNat = p from rfl]
    have es : (⟨L.toArray⟩ : ByteArray) = s := by rw [← hL, Lib.mk_data]
    have e1 := ext_head s L hL p
    have e2 := ext_tail s L hL p
    have hg := get_nb s L hL
    have K13 := hide k13
    have hpr := Hn.trim_pre (L.take p)
    have k14 := fun w => trim14 ⟨(L.take p).toArray⟩ w (by rw [Lib.size_mk, List.length_take]; omega)
    rw [show (⟨(L.take p).toArray⟩ : ByteArray).data.toList = L.take p by simp] at k14
    have ht : Lib.trimRightS (L.take p) [32, 9, 13] = Hn.trimB (L.take p) := Hn.trim_eq _
    rw [ht] at k14
    have K14 := hide k14
    have k15 := fun w => index15_92 ⟨(L.drop p).toArray⟩ w
    rw [show (⟨(L.drop p).toArray⟩ : ByteArray).data.toList = L.drop p by simp] at k15
    have K15 := hide k15
    have hplain := Hn.hdr_plain L p
    have hhdr : Hn.hdr L p = Hn.trimB (L.take p) ++ ((if Hn.trimB (L.take p) = L.take p then [] else [32]) ++ Hn.unesc (L.drop p)) := rfl
    have hbl : (L.take p).length = p := by rw [List.length_take]; omega
    generalize hR : Hn.hdr L p = R at hplain hhdr ⊢
    generalize hBf : L.take p = bf at *
    generalize hBs : Hn.trimB bf = bs at *
    have sbf : (⟨bf.toArray⟩ : ByteArray).size = p := by rw [Lib.size_mk]; exact hbl
    have sbs : (⟨bs.toArray⟩ : ByteArray).size = bs.length := Lib.size_mk _
    have hle : bs.length ≤ p := by
      obtain ⟨r, hr⟩ := hpr
      have := congrArg List.length hr
      rw [List.length_append] at this
      omega
    have hgf := get_nb ⟨bf.toArray⟩ bf (by simp)
    have HP := hide hpr
    have HPl := hide hplain
    have HH := hide hhdr
    have HBl := hide hbl
    have hps : p < s.size := by omega
    have HLn := hide hlen
    clear hpl hpr hplain hhdr hbl hR hBf hBs k13 k14 k15 ht hp hlen hL
    generalize optC git raw = C at K13 ⊢
    generalize hfb : (⟨bf.toArray⟩ : ByteArray) = fb at *
    generalize hsb : (⟨bs.toArray⟩ : ByteArray) = sb at *
    have HFB := hide hfb
    have HSB := hide hsb
    clear hfb hsb
    go_enter Tryd.func12, Tryd.ntmps12
    go_wp2_with fail
    refine K13.out.mono ?_
    rintro e w1 ⟨rfl, hb1⟩
    go_wp2_with fail
    refine (K14.out _).mono ?_
    rintro e w2 ⟨rfl, hb2⟩
    have hbw : Below w.heap.size w w2 := hb1.trans (hb2.mono hb1.size)
    clear hb1 hb2
    go_upto_region 6 with fail
    have hqe : (sb.toList == fb.toList) = decide (bs = bf) := by
      rw [← HFB.out, ← HSB.out, Lib.toList_data, Lib.toList_data, Bool.eq_iff_iff]
      simp
    have hqn : (sb.toList != fb.toList) = !decide (bs = bf) := by rw [bne, hqe]
    go_cut [8] (fun s8 wc => ∃ b1 : Bool, s8 = .bool b1 ∧ (b1 = true → bs ++ [32] = bf) ∧ wc = w2)
    case first =>
      clear hqe hqn
      by_cases h1 : p = bs.length + 1
      · have hq1 : ((p : Int) == (bs.length : Int) + 1) = true := by simp; omega
        have hx : ∃ x, bf = bs ++ [x] := by
          obtain ⟨r, hr⟩ := HP.out
          have hl := congrArg List.length hr
          rw [List.length_append, HBl.out] at hl
          match r, hl, hr with
          | [x], _, hr => exact ⟨x, hr⟩
          | [], hl, _ => simp at hl; omega
          | _ :: _ :: _, hl, _ => simp at hl; omega
        have hlt : bs.length < fb.size := by omega
        by_cases h2 : Hn.nb bf bs.length = 32
        · have hq2 : (Hn.nb bf bs.length == 32) = true := by simp [h2]
          have hres : bs ++ [32] = bf := by
            obtain ⟨x, hx⟩ := hx
            have h3 := Hn.getD_of_nb (c := 32) h2
            rw [hx] at h3
            simp at h3
            rw [hx, h3]
          have HR := hide hres
          clear h2 hres hx h1
          go_wp2_with fail
          go_meet
          exact ⟨true, rfl, fun _ => HR.out, rfl⟩
        · have hq2 : (Hn.nb bf bs.length == 32) = false := by simp [h2]
          clear h2 hx h1
          go_wp2_with fail
          go_meet
          exact ⟨false, rfl, fun h => by simp at h, rfl⟩
      · have hq1 : ((p : Int) == (bs.length : Int) + 1) = false := by simp; omega
        clear h1
        go_wp2_with fail
        go_meet
        exact ⟨false, rfl, fun h => by simp at h, rfl⟩
    case rest =>
      obtain ⟨b1, rfl, hB1, rfl⟩ := hcut
      have HB1 := hide hB1
      clear hB1
      generalize hd : decide (bs = bf) = eq at hqe hqn
      have HD := hide hd
      clear hd
      go_upto_region 7 with fail
      go_cut [46] (fun s46 wc' => ∃ b2 : Bool, s46 = .bool b2 ∧ (b2 = true → R = L) ∧ wc' = wc)
      case first =>
        have hfin : (eq = true ∨ b1 = true) → Lib.indexByte (L.drop p) 92 < 0 → R = L := by
          intro h1 h2
          have h3 : Lib.indexByte (L.drop p) 92 = -1 := by
            have := Lib.indexByte_ge (L.drop p) 92
            omega
          refine HPl.out (index_none _ _ h3) ?_
          rcases h1 with h1 | h1
          · have := HD.out
            rw [h1] at this
            exact .inl (of_decide_eq_true this)
          · exact .inr (HB1.out h1)
        have HF := hide hfin
        clear hfin
        have hor : (eq = true) ∨ (eq = false ∧ b1 = true) ∨ (eq = false ∧ b1 = false) := by cases eq <;> cases b1 <;> simp
        rcases hor with rfl | ⟨rfl, rfl⟩ | ⟨rfl, rfl⟩
        · go_wp2_with fail
          refine (K15.out _).mono ?_
          rintro e w3 ⟨rfl, rfl⟩
          go_wp2_with fail
          go_meet
          exact ⟨_, rfl, fun h => by have := HF.out; simp at this h; exact this h, rfl⟩
        · go_wp2_with fail
          refine (K15.out _).mono ?_
          rintro e w3 ⟨rfl, rfl⟩
          go_wp2_with fail
          go_meet
          exact ⟨_, rfl, fun h => by have := HF.out; simp at this h; exact this h, rfl⟩
        · go_wp2_with fail
          go_meet
          exact ⟨false, rfl, fun h => by simp at h, rfl⟩
      case rest =>
        obtain ⟨b2, rfl, hB2, rfl⟩ := hcut
        have HB2 := hide hB2
        clear hB2 HB1 K15 HPl
        cases b2 with
        | true =>
          go_wp2
          go_ret
          have hRL : R = L := by have := HB2.out; simpa using this
          refine ⟨?_, hbw⟩
          show Ending.returned (.string s) = _
          rw [hRL, es]
        | false =>
          obtain ⟨WC, hWC⟩ : ∃ x, x = wc := ⟨_, rfl⟩
          subst hWC
          have hb0 := builder0 WC
          have hbN : Below w.heap.size w (WC.alloc (.cells #[.pointer none, .slice none 0 0] 36)) := hbw.alloc hbw.size _
          have hs0 : WC.heap.size ≤ (WC.alloc (.cells #[.pointer none, .slice none 0 0] 36)).heap.size := by simp
          generalize hX : bs ++ (if bs = bf then [] else [32]) = X
          have HX := hide hX
          clear hX
          have hXl : X.length ≤ 1000001 := by
            rw [← HX.out, List.length_append]
            split
            · simp; omega
            · simp; omega
          have hRX : R = X ++ Hn.unesc (L.drop p) := by rw [HH.out, ← HX.out, List.append_assoc]
          have HRX := hide hRX
          clear hRX
          go_wp2_with fail
          refine (grow16 WC.heap.size WC.heap.size s.size _ (Nat.le_refl _) hb0 hs0 (by omega)).mono ?_
          rintro e w3 ⟨rfl, i3, b3⟩
          have s3 := Nat.le_trans hs0 b3.size
          have hw3 := hbN.trans (b3.mono hbw.size)
          clear hb0 hbN b3
          go_wp2_with fail
          refine (str17 WC.heap.size WC.heap.size [] sb _ i3 (by simp; omega) s3).mono ?_
          rintro e w4 ⟨rfl, j4, b4⟩
          have i4 : Lib.IsBuilderF 36 5 WC.heap.size WC.heap.size (Lib.byteCells bs) w4 := by
            rw [← HSB.out] at j4
            have := step17 (l := []) bs j4
            rwa [List.nil_append] at this
          have s4 := Nat.le_trans s3 b4.size
          have hw4 := hw3.trans (b4.mono hbw.size)
          clear i3 j4 b4 hw3 s3
          go_upto_if 55 with fail
          go_cut [] (fun wd => Lib.IsBuilderF 36 5 WC.heap.size WC.heap.size (Lib.byteCells X) wd ∧ WC.heap.size ≤ wd.heap.size ∧ Below w.heap.size w wd)
          case first =>
            cases eq with
            | true =>
              go_wp2_with fail
              go_meet
              have hbf : bs = bf := of_decide_eq_true HD.out
              rw [← HX.out, if_pos hbf, List.append_nil]
              exact ⟨i4, s4, hw4⟩
            | false =>
              go_wp2_with fail
              refine (byte18 WC.heap.size WC.heap.size _ 32 _ i4 (by rw [Lib.byteCells_length]; omega) s4).mono ?_
              rintro e w5 ⟨rfl, j5, b5⟩
              have i5 := step18 32 rfl j5
              go_wp2_with fail
              go_meet
              have hbf : ¬ bs = bf := of_decide_eq_false HD.out
              rw [← HX.out, if_neg hbf]
              exact ⟨i5, Nat.le_trans s4 b5.size, hw4.trans (b5.mono hbw.size)⟩
          case rest =>
            obtain ⟨iX, sX, bX⟩ := hcut
            clear i4 s4 hw4 HD hqe hqn
            go_wp2_with fail
            go_loopw [10] (fun s10 wr => ∃ (i : Nat) (Y : List UInt8), s10 = .int .i64 i ∧ p ≤ i ∧ i ≤ s.size ∧ Y.length + (s.size - i) ≤ 2000001 ∧ Y ++ Hn.unesc (L.drop i) = X ++ Hn.unesc (L.drop p) ∧ Lib.IsBuilderF 36 5 WC.heap.size WC.heap.size (Lib.byteCells Y) wr ∧ WC.heap.size ≤ wr.heap.size ∧ Below w.heap.size w wr) (fun s10 _ => s.size - (intOf s10).toNat)
            case atStart => exact ⟨p, X, rfl, Nat.le_refl _, by omega, by omega, rfl, iX, sX, bX⟩
            case round =>
              obtain ⟨i, Y, rfl, hi1, hi2, hYl, hY, iY, sY, bY⟩ := hrel
              have HY := hide hY
              clear hY iX sX bX
              by_cases hlt : i < s.size
              · have hr0 := Hn.nb_lo L i
                have hr1 := Hn.nb_hi L i
                by_cases hc : Hn.nb L i = 92
                · have hq : (Hn.nb L i == 92) = true := by simp [hc]
                  have HC := hide (Hn.getD_of_nb (c := 92) hc)
                  clear hc
                  by_cases hlt2 : i + 1 < s.size
                  · have HU := hide (Hn.unesc_two L i (by rw [HLn.out]; exact hlt2) HC.out)
                    go_wp2_with fail
                    refine (byte18 WC.heap.size WC.heap.size _ _ _ iY (by rw [Lib.byteCells_length]; omega) sY).mono ?_
                    rintro e w5 ⟨rfl, j5, b5⟩
                    have i5 := step18 (L.getD (i + 1) 0) rfl j5
                    have s5 := Nat.le_trans sY b5.size
                    have hw5 := bY.trans (b5.mono hbw.size)
                    clear iY sY bY j5 b5
                    go_wp2
                    go_roundw
                    case rel => exact ⟨i + 2, Y ++ [L.getD (i + 1) 0], by go_num, by omega, by omega, by simp; omega, by rw [← HY.out, HU.out]; simp, i5, s5, hw5⟩
                    case measure => simp [intOf]; omega
                  · have HU := hide (Hn.unesc_one L i (by rw [HLn.out]; exact hlt) (.inr (by rw [HLn.out]; exact hlt2)))
                    go_wp2_with fail
                    refine (byte18 WC.heap.size WC.heap.size _ _ _ iY (by rw [Lib.byteCells_length]; omega) sY).mono ?_
                    rintro e w5 ⟨rfl, j5, b5⟩
                    have i5 := step18 (L.getD i 0) rfl j5
                    have s5 := Nat.le_trans sY b5.size
                    have hw5 := bY.trans (b5.mono hbw.size)
                    clear iY sY bY j5 b5
                    go_wp2
                    go_roundw
                    case rel => exact ⟨i + 1, Y ++ [L.getD i 0], by go_num, by omega, by omega, by simp; omega, by rw [← HY.out, HU.out]; simp, i5, s5, hw5⟩
                    case measure => simp [intOf]; omega
                · have hq : (Hn.nb L i == 92) = false := by simp [hc]
                  have HU := hide (Hn.unesc_one L i (by rw [HLn.out]; exact hlt) (.inl (Hn.nb_ne (c := 92) hc)))
                  clear hc
                  go_wp2_with fail
                  refine (byte18 WC.heap.size WC.heap.size _ _ _ iY (by rw [Lib.byteCells_length]; omega) sY).mono ?_
                  rintro e w5 ⟨rfl, j5, b5⟩
                  have i5 := step18 (L.getD i 0) rfl j5
                  have s5 := Nat.le_trans sY b5.size
                  have hw5 := bY.trans (b5.mono hbw.size)
                  clear iY sY bY j5 b5
                  go_wp2
                  go_roundw
                  case rel => exact ⟨i + 1, Y ++ [L.getD i 0], by go_num, by omega, by omega, by simp; omega, by rw [← HY.out, HU.out]; simp, i5, s5, hw5⟩
                  case measure => simp [intOf]; omega
              · obtain rfl : i = s.size := by omega
                have hfin : Y = R := by
                  have := HY.out
                  rw [List.drop_eq_nil_of_le (by rw [HLn.out]; exact Nat.le_refl _)] at this
                  rw [HRX.out, ← this]
                  simp [Hn.unesc]
                have HFin := hide hfin
                clear hfin
                go_wp2_with fail
                refine (str19 WC.heap.size WC.heap.size Y _ iY sY).mono ?_
                rintro e w6 ⟨rfl, b6⟩
                go_wp2
                go_ret
                exact ⟨ret_str HFin.out, bY.trans (b6.mono hbw.size)⟩
end Go.Proofs.Qxb6600831aDoor
