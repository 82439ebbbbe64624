/-
  zzModelPercent, whole: the sign and the whole digits, then the stages.
-/
import Derived.Test.Qxb6600740aDoorM4
namespace Go.Proofs.Qxb6600740aDoor
open Go.RowKit

set_option maxRecDepth 100000 in
set_option maxHeartbeats 4000000 in
theorem model7 (s : ByteArray) (L : List UInt8) (hL : s.data.toList = L) (hsz : s.size ≤ 65536) (w : World) : Calls Tryd.prog 7 #[.string s] w (ModelEnd L w) := by
  have hg := get_nb s L hL
  have hlen : L.length = s.size := by rw [← hL, Array.length_toList]; rfl
  have HLen := hide hlen
  clear hL hlen
  go_enter Tryd.func7, Tryd.ntmps7
  go_upto_region 4 with fail
  go_cut [34] (fun s34 wc => ∃ b : Bool, s34 = .bool b ∧ (b = true → 0 < s.size ∧ Pc.nb L 0 = 45) ∧ wc = w)
  case first =>
    by_cases h0 : 0 < s.size
    · by_cases h1 : Pc.nb L 0 = 45
      · have hq : (Pc.nb L 0 == 45) = true := by simp [h1]
        have H1 := hide h1
        clear h1
        go_wp2_with fail
        go_meet
        exact ⟨true, rfl, fun _ => ⟨h0, H1.out⟩, rfl⟩
      · have hq : (Pc.nb L 0 == 45) = false := by simp [h1]
        clear h1
        go_wp2_with fail
        go_meet
        exact ⟨false, rfl, fun h => by simp at h, rfl⟩
    · go_wp2_with fail
      go_meet
      exact ⟨false, rfl, fun h => by simp at h, rfl⟩
  case rest =>
    obtain ⟨neg, rfl, hb, rfl⟩ := hcut
    have HB := hide hb
    clear hb
    go_upto_if 34 with fail
    go_cut [6, 7] (fun s6 s7 wc' => ∃ a : Nat, s6 = .int .i64 a ∧ s7 = .bool neg ∧ Pc.SignOK L neg a ∧ a ≤ s.size ∧ a ≤ 1 ∧ wc' = wc)
    case first =>
      cases neg with
      | true =>
        go_wp2_with fail
        go_meet
        have hb : 0 < s.size ∧ Pc.nb L 0 = 45 := by have := HB.out; simpa using this
        exact ⟨1, by go_num, rfl, .inl ⟨rfl, rfl, by rw [HLen.out]; exact hb.1, hb.2⟩, by omega, by omega, rfl⟩
      | false =>
        go_wp2_with fail
        go_meet
        exact ⟨0, rfl, rfl, .inr ⟨rfl, rfl⟩, by omega, by omega, rfl⟩
    case rest =>
      obtain ⟨a, rfl, rfl, hS, ha, ha1, rfl⟩ := hcut
      have HS := hide hS
      clear hS HB
      by_cases han : s.size ≤ a
      · go_wp2
        go_ret3
        exact model_no L _
      · obtain ⟨z, hz⟩ : ∃ z : Bool, (Pc.nb L a == 48) = z := ⟨_, rfl⟩
        go_upto_if 44 with fail
        have HZ := hide hz
        clear hz
        go_cut [6] (fun s6 wc' => ∃ b : Nat, s6 = .int .i64 b ∧ a < b ∧ b ≤ s.size ∧ Pc.Dg L a b ∧ wc' = wc)
        case first =>
          cases z with
          | true =>
            go_wp2_with fail
            go_meet
            have h48 : Pc.nb L a = 48 := by have := HZ.out; simpa using this
            exact ⟨a + 1, by go_num, by omega, by omega, Pc.dg_snoc (Pc.dg_nil L a) (by omega) (by omega), rfl⟩
          | false =>
            by_cases hd : 48 ≤ Pc.nb L a ∧ Pc.nb L a ≤ 57
            · have K := hide (fun w => digit13_yes (Pc.nb L a) w hd.1 hd.2)
              have HD := hide hd
              clear hd
              go_wp2_with fail
              refine (K.out _).mono ?_
              rintro e w' ⟨rfl, rfl⟩
              go_wp2_with fail
              go_loop [6] (fun s6 => ∃ k : Nat, s6 = .int .i64 k ∧ a ≤ k ∧ k ≤ s.size ∧ Pc.Dg L a k) (fun s6 => s.size - (intOf s6).toNat)
              case atStart => exact ⟨a, rfl, Nat.le_refl _, ha, Pc.dg_nil L a⟩
              case round =>
                obtain ⟨k, rfl, hk1, hk2, hk3⟩ := hrel
                have HK := hide hk3
                clear hk3
                by_cases hlt : k < s.size
                · by_cases hd : 48 ≤ Pc.nb L k ∧ Pc.nb L k ≤ 57
                  · have K2 := hide (fun w => digit13_yes (Pc.nb L k) w hd.1 hd.2)
                    have HD2 := hide hd
                    clear hd
                    go_wp2_with fail
                    refine (K2.out _).mono ?_
                    rintro e w' ⟨rfl, rfl⟩
                    go_wp2
                    go_round
                    case rel => exact ⟨k + 1, by go_num, by omega, by omega, Pc.dg_snoc HK.out HD2.out.1 HD2.out.2⟩
                    case measure => simp [intOf]; omega
                  · have K2 := hide (fun w => digit13_no (Pc.nb L k) w (by omega))
                    have hka : a < k := by
                      rcases Nat.lt_or_ge a k with h | h
                      · exact h
                      · have : k = a := by omega
                        rw [this] at hd
                        exact absurd HD.out hd
                    clear hd
                    go_wp2_with fail
                    refine (K2.out _).mono ?_
                    rintro e w' ⟨rfl, rfl⟩
                    go_wp2_with fail
                    go_meet
                    exact ⟨k, rfl, hka, hk2, HK.out, rfl⟩
                · go_wp2_with fail
                  go_meet
                  exact ⟨k, rfl, by omega, hk2, HK.out, rfl⟩
            · have K := hide (fun w => digit13_no (Pc.nb L a) w (by omega))
              clear hd
              go_wp2_with fail
              refine (K.out _).mono ?_
              rintro e w' ⟨rfl, rfl⟩
              go_wp2
              go_ret3
              exact model_no L _
        case rest =>
          obtain ⟨b, rfl, hab, hbn, hDg, rfl⟩ := hcut
          clear HZ
          rename_i K hK
          refine hK _ _ ?_
          refine stage16 s L _ hg HLen hsz neg a b hab hbn hDg (fun dot fs fe hasE eneg es hF hX n ok hs => ?_) _ _ _ _ _ _ _ _ _ _ _ _ _ _ _ _ _ _ _ _ _ _ _ _ _ _ _ _ _ _ _ _ _ _ _ _ _ _ _ _ _ _ _ _ _ _ _ _ _ _ _ _ _ _ _ _ _ _ _ _ _ _ _ _ _ _ _ _ _ _ _ _ _ _ _ _ _ _ _ _ _ _ _ _ _ _ _ _ _ _ _ _ _ _ _ _ _ _ _ _ _ _ _ _ _ _ _ _ _ _ _ _ _ _ _ _ _ _ _ _ _ _ _ _ _ _ _ _ _ _ _ _ _ _ _ _ _ _ _ _ _ _ _ _ _ _ _ _ _ _ _ _ _ _ _ _ _ _ _ _ _ _ _ _ _ _ _ _ _ _ _ _ _ _ _ _ _ _ _ _ _ _ _ _ _ _ _ _ _ _ _ _ _ _ _ _ _ _ _ _ _ _ _ _ _ _ _ _ _ _ _ _ _ _ _ _ _ _ _ _ _ _ _ _ _ _ _ _ _ _ _
          obtain ⟨c, t, hSh⟩ := Pc.shape_of HS.out (Nat.le_of_lt hab) (by rw [HLen.out]; exact hbn) hDg hF hX
          refine ⟨neg, Pc.sl L a b, Pc.sl L fs fe, dot, hasE, c, t, Pc.expVal L hasE eneg es, hSh, ?_⟩
          have hl : ((Pc.sl L fs fe).length : Int) = (fe : Int) - fs := by
            rcases hF with ⟨_, rfl, rfl⟩ | ⟨_, _, rfl, h1, h2, _⟩
            · rw [Pc.sl_nil]; simp
            · rw [Pc.sl_len L _ fe (by omega) h2]; omega
          rw [hl]
          exact hs
end Go.Proofs.Qxb6600740aDoor
