/-
  FnCanonicalIdempotentOnDigits: the law's walk out of the contracts.
-/
import Derived.Test.Qxb6600692aDoorT5
namespace Go.Proofs.Qxb6600692aDoor
open Go.RowKit

theorem zzBytes16 (n : Bool) (a b : ByteArray) (w : World) (ha : a.size ≤ maxLen) (hb : b.size ≤ maxLen) :
    Calls Tryd.prog 16 #[.bool n, .string a, .string b] w fun e w' => e = .returned (.bool (decide (a.size + b.size ≤ 1048576))) ∧ w' = w := by
  unfold maxLen at ha hb
  by_cases h : a.size + b.size ≤ 1048576
  · rw [decide_eq_true h]
    go_enter Tryd.func16, Tryd.ntmps16
    go_wp2
    go_ret
    exact ⟨rfl, rfl⟩
  · rw [decide_eq_false h]
    go_enter Tryd.func16, Tryd.ntmps16
    go_wp2
    all_goals
      go_ret
      exact ⟨rfl, rfl⟩

/-- the parts of the canonical text of digits -/
theorem parts_of (n : Bool) (a b : List UInt8) (ha : Canon.allDig a = true) (s : ByteArray) (hs : s.data.toList = Canon.canon n a b) (hsz : s.size ≤ 9223372036854775806) (w : World) :
    Calls Tryd.prog 18 #[.string s] w fun e w' => e = .returned (.tuple #[.bool (Canon.pNeg n a b), .string ⟨(Canon.pW a).toArray⟩, .string ⟨(Canon.pF b).toArray⟩, .bool (!(Canon.pF b).isEmpty)]) ∧ Below w.heap.size w w' := by
  have hd := Canon.dig_pW a ha
  have hne := Canon.pW_ne a
  have fin : ∀ (P : List UInt8) (ng : Bool), Canon.pNeg n a b = ng → s.data.toList = P ++ (Canon.pW a ++ Canon.fr (Canon.pF b)) → ∀ e w', PartsEnd s ng P.length w e w' →
      e = .returned (.tuple #[.bool (Canon.pNeg n a b), .string ⟨(Canon.pW a).toArray⟩, .string ⟨(Canon.pF b).toArray⟩, .bool (!(Canon.pF b).isEmpty)]) ∧ Below w.heap.size w w' := by
    rintro P ng hng hl e w' ⟨p, h1, h2, h3, h4, rfl, hb⟩
    refine ⟨?_, hb⟩
    have hlen : s.size = (P ++ (Canon.pW a ++ Canon.fr (Canon.pF b))).length := by rw [← hl, Lib.size_eq]
    rw [hl] at h3 h4
    rw [hlen] at h2 h4
    have hp := Canon.point_at P (Canon.pW a) (Canon.pF b) p hd h1 h2 h3 h4
    have e1 : s.extract P.length p = ⟨(Canon.pW a).toArray⟩ := by
      rw [Lib.extract_eq, hl, hp, Nat.add_sub_cancel_left, Canon.parts_whole]
    have hiff := Canon.parts_len P (Canon.pW a) (Canon.pF b)
    rw [← hp, ← hlen] at hiff
    have e2 : tailOf s p = ⟨(Canon.pF b).toArray⟩ ∧ decide (p < s.size) = !(Canon.pF b).isEmpty := by
      by_cases hF : Canon.pF b = []
      · have hnot : ¬ p < s.size := fun h => hiff.1 h hF
        rw [tail_ge hnot, decide_eq_false hnot, hF]
        exact ⟨rfl, rfl⟩
      · have hlt := hiff.2 hF
        rw [tail_lt hlt, decide_eq_true hlt, Lib.extract_eq, hl]
        have e3 := Canon.parts_frac P (Canon.pW a) (Canon.pF b) hF
        rw [← hp] at e3
        rw [e3, List.take_of_length_le]
        · refine ⟨rfl, ?_⟩
          simp [hF]
        · have := congrArg List.length e3
          rw [List.length_drop, ← hlen] at this
          omega
    rw [hng, e1, e2.1, e2.2]
  have h0 : 0 < s.size := by
    rw [Lib.size_eq, hs, Canon.canon_parts]
    have : 0 < (Canon.pW a).length := List.length_pos_iff.2 hne
    simp only [List.length_append]
    omega
  cases hn : Canon.pNeg n a b with
  | true =>
    have hl : s.data.toList = [45] ++ (Canon.pW a ++ Canon.fr (Canon.pF b)) := by rw [hs, Canon.canon_parts, hn]; rfl
    refine (parts18_neg s w hsz h0 (by rw [hl]; rfl)).mono fun e w' h => ?_
    rw [← hn]
    exact fin [45] true hn hl e w' h
  | false =>
    have hl : s.data.toList = [] ++ (Canon.pW a ++ Canon.fr (Canon.pF b)) := by rw [hs, Canon.canon_parts, hn]; rfl
    refine (parts18_pos s w hsz h0 ?_).mono fun e w' h => ?_
    · rw [hl, List.nil_append, Canon.nb_left _ _ (List.length_pos_iff.2 hne)]
      have := Canon.dig_at _ hd 0 (List.length_pos_iff.2 hne)
      omega
    · rw [← hn]
      exact fin [] false hn hl e w' h

set_option maxHeartbeats 1000000 in
/-- the law over what its callees answer -/
theorem idem_core (n : Bool) (a b once w2 f2 : ByteArray) (ng hp : Bool) (w : World) (h : a.size + b.size ≤ 1048576)
    (K16 : Hid (∀ w, Calls Tryd.prog 16 #[.bool n, .string a, .string b] w fun e w' => e = .returned (.bool true) ∧ w' = w))
    (K17a : Hid (∀ w, Calls Tryd.prog 17 #[.string a] w fun e w' => e = .returned (.bool true) ∧ w' = w))
    (K17b : Hid (∀ w, Calls Tryd.prog 17 #[.string b] w fun e w' => e = .returned (.bool true) ∧ w' = w))
    (K13 : Hid (∀ w, Calls Tryd.prog 13 #[.bool n, .string a, .string b] w fun e w' => e = .returned (.string once) ∧ Below w.heap.size w w'))
    (K18 : Hid (∀ w, Calls Tryd.prog 18 #[.string once] w fun e w' => e = .returned (.tuple #[.bool ng, .string w2, .string f2, .bool hp]) ∧ Below w.heap.size w w'))
    (K17c : Hid (∀ w, Calls Tryd.prog 17 #[.string w2] w fun e w' => e = .returned (.bool true) ∧ w' = w))
    (K17d : Hid (∀ w, Calls Tryd.prog 17 #[.string f2] w fun e w' => e = .returned (.bool true) ∧ w' = w))
    (K13b : Hid (∀ w, Calls Tryd.prog 13 #[.bool ng, .string w2, .string f2] w fun e w' => e = .returned (.string once) ∧ Below w.heap.size w w'))
    (s2 : 0 < w2.size) (s3 : w2.size ≤ 2000000) (s4 : f2.size ≤ 2000000)
    (ne2 : w2.toList.isEmpty = false) (hd2 : 1 < w2.size → (Canon.nb w2.data.toList 0 == 48) = false)
    (hf : (hp = false ∧ f2 = ⟨#[]⟩) ∨ (hp = true ∧ 0 < f2.size ∧ f2.toList.isEmpty = false ∧ (Canon.nb f2.data.toList (f2.size - 1) == 48) = false))
    (hz : ng = true → (w2.toList == [48]) = true → f2.toList.isEmpty = false) :
    Calls Tryd.prog 6 #[.bool n, .string a, .string b] w fun e w' => e = .returned (.bool true) ∧ Below w.heap.size w w' := by
  have e2 := get_nb' w2 0 s2
  have HF := hide hf
  have HZ := hide hz
  have HD := hide hd2
  clear hf hz hd2
  go_enter Tryd.func6, Tryd.ntmps6
  go_wp2_with fail
  refine (K16.out _).mono ?_
  rintro e w' ⟨rfl, rfl⟩
  go_wp2_with fail
  refine (K17a.out _).mono ?_
  rintro e w' ⟨rfl, rfl⟩
  go_wp2_with fail
  refine (K17b.out _).mono ?_
  rintro e w' ⟨rfl, rfl⟩
  go_wp2_with fail
  refine (K13.out _).mono ?_
  rintro e w1 ⟨rfl, b1⟩
  go_wp2_with fail
  refine (K18.out _).mono ?_
  rintro e w2' ⟨rfl, b2⟩
  go_wp2_with fail
  refine (K17c.out _).mono ?_
  rintro e w' ⟨rfl, rfl⟩
  go_wp2_with fail
  refine (K17d.out _).mono ?_
  rintro e w' ⟨rfl, rfl⟩
  have hA : (¬ 1 < w2.size) ∨ (1 < w2.size ∧ (Canon.nb w2.data.toList 0 == 48) = false) := by
    by_cases hw : 1 < w2.size
    · exact .inr ⟨hw, HD.out hw⟩
    · exact .inl hw
  rcases hA with hw | ⟨hw, hq⟩
  all_goals
    rcases HF.out with ⟨rfl, rfl⟩ | ⟨rfl, p1, p2, p3⟩
    · have hC : ng = false ∨ (ng = true ∧ (w2.toList == [48]) = false) := by
        cases ng with
        | false => exact .inl rfl
        | true =>
          refine .inr ⟨rfl, ?_⟩
          cases hX : (w2.toList == [48]) with
          | false => rfl
          | true =>
            have := HZ.out rfl hX
            rw [Lib.toList_data] at this
            simp at this
      rcases hC with rfl | ⟨rfl, hC⟩
      all_goals
        clear HF HZ HD
        go_wp2_with fail
        refine (K13b.out _).mono ?_
        rintro e w3 ⟨rfl, b3⟩
        go_wp2
        go_ret
        exact ⟨ret_bool (by simp), b1.trans ((b2.mono b1.size).trans (b3.mono (Nat.le_trans b1.size b2.size)))⟩
    · have e5 := get_nb' f2 (f2.size - 1) (by omega)
      cases ng
      all_goals
        by_cases hX : (w2.toList == [48]) = true
        all_goals
          clear HF HZ HD
          go_wp2_with fail
          refine (K13b.out _).mono ?_
          rintro e w3 ⟨rfl, b3⟩
          go_wp2
          go_ret
          exact ⟨ret_bool (by simp), b1.trans ((b2.mono b1.size).trans (b3.mono (Nat.le_trans b1.size b2.size)))⟩

set_option maxHeartbeats 1000000 in
theorem idem_walk (h13 : Said13) (n : Bool) (a b : ByteArray) (w : World) (ha : a.size ≤ maxLen) (hb : b.size ≤ maxLen) :
    Calls Tryd.prog 6 #[.bool n, .string a, .string b] w fun e w' => e = .returned (.bool true) ∧ Below w.heap.size w w' := by
  have hz := fun w => zzBytes16 n a b w ha hb
  unfold maxLen at ha hb
  by_cases h : a.size + b.size ≤ 1048576
  · rw [decide_eq_true h] at hz
    have K16 := hide hz
    clear hz
    have k17a := fun w => digits17 a w (by omega)
    have k17b := fun w => digits17 b w (by omega)
    cases hda : Canon.allDig a.data.toList with
    | false =>
      rw [hda] at k17a
      have K17a := hide k17a
      clear k17a k17b hda
      go_enter Tryd.func6, Tryd.ntmps6
      go_wp2_with fail
      refine (K16.out _).mono ?_
      rintro e w' ⟨rfl, rfl⟩
      go_wp2_with fail
      refine (K17a.out _).mono ?_
      rintro e w' ⟨rfl, rfl⟩
      go_wp2
      go_ret
      exact ⟨rfl, Below.refl _ _⟩
    | true =>
      rw [hda] at k17a
      have K17a := hide k17a
      clear k17a
      cases hdb : Canon.allDig b.data.toList with
      | false =>
        rw [hdb] at k17b
        have K17b := hide k17b
        clear k17b hda hdb
        go_enter Tryd.func6, Tryd.ntmps6
        go_wp2_with fail
        refine (K16.out _).mono ?_
        rintro e w' ⟨rfl, rfl⟩
        go_wp2_with fail
        refine (K17a.out _).mono ?_
        rintro e w' ⟨rfl, rfl⟩
        go_wp2_with fail
        refine (K17b.out _).mono ?_
        rintro e w' ⟨rfl, rfl⟩
        go_wp2
        go_ret
        exact ⟨rfl, Below.refl _ _⟩
      | true =>
        rw [hdb] at k17b
        have K17b := hide k17b
        clear k17b
        have l1 : (Canon.canon n a.data.toList b.data.toList).length ≤ 1048579 := by
          have := Canon.canon_le n a.data.toList b.data.toList
          simp at this
          omega
        have l2 : (Canon.pW a.data.toList).length + (Canon.pF b.data.toList).length ≤ 1048577 := by
          have h1 : (Canon.pW a.data.toList).length ≤ a.size + 1 := by
            have := Canon.tl_le a.data.toList
            unfold Canon.pW Canon.wh
            split
            · simp
            · simp at this; omega
          have h2 := Canon.tr_le b.data.toList
          unfold Canon.pF
          simp at h2
          omega
        have hne := Canon.pW_ne a.data.toList
        have lw : 0 < (Canon.pW a.data.toList).length := List.length_pos_iff.2 hne
        have k13b : ∀ w, Calls Tryd.prog 13 #[.bool (Canon.pNeg n a.data.toList b.data.toList), .string ⟨(Canon.pW a.data.toList).toArray⟩, .string ⟨(Canon.pF b.data.toList).toArray⟩] w fun e w' => e = .returned (.string ⟨(Canon.canon n a.data.toList b.data.toList).toArray⟩) ∧ Below w.heap.size w w' := by
          intro w
          have := h13 (Canon.pNeg n a.data.toList b.data.toList) ⟨(Canon.pW a.data.toList).toArray⟩ ⟨(Canon.pF b.data.toList).toArray⟩ w (by rw [Lib.size_mk, Lib.size_mk]; omega)
          rw [show (⟨(Canon.pW a.data.toList).toArray⟩ : ByteArray).data.toList = Canon.pW a.data.toList by simp, show (⟨(Canon.pF b.data.toList).toArray⟩ : ByteArray).data.toList = Canon.pF b.data.toList by simp, Canon.canon_again] at this
          exact this
        refine idem_core n a b ⟨(Canon.canon n a.data.toList b.data.toList).toArray⟩ ⟨(Canon.pW a.data.toList).toArray⟩ ⟨(Canon.pF b.data.toList).toArray⟩ (Canon.pNeg n a.data.toList b.data.toList) (!(Canon.pF b.data.toList).isEmpty) w h K16 K17a K17b
          (fun w => h13 n a b w (by omega)) (fun w => parts_of n a.data.toList b.data.toList hda _ (by simp) (by rw [Lib.size_mk]; omega) w) (fun w => ?_) (fun w => ?_) k13b (by rw [Lib.size_mk]; exact lw) (by rw [Lib.size_mk]; omega) (by rw [Lib.size_mk]; omega) ?_ ?_ ?_ ?_
        · have := digits17 ⟨(Canon.pW a.data.toList).toArray⟩ w (by rw [Lib.size_mk]; omega)
          rw [show (⟨(Canon.pW a.data.toList).toArray⟩ : ByteArray).data.toList = Canon.pW a.data.toList by simp, Canon.dig_pW _ hda] at this
          exact this
        · have := digits17 ⟨(Canon.pF b.data.toList).toArray⟩ w (by rw [Lib.size_mk]; omega)
          rw [show (⟨(Canon.pF b.data.toList).toArray⟩ : ByteArray).data.toList = Canon.pF b.data.toList by simp, Canon.dig_pF _ hdb] at this
          exact this
        · rw [Lib.toList_data]; simpa using hne
        · intro hlt
          rw [Lib.size_mk] at hlt
          have := Canon.pW_head a.data.toList hlt
          simpa using this
        · by_cases hF : Canon.pF b.data.toList = []
          · rw [hF]; exact .inl ⟨rfl, rfl⟩
          · refine .inr ⟨by simp [hF], ?_, ?_, ?_⟩
            · rw [Lib.size_mk]; exact List.length_pos_iff.2 hF
            · rw [Lib.toList_data]; simpa using hF
            · have := Canon.pF_last b.data.toList hF
              rw [Lib.size_mk]
              simpa using this
        · intro hn hw
          rw [Lib.toList_data] at hw ⊢
          have := Canon.not_neg_zero n a.data.toList b.data.toList hn (by simpa using hw)
          simpa using this
  · rw [decide_eq_false h] at hz
    have K16 := hide hz
    clear hz
    go_enter Tryd.func6, Tryd.ntmps6
    go_wp2_with fail
    refine (K16.out _).mono ?_
    rintro e w' ⟨rfl, rfl⟩
    go_wp2
    go_ret
    exact ⟨rfl, Below.refl _ _⟩

end Go.Proofs.Qxb6600692aDoor
