/-
  The walks under parsePercent: strings.Cut at a point.
-/
import Derived.Test.Qxb6600740aDoorEnv
import Derived.Test.Qxb6600740aDoorText
import Derived.WalkSpells
import Derived.Deep.QuietTactic
import Derived.BigQuiet
import Derived.BigCall
import Derived.Handy
import Derived.PlainAid
import Derived.Deep.DeepCutAuto
namespace Go.Proofs.Qxb6600740aDoor
open Go.RowKit

theorem hide {p : Prop} (h : p) : Hid p := h
theorem ret_bool {a b : Bool} (h : a = b) : Ending.returned (.bool a) = .returned (.bool b) := by rw [h]
theorem ret_str {a b : List UInt8} (h : a = b) : Ending.returned (.string ⟨a.toArray⟩) = .returned (.string ⟨b.toArray⟩) := by rw [h]

theorem ext_head (s : ByteArray) (a b : List UInt8) (h : s.data.toList = a ++ b) : s.extract 0 a.length = ⟨a.toArray⟩ := by
  rw [Lib.extract_eq, h]; simp
theorem ext_tail (s : ByteArray) (a b : List UInt8) (c : UInt8) (h : s.data.toList = a ++ c :: b) : s.extract (a.length + 1) s.size = ⟨b.toArray⟩ := by
  have hl : s.size = a.length + (b.length + 1) := by rw [Lib.size_eq, h]; simp
  rw [Lib.extract_eq, h, hl]
  have e : (a ++ c :: b).drop (a.length + 1) = b := by
    rw [← List.drop_drop, List.drop_left]; rfl
  rw [e, List.take_of_length_le (by omega)]

set_option maxHeartbeats 400000 in
theorem cut30 (ip fr : List UInt8) (dot : Bool) (s : ByteArray) (w : World) (hs : s.data.toList = Pc.body ip dot fr) (hd : Pc.allDig ip = true) (hn : dot = false → fr = []) (hz : s.size ≤ 1048576) :
    Calls Tryd.prog 30 #[.string s, .string ⟨#[46]⟩] w fun e w' => e = .returned (.tuple #[.string ⟨ip.toArray⟩, .string ⟨fr.toArray⟩, .bool dot]) ∧ Below w.heap.size w w' := by
  have k48 := fun w => Tryd.stringslite_Index_one s 46 w
  rw [hs, Pc.dot_body hd] at k48
  cases dot with
  | true =>
    have hl : s.size = ip.length + (fr.length + 1) := by rw [Lib.size_eq, hs]; simp [Pc.body, Pc.dp]
    have e1 := ext_head s ip (46 :: fr) hs
    have e2 := ext_tail s ip fr 46 hs
    have K48 := hide k48
    have l1 : ip.length < s.size := by omega
    clear k48 hs hn hl
    go_enter Tryd.func30, Tryd.ntmps30
    go_wp2_with fail
    refine (K48.out _).mono ?_
    rintro e w' ⟨rfl, rfl⟩
    go_wp2_with fail
    go_quiet (fail)
    go_wp2
    go_ret3
    exact ⟨rfl, Joins.below_draws _ _ _⟩
  | false =>
    obtain rfl := hn rfl
    have e1 : s = ⟨ip.toArray⟩ := by
      rw [← Lib.mk_data s, hs]
      simp [Pc.body, Pc.dp]
    have K48 := hide k48
    clear k48 hs hn
    subst e1
    go_enter Tryd.func30, Tryd.ntmps30
    go_wp2_with fail
    refine (K48.out _).mono ?_
    rintro e w' ⟨rfl, rfl⟩
    go_wp2
    go_ret3
    exact ⟨rfl, Below.refl _ _⟩

set_option maxHeartbeats 400000 in
theorem cut18 (ip fr : List UInt8) (dot : Bool) (s : ByteArray) (w : World) (hs : s.data.toList = Pc.body ip dot fr) (hd : Pc.allDig ip = true) (hn : dot = false → fr = []) (hz : s.size ≤ 1048576) :
    Calls Tryd.prog 18 #[.string s, .string ⟨#[46]⟩] w fun e w' => e = .returned (.tuple #[.string ⟨ip.toArray⟩, .string ⟨fr.toArray⟩, .bool dot]) ∧ Below w.heap.size w w' := by
  have K := hide (fun w => cut30 ip fr dot s w hs hd hn hz)
  generalize (⟨ip.toArray⟩ : ByteArray) = x at K ⊢
  generalize (⟨fr.toArray⟩ : ByteArray) = y at K ⊢
  clear hs hn
  go_enter Tryd.func18, Tryd.ntmps18
  go_wp2_with fail
  refine (K.out _).mono ?_
  rintro e w' ⟨rfl, hb⟩
  go_wp2
  go_ret3
  exact ⟨rfl, hb⟩
end Go.Proofs.Qxb6600740aDoor
