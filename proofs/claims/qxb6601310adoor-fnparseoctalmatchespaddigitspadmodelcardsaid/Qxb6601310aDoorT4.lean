/-
  octalModel: the automaton's invariant, and the walk.
-/
import Derived.Test.Qxb6601310aDoorT3
namespace Go.Proofs.Qxb6601310aDoor
open Go.RowKit

def Pads (bs : List UInt8) (a b : Nat) : Prop := ∀ j, a ≤ j → j < b → Oc.pad (bs.getD j 0) = true
def Octs (bs : List UInt8) (a b : Nat) : Prop := ∀ j, a ≤ j → j < b → Oc.oct (bs.getD j 0) = true
theorem Pads.snoc {bs : List UInt8} {a b : Nat} (h : Pads bs a b) (hc : Oc.pad (bs.getD b 0) = true) : Pads bs a (b + 1) := fun j h1 h2 => by
  by_cases e : j = b
  · subst e; exact hc
  · exact h j h1 (by omega)
theorem Octs.snoc {bs : List UInt8} {a b : Nat} (h : Octs bs a b) (hc : Oc.oct (bs.getD b 0) = true) : Octs bs a (b + 1) := fun j h1 h2 => by
  by_cases e : j = b
  · subst e; exact hc
  · exact h j h1 (by omega)

theorem Octs.one {bs : List UInt8} {a : Nat} (hc : Oc.oct (bs.getD a 0) = true) : Octs bs a (a + 1) := fun j h1 h2 => by
  obtain rfl : j = a := by omega
  exact hc
theorem Pads.one {bs : List UInt8} {a : Nat} (hc : Oc.pad (bs.getD a 0) = true) : Pads bs a (a + 1) := fun j h1 h2 => by
  obtain rfl : j = a := by omega
  exact hc

def Inv0 (bs : List UInt8) (st en i : Nat) : Prop := st = 0 ∧ en = 0 ∧ Pads bs 0 i
def Inv1 (bs : List UInt8) (st en i : Nat) : Prop := st < en ∧ en = i ∧ Pads bs 0 st ∧ Octs bs st en
def Inv2 (bs : List UInt8) (st en i : Nat) : Prop := st < en ∧ en < i ∧ Pads bs 0 st ∧ Octs bs st en ∧ Pads bs en i
def Inv (bs : List UInt8) (q st en i : Nat) : Prop := (q = 0 ∧ Inv0 bs st en i) ∨ (q = 1 ∧ Inv1 bs st en i) ∨ (q = 2 ∧ Inv2 bs st en i)

theorem inv_end (bs : List UInt8) (q st en : Nat) (h : Inv bs q st en bs.length) : Oc.ans bs = (wrap64 (Oc.val ((bs.drop st).take (en - st)) : Int), true) ∧ st ≤ en ∧ en ≤ bs.length ∧ Octs bs st en := by
  rcases h with ⟨_, rfl, rfl, h⟩ | ⟨_, h1, h2, h3, h4⟩ | ⟨_, h1, h2, h3, h4, h5⟩
  · refine ⟨?_, by omega, by omega, fun j _ _ => by omega⟩
    rw [Oc.good_none bs (fun j hj => h j (by omega) hj)]
    simp [Oc.val, wrap64]
  · exact ⟨Oc.good_seg bs st en h1 (by omega) (fun j hj => h3 j (by omega) hj) (fun j a b => h4 j a b) (fun j a b => by omega), by omega, by omega, h4⟩
  · exact ⟨Oc.good_seg bs st en h1 (by omega) (fun j hj => h3 j (by omega) hj) (fun j a b => h4 j a b) (fun j a b => h5 j a b), by omega, by omega, h4⟩

theorem inv2_bad (bs : List UInt8) (st en i : Nat) (h : Inv2 bs st en i) (hi : i < bs.length) (hp : Oc.pad (bs.getD i 0) = false) : Oc.ans bs = (0, false) := by
  obtain ⟨h1, h2, h3, h4, h5⟩ := h
  exact Oc.bad_mid bs st en i h1 h2 hi (Oc.oct_not_pad (h4 st (Nat.le_refl _) h1)) (h5 en (Nat.le_refl _) h2) hp

theorem inv12 {bs : List UInt8} {st en i : Nat} (h : Inv1 bs st en i) (hp : Oc.pad (bs.getD i 0) = true) : Inv2 bs st en (i + 1) := by
  obtain ⟨h1, rfl, h3, h4⟩ := h
  exact ⟨h1, by omega, h3, h4, Pads.one hp⟩
theorem inv22 {bs : List UInt8} {st en i : Nat} (h : Inv2 bs st en i) (hp : Oc.pad (bs.getD i 0) = true) : Inv2 bs st en (i + 1) := by
  obtain ⟨h1, h2, h3, h4, h5⟩ := h
  exact ⟨h1, by omega, h3, h4, h5.snoc hp⟩

theorem nb_pad (l : List UInt8) (k : Nat) : Oc.pad (l.getD k 0) = (nb l k == 32 || nb l k == 0) := by
  unfold Oc.pad nb
  generalize l.getD k 0 = c
  have h1 : (c == 32) = ((c.toNat : Int) == 32) := by
    rw [Bool.eq_iff_iff, beq_iff_eq, beq_iff_eq]
    constructor
    · rintro rfl; rfl
    · intro h; exact UInt8.toNat_inj.1 (by show c.toNat = 32; omega)
  have h2 : (c == 0) = ((c.toNat : Int) == 0) := by
    rw [Bool.eq_iff_iff, beq_iff_eq, beq_iff_eq]
    constructor
    · rintro rfl; rfl
    · intro h; exact UInt8.toNat_inj.1 (by show c.toNat = 0; omega)
  rw [h1, h2]

theorem u64_wrap (x : Int) : IntKind.u64.wrap x = x % 18446744073709551616 := by simp [IntKind.wrap, IntKind.bits, IntKind.signed]

theorem step_mod (A d Q M : Nat) : (((A % M : Nat) : Int) + ((d : Int) * ((Q % M : Nat) : Int)) % (M : Int)) % (M : Int) = (((d * Q + A) % M : Nat) : Int) := by
  rw [← Int.natCast_mul, ← Int.natCast_emod, ← Int.natCast_add, ← Int.natCast_emod]
  congr 1
  rw [Nat.mul_mod d (Q % M), Nat.mod_mod, ← Nat.mul_mod, ← Nat.add_mod, Nat.add_comm]
theorem step_mul (Q M : Nat) : (((Q % M : Nat) : Int) * 8) % (M : Int) = ((Q * 8 % M : Nat) : Int) := by
  rw [show (8 : Int) = ((8 : Nat) : Int) from rfl, ← Int.natCast_mul, ← Int.natCast_emod]
  congr 1
  rw [Nat.mod_mul_mod]

/-- one digit more, to the left -/
theorem val_step (bs : List UInt8) (m en : Nat) (v w : Nat) (hm : m < en) (hen : en ≤ bs.length) (hd : 48 ≤ nb bs m)
    (hv : v = Oc.val ((bs.drop (m + 1)).take (en - (m + 1))) % 18446744073709551616) (hw : w = 8 ^ (en - (m + 1)) % 18446744073709551616) :
    IntKind.u64.wrap ((v : Int) + IntKind.u64.wrap ((nb bs m - 48) * (w : Int))) = ((Oc.val ((bs.drop m).take (en - m)) % 18446744073709551616 : Nat) : Int)
      ∧ IntKind.u64.wrap ((w : Int) * 8) = ((8 ^ (en - m) % 18446744073709551616 : Nat) : Int) := by
  have hseg : (bs.drop m).take (en - m) = bs.getD m 0 :: (bs.drop (m + 1)).take (en - (m + 1)) := by
    rw [List.drop_eq_getElem_cons (by omega), show en - m = (en - (m + 1)) + 1 by omega, List.take_succ_cons, List.getD_eq_getElem?_getD, List.getElem?_eq_getElem (by omega)]
    rfl
  have hlen : ((bs.drop (m + 1)).take (en - (m + 1))).length = en - (m + 1) := by rw [List.length_take, List.length_drop]; omega
  have hdn : nb bs m - 48 = (((bs.getD m 0).toNat - 48 : Nat) : Int) := by unfold nb at hd ⊢; omega
  rw [hseg, Oc.val_cons, hlen, hdn, u64_wrap, u64_wrap, u64_wrap]
  generalize Oc.val ((bs.drop (m + 1)).take (en - (m + 1))) = A at hv
  have hp : 8 ^ (en - m) = 8 ^ (en - (m + 1)) * 8 := by rw [← Nat.pow_succ]; congr 1; omega
  rw [hp]
  generalize 8 ^ (en - (m + 1)) = Q at hw
  generalize (bs.getD m 0).toNat - 48 = d
  subst hv hw
  exact ⟨step_mod A d Q 18446744073709551616, step_mul Q 18446744073709551616⟩

set_option maxRecDepth 100000 in
set_option maxHeartbeats 4000000 in
theorem model8 (p : Option Addr) (n c : Nat) (bs : List UInt8) (W : World) (hb : bs.length = n) (hn : n ≤ 1048576) (h1 : Lib.BytesAt W p n bs) :
    Calls Tryd.prog 8 #[.slice p n c] W fun e w' => e = .returned (.tuple #[.int .i64 (Oc.ans bs).1, .bool (Oc.ans bs).2]) ∧ w' = W := by
  have HAt := hide h1
  have HBad := hide (Oc.bad_byte bs)
  have HBad2 := hide (inv2_bad bs)
  have HEnd := hide (inv_end bs)
  generalize Oc.ans bs = r at HBad HBad2 HEnd ⊢
  have HB := hide hb
  clear hb h1
  go_enter Tryd.func8, Tryd.ntmps8
  go_upto_block 0 with fail
  go_cut [4, 5, 6] (fun _ s5 s6 wc => ∃ st en : Nat, s5 = .int .i64 st ∧ s6 = .int .i64 en ∧ r = (wrap64 (Oc.val ((bs.drop st).take (en - st)) : Int), true) ∧ st ≤ en ∧ en ≤ n ∧ Octs bs st en ∧ wc = W)
  case first =>
    go_wp2_with fail
    go_loop [4, 5, 6, 7] (fun s4 s5 s6 s7 => ∃ q st en i : Nat, s4 = .int .i64 q ∧ s5 = .int .i64 st ∧ s6 = .int .i64 en ∧ s7 = .int .i64 i ∧ i ≤ n ∧ Inv bs q st en i) (fun _ _ _ s7 => n - (intOf s7).toNat)
    case atStart => exact ⟨0, 0, 0, 0, rfl, rfl, rfl, rfl, by omega, .inl ⟨rfl, rfl, rfl, fun j _ h => by omega⟩⟩
    case round =>
      obtain ⟨q, st, en, i, rfl, rfl, rfl, rfl, hi, hinv⟩ := hrel
      by_cases hlt : i < n
      · obtain ⟨b, o, rfl, hcell⟩ := HAt.out (by omega)
        have hrd : W.cell? ⟨b, o + i, none⟩ = some (.int .u8 (nb bs i)) := hcell i hlt
        clear hcell
        have ho := nb_oct bs i
        have hpd := nb_pad bs i
        have hr0 : 0 ≤ nb bs i := by unfold nb; omega
        have hib : i < bs.length := by rw [HB.out]; exact hlt
        have HIb := hide hib
        clear hib
        by_cases hd : 48 ≤ nb bs i ∧ nb bs i ≤ 55
        · rw [decide_eq_true hd] at ho
          obtain ⟨hd1, hd2⟩ := hd
          have q1 : (nb bs i == 32) = false := by simp; omega
          have q2 : (nb bs i == 0) = false := by simp; omega
          rw [q1, q2] at hpd
          have HO := hide ho
          have HP := hide hpd
          clear ho hpd
          rcases hinv with ⟨rfl, hI⟩ | ⟨rfl, hI⟩ | ⟨rfl, hI⟩
          · have HI := hide hI
            clear hI
            go_wp2_with fail
            go_round
            case rel => exact ⟨1, i, i + 1, i + 1, rfl, rfl, by go_num, by go_num, by omega, .inr (.inl ⟨rfl, by omega, rfl, HI.out.2.2, Octs.one HO.out⟩)⟩
            case measure => simp [intOf]; omega
          · have HI := hide hI
            clear hI
            go_wp2_with fail
            go_round
            case rel => exact ⟨1, st, i + 1, i + 1, rfl, rfl, by go_num, by go_num, by omega, .inr (.inl ⟨rfl, by have := HI.out.1; have := HI.out.2.1; omega, rfl, HI.out.2.2.1, by have h := HI.out.2.2.2; rw [HI.out.2.1] at h; exact h.snoc HO.out⟩)⟩
            case measure => simp [intOf]; omega
          · have hr := HBad2.out st en i hI HIb.out HP.out
            subst hr
            clear hI HBad HBad2 HEnd
            go_wp2
            go_ret2
            exact ⟨rfl, rfl⟩
        · rw [decide_eq_false hd] at ho
          have HO := hide ho
          clear ho
          have hcls : (nb bs i == 32) = true ∨ ((nb bs i == 32) = false ∧ (nb bs i == 0) = true) ∨ ((nb bs i == 32) = false ∧ (nb bs i == 0) = false) := by
            cases nb bs i == 32 <;> cases nb bs i == 0 <;> simp
          have hdd : nb bs i < 48 ∨ 55 < nb bs i := by omega
          clear hd
          rcases hcls with q1 | ⟨q1, q2⟩ | ⟨q1, q2⟩
          · have hp : Oc.pad (bs.getD i 0) = true := by rw [hpd, q1]; rfl
            obtain hd1 : nb bs i < 48 := by have : nb bs i = 32 := by simpa using q1
                                            omega
            have HP := hide hp
            clear hp hpd hdd
            rcases hinv with ⟨rfl, hI⟩ | ⟨rfl, hI⟩ | ⟨rfl, hI⟩
            · have HI := hide hI
              clear hI
              go_wp2_with fail
              go_round
              case rel => exact ⟨0, st, en, i + 1, rfl, rfl, rfl, by go_num, by omega, .inl ⟨rfl, HI.out.1, HI.out.2.1, HI.out.2.2.snoc HP.out⟩⟩
              case measure => simp [intOf]; omega
            · have HI := hide hI
              clear hI
              go_wp2_with fail
              go_round
              case rel => exact ⟨2, st, en, i + 1, rfl, rfl, rfl, by go_num, by omega, .inr (.inr ⟨rfl, inv12 HI.out HP.out⟩)⟩
              case measure => simp [intOf]; omega
            · have HI := hide hI
              clear hI
              go_wp2_with fail
              go_round
              case rel => exact ⟨2, st, en, i + 1, rfl, rfl, rfl, by go_num, by omega, .inr (.inr ⟨rfl, inv22 HI.out HP.out⟩)⟩
              case measure => simp [intOf]; omega
          · have hp : Oc.pad (bs.getD i 0) = true := by rw [hpd, q1, q2]; rfl
            obtain hd1 : nb bs i < 48 := by have : nb bs i = 0 := by simpa using q2
                                            omega
            have HP := hide hp
            clear hp hpd hdd
            rcases hinv with ⟨rfl, hI⟩ | ⟨rfl, hI⟩ | ⟨rfl, hI⟩
            · have HI := hide hI
              clear hI
              go_wp2_with fail
              go_round
              case rel => exact ⟨0, st, en, i + 1, rfl, rfl, rfl, by go_num, by omega, .inl ⟨rfl, HI.out.1, HI.out.2.1, HI.out.2.2.snoc HP.out⟩⟩
              case measure => simp [intOf]; omega
            · have HI := hide hI
              clear hI
              go_wp2_with fail
              go_round
              case rel => exact ⟨2, st, en, i + 1, rfl, rfl, rfl, by go_num, by omega, .inr (.inr ⟨rfl, inv12 HI.out HP.out⟩)⟩
              case measure => simp [intOf]; omega
            · have HI := hide hI
              clear hI
              go_wp2_with fail
              go_round
              case rel => exact ⟨2, st, en, i + 1, rfl, rfl, rfl, by go_num, by omega, .inr (.inr ⟨rfl, inv22 HI.out HP.out⟩)⟩
              case measure => simp [intOf]; omega
          · have hp : Oc.pad (bs.getD i 0) = false := by rw [hpd, q1, q2]; rfl
            have hr := HBad.out i HIb.out hp HO.out
            subst hr
            clear hp hpd HBad HBad2 HEnd
            have hq : q = 0 ∨ q = 1 ∨ q = 2 := by
              rcases hinv with ⟨h, _⟩ | ⟨h, _⟩ | ⟨h, _⟩ <;> simp [h]
            clear hinv
            rcases hdd with hd1 | hd1
            · rcases hq with rfl | rfl | rfl
              all_goals
                go_wp2
                go_ret2
                exact ⟨rfl, rfl⟩
            · have hd0 : 48 ≤ nb bs i := by omega
              rcases hq with rfl | rfl | rfl
              all_goals
                go_wp2
                go_ret2
                exact ⟨rfl, rfl⟩
      · obtain rfl : i = n := by omega
        obtain ⟨h1, h2, h3, h4⟩ := HEnd.out q st en (by rw [HB.out]; exact hinv)
        rw [HB.out] at h3
        have H1 := hide h1
        have H4 := hide h4
        clear h1 h4 hinv HEnd HBad HBad2
        go_wp2_with fail
        go_meet
        exact ⟨st, en, rfl, rfl, H1.out, h2, h3, H4.out, rfl⟩
  case rest =>
    obtain ⟨st, en, rfl, rfl, hr, hse, hen, hoc, rfl⟩ := hcut
    subst hr
    have HOc := hide hoc
    clear hoc HBad HBad2 HEnd
    go_wp2_with fail
    go_loop [11, 12, 13] (fun s11 s12 s13 => ∃ k v w : Nat, s11 = .int .u64 v ∧ s12 = .int .u64 w ∧ s13 = .int .i64 ((k : Int) - 1) ∧ st ≤ k ∧ k ≤ en ∧ v = Oc.val ((bs.drop k).take (en - k)) % 18446744073709551616 ∧ w = 8 ^ (en - k) % 18446744073709551616) (fun _ _ s13 => (intOf s13 + 1).toNat)
    case atStart => exact ⟨en, 0, 1, rfl, rfl, by go_num, hse, Nat.le_refl _, by simp [Oc.val], by simp⟩
    case round =>
      obtain ⟨k, v, w, rfl, rfl, rfl, hk1, hk2, hv, hw⟩ := hrel
      have hvb : v < 18446744073709551616 := by rw [hv]; exact Nat.mod_lt _ (by decide)
      have hwb : w < 18446744073709551616 := by rw [hw]; exact Nat.mod_lt _ (by decide)
      have HV := hide hv
      have HW := hide hw
      clear hv hw
      by_cases hlt : st < k
      · obtain ⟨m, rfl⟩ : ∃ m, k = m + 1 := ⟨k - 1, by omega⟩
        obtain ⟨b, o, rfl, hcell⟩ := HAt.out (by omega)
        have hrd : wc.cell? ⟨b, o + m, none⟩ = some (.int .u8 (nb bs m)) := hcell m (by omega)
        clear hcell
        have ho := HOc.out m (by omega) (by omega)
        rw [nb_oct] at ho
        obtain ⟨hd1, hd2⟩ := of_decide_eq_true ho
        clear ho
        go_wp2_with fail
        go_round
        case rel =>
          obtain ⟨e1, e2⟩ := val_step bs m en v w (by omega) (by rw [HB.out]; exact hen) hd1 HV.out HW.out
          exact ⟨m, _, _, congrArg _ e1, congrArg _ e2, rfl, by omega, by omega, rfl, rfl⟩
        case measure => simp [intOf]
      · obtain rfl : k = st := by omega
        go_wp2
        go_ret2
        refine ⟨ret_two ?_ rfl, rfl⟩
        rw [HV.out]
        unfold wrap64
        omega
end Go.Proofs.Qxb6601310aDoor
