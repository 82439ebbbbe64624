/-
  bytes.Trim at the cutset of a space and a NUL: the trimmed bytes, in place.
-/
import Derived.Test.Qxb6601310aDoorT1
import Derived.Shelf.Lay
import Derived.Shelf.Strings.SlTrimAscii
namespace Go.Proofs
open Go.Shelf
shelf_lay SlLaysV.n6 Slbv 6 at Tryd as Tryd.lays12
end Go.Proofs
namespace Go.Proofs.Qxb6601310aDoor
open Go.RowKit Go.Shelf

theorem trimS_drop (l cs : List UInt8) : Lib.trimS l cs = (Lib.trimRightS l cs).drop ((Lib.trimRightS l cs).length - (Lib.trimS l cs).length) := by
  have h : Lib.trimS l cs <:+ Lib.trimRightS l cs := by
    unfold Lib.trimS Lib.trimLeftS
    exact List.dropWhile_suffix _
  exact List.suffix_iff_eq_drop.1 h

theorem left_bytes {w : World} {p : Option Addr} {n c : Nat} {bs : List UInt8} (cs : List UInt8) (h : Lib.BytesAt w p n bs) (hb : bs.length = n) (hc : n ≤ c) :
    ∃ p' c', Lib.leftV p (Lib.trimRightS bs cs).length c ((Lib.trimRightS bs cs).length - (Lib.trimS bs cs).length) = .slice p' (Lib.trimS bs cs).length c' ∧ Lib.BytesAt w p' (Lib.trimS bs cs).length (Lib.trimS bs cs) := by
  have e1 := Lib.trimRightS_eq_take bs cs
  have e2 := trimS_drop bs cs
  have l1 := Lib.trimRightS_len_le bs cs
  have l2 : (Lib.trimS bs cs).length ≤ (Lib.trimRightS bs cs).length := by
    have := congrArg List.length e2
    rw [List.length_drop] at this
    omega
  generalize Lib.trimRightS bs cs = R at e1 e2 l1 l2 ⊢
  generalize Lib.trimS bs cs = T at e2 l2 ⊢
  unfold Lib.leftV
  by_cases h0 : R.length - T.length = R.length
  · rw [if_pos h0]
    have : T.length = 0 := by omega
    exact ⟨none, 0, by rw [this], fun h => by omega⟩
  · rw [if_neg h0]
    unfold Lib.fromV
    obtain ⟨b, o, rfl, hcell⟩ := h (by omega)
    rw [if_neg (by omega)]
    refine ⟨some ⟨b, o + (R.length - T.length), none⟩, c - (R.length - T.length), ?_, fun hT => ⟨b, _, rfl, fun i hi => ?_⟩⟩
    · congr 1
      · simp [Addr.add]
      · omega
    · rw [show o + (R.length - T.length) + i = o + (R.length - T.length + i) by omega, hcell _ (by omega)]
      have hg : T.getD i 0 = bs.getD (R.length - T.length + i) 0 := by
        have h3 : T[i]? = R[R.length - T.length + i]? := by
          have := congrArg (fun l => l[i]?) e2
          rw [List.getElem?_drop] at this
          exact this
        have h4 : R[R.length - T.length + i]? = bs[R.length - T.length + i]? := by
          have := congrArg (fun l => l[R.length - T.length + i]?) e1
          rw [List.getElem?_take_of_lt (by omega)] at this
          exact this
        rw [List.getD_eq_getElem?_getD, List.getD_eq_getElem?_getD, h3, h4]
      rw [hg]

set_option maxHeartbeats 1000000 in
theorem trim12 (p : Option Addr) (n c : Nat) (bs : List UInt8) (w : World) (hb : bs.length = n) (hnc : n ≤ c) (hbig : c ≤ 9223372036854775807) (h1 : Lib.BytesAt w p n bs) :
    Calls Tryd.prog 12 #[.slice p n c, .string ⟨#[32, 0]⟩] w fun e w' => (∃ p' c', e = .returned (.slice p' (Lib.trimS bs [32, 0]).length c') ∧ Lib.BytesAt w' p' (Lib.trimS bs [32, 0]).length (Lib.trimS bs [32, 0])) ∧ Below w.heap.size w w' := by
  have h27 : (Tryd.prog.info? (Tryd.lays12_ren.t 27)).map (fun i => (i.zero, i.size)) = some (some (.agg (Array.replicate 256 (.bool false))), 256) := by kernel_rfl
  have hcon := Any.bytes_Trim_ascii Tryd.lays12 (zero_of_info h27).1 (zero_of_info h27).2 p n c bs ⟨#[32, 0]⟩ w hb hnc hbig h1 (by decide) (ascii_of_all (by decide))
  change Calls Tryd.prog 12 _ _ (fun e w' => e = .returned (Lib.leftV p (Lib.trimRightS bs [32, 0]).length c ((Lib.trimRightS bs [32, 0]).length - (Lib.trimS bs [32, 0]).length)) ∧ Below w.heap.size w w') at hcon
  refine hcon.mono ?_
  rintro e w' ⟨rfl, hbl⟩
  obtain ⟨p', c', hv, hat⟩ := left_bytes [32, 0] h1 hb hnc
  rw [hv]
  exact ⟨⟨p', c', rfl, hat.below hbl⟩, hbl⟩
end Go.Proofs.Qxb6601310aDoor
