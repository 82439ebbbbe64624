/-
  zzItoa, zzZeros.
-/
import Derived.Test.Qxb6600740aDoorT1
namespace Go.Proofs.Qxb6600740aDoor
open Go.RowKit

set_option maxHeartbeats 400000 in
theorem zeros10 (p : Nat) (w : World) (hp : p ≤ 7) :
    Calls Tryd.prog 10 #[.int .i64 p] w fun e w' => e = .returned (.string ⟨(List.replicate p 48).toArray⟩) ∧ w' = w := by
  go_enter Tryd.func10, Tryd.ntmps10
  go_wp2_with fail
  go_loop [3, 4] (fun s i => ∃ k : Nat, k ≤ p ∧ i = .int .i64 k ∧ s = .string ⟨(List.replicate k 48).toArray⟩) (fun _ i => p - (intOf i).toNat)
  case atStart => exact ⟨0, Nat.zero_le _, rfl, rfl⟩
  case round =>
    obtain ⟨k, hk, rfl, rfl⟩ := hrel
    have e1 : (⟨(List.replicate k 48).toArray⟩ : ByteArray) ++ ⟨#[48]⟩ = ⟨(List.replicate (k + 1) 48).toArray⟩ := by
      rw [← Lib.mk_data (⟨(List.replicate k 48).toArray⟩ ++ ⟨#[48]⟩), Joins.data_append]
      rw [List.replicate_succ']
    have e2 : (⟨(List.replicate k 48).toArray⟩ : ByteArray).size = k := by rw [Lib.size_mk, List.length_replicate]
    have HE := hide e1
    clear e1
    by_cases hlt : k < p
    · generalize (⟨(List.replicate k 48).toArray⟩ : ByteArray) = z at HE e2 ⊢
      go_wp2
      go_round
      case rel => exact ⟨k + 1, by omega, by go_num, by rw [← HE.out]⟩
      case measure => simp [intOf]; omega
    · obtain rfl : k = p := by omega
      go_wp2
      go_ret
      exact ⟨rfl, rfl⟩

/-- the buffer: its last cells hold the digits l -/
def BufAt (B : Nat) (i : Nat) (l : List UInt8) (wr : World) : Prop :=
  ∃ cs : Array Value, wr.heap[B]? = some (.cells cs 31 (0, 0)) ∧ cs.size = 24 ∧ ∀ j (hj : j < l.length), cs[i + j]? = some (.int .u8 (l[j].toNat : Int))
theorem buf_cell {B i : Nat} {l : List UInt8} {wr : World} (h : BufAt B i l wr) (k : Nat) (hk : k < 24) : ∃ v, wr.cell? ⟨B, k, none⟩ = some v := by
  obtain ⟨cs, h1, h2, _⟩ := h
  exact ⟨cs[k]'(by omega), by rw [Joins.cell_of_block h1]; simp [h2, hk]⟩
theorem buf_free {B i : Nat} {l : List UInt8} {wr : World} (h : BufAt B i l wr) (k : Nat) : wr.frozen? ⟨B, k, none⟩ = false := by
  obtain ⟨cs, h1, h2, _⟩ := h
  exact Joins.unfrozen_of_block h1 k
theorem buf_step {B i : Nat} {l : List UInt8} {wr : World} (h : BufAt B (i + 1) l wr) (hi : i < 24) (c : UInt8) : BufAt B i (c :: l) (wr.setCell ⟨B, i, none⟩ (.int .u8 (c.toNat : Int))) := by
  obtain ⟨cs, h1, h2, h3⟩ := h
  refine ⟨_, Joins.block_setCell h1 _, by rw [Array.size_setIfInBounds]; exact h2, ?_⟩
  intro j hj
  cases j with
  | zero => simp [h2, hi]
  | succ j =>
    rw [Array.getElem?_setIfInBounds_ne (by omega)]
    have := h3 j (by simpa using hj)
    rw [show i + (j + 1) = i + 1 + j by omega, this]
    simp
theorem buf_zero (w : World) (C : Array Value) (h : C.size = 24) : BufAt w.heap.size 24 [] (w.alloc (.cells C 31)) :=
  ⟨C, heap_alloc_new _ _, h, fun j hj => by simp at hj⟩
theorem buf_string {B i : Nat} {l : List UInt8} {wr : World} (h : BufAt B i l wr) (cap : Nat) :
    (convert 32 9 (.slice (some ⟨B, i, none⟩) l.length cap)).run Tryd.prog wr = .ok (.string ⟨l.toArray⟩) wr := by
  obtain ⟨cs, h1, h2, h3⟩ := h
  refine run_convert_bytes_back wr 32 9 5 ⟨B, i, none⟩ cap l Tryd.underlying32 Tryd.underlying5 Tryd.underlying9 ?_
  intro j hj
  rw [show (⟨B, i, none⟩ : Addr).add j = ⟨B, i + j, none⟩ from (by simp [Addr.add]), Joins.cell_of_block h1]
  exact h3 j hj

theorem slice31 (B i : Nat) (w : World) (hi : i < 24) :
    (Instr.sliceAt 31 (.pointer (some ⟨B, 0, none⟩)) (some (.int .i64 i)) none none).run Tryd.prog w = .ok (.slice (some ⟨B, i, none⟩) (24 - i) (24 - i)) w := by
  have hl : Tryd.prog.arrayLen 31 = 24 := by kernel_rfl
  have he : Tryd.prog.elem 31 = 5 := by kernel_rfl
  rw [run_sliceAt_array_l w 31 ⟨B, 0, none⟩ (by rw [hl, he]; exact Tryd.underlying31) .i64 i (by omega) (by rw [hl]; omega), he, Tryd.sizeOf5, hl]
  have hne : ¬ 24 = i := by omega
  simp [Result.andThen, slicedAt, Addr.add, hne]
  exact fun h => h.symm

def ItoaEnd (n : Nat) (w : World) (e : Ending) (w' : World) : Prop :=
  ∃ l : List UInt8, e = .returned (.string ⟨l.toArray⟩) ∧ Pc.allDig l = true ∧ l ≠ [] ∧ Pc.val l = n ∧ l.length ≤ 5 ∧ (n < 100 → l.length ≤ 2) ∧ Below w.heap.size w w'

set_option maxRecDepth 100000 in
set_option maxHeartbeats 1000000 in
theorem itoa9 (n : Nat) (w : World) (hn : n ≤ 10000) : Calls Tryd.prog 9 #[.int .i64 n] w (ItoaEnd n w) := by
  by_cases h0 : n = 0
  · subst h0
    go_enter Tryd.func9, Tryd.ntmps9
    go_wp2
    go_ret
    exact ⟨[48], rfl, rfl, by simp, rfl, by decide, fun _ => by decide, Below.refl _ _⟩
  · go_enter Tryd.func9, Tryd.ntmps9
    go_wp2_with fail
    go_loopw [0, 4] (fun a b wr => ∃ (m i : Nat) (l : List UInt8), a = .int .i64 m ∧ b = .int .i64 i ∧ i + l.length = 24 ∧ n = m * 10 ^ l.length + Pc.val l ∧ Pc.allDig l = true ∧ (l = [] ∨ 10 ^ (l.length - 1) ≤ n) ∧ BufAt w.heap.size i l wr ∧ Below w.heap.size w wr) (fun a _ _ => (intOf a).toNat)
    case atStart =>
      refine ⟨n, 24, [], rfl, rfl, rfl, ?_, rfl, .inl rfl, buf_zero w _ rfl, Joins.below_alloc1 _ _⟩
      simp [Pc.val]
    case round =>
      obtain ⟨m, i, l, rfl, rfl, hil, hnm, hd, hlen, hbuf, hbr⟩ := hrel
      have hle : l.length ≤ 5 := by
        rcases hlen with rfl | h
        · simp
        · rcases Nat.lt_or_ge 5 l.length with h5 | h5
          · have : 10 ^ 5 ≤ 10 ^ (l.length - 1) := Nat.pow_le_pow_right (by decide) (by omega)
            have e5 : (10 : Nat) ^ 5 = 100000 := by decide
            omega
          · exact h5
      by_cases hm : 0 < m
      · obtain ⟨i', rfl⟩ : ∃ i', i = i' + 1 := ⟨i - 1, by omega⟩
        obtain ⟨v0, hc⟩ := buf_cell hbuf i' (by omega)
        have hf := buf_free hbuf i'
        have ml : m ≤ 10000 := by
          have h1 : 1 ≤ 10 ^ l.length := Nat.pow_pos (by decide)
          have h2 : m * 1 ≤ m * 10 ^ l.length := Nat.mul_le_mul_left _ h1
          omega
        have HB := hide hbuf
        have HN := hide hnm
        have HLn := hide hlen
        clear hbuf hnm hlen
        go_wp2
        go_roundw
        case rel =>
          have hc2 : ((UInt8.ofNat (48 + m % 10)).toNat : Int) = 48 + (m : Int) % 10 := by
            rw [UInt8.toNat_ofNat']
            omega
          have hst := buf_step HB.out (by omega) (UInt8.ofNat (48 + m % 10))
          rw [hc2] at hst
          have hN := HN.out
          have hdv : Pc.dv (UInt8.ofNat (48 + m % 10)) = m % 10 := by
            unfold Pc.dv
            rw [UInt8.toNat_ofNat']
            omega
          refine ⟨m / 10, i', UInt8.ofNat (48 + m % 10) :: l, by go_num, rfl, by simp; omega, ?_, ?_, .inr ?_, hst, hbr.setCell (Nat.le_refl _) _⟩
          · rw [Pc.val_cons, hdv, List.length_cons, Nat.pow_succ, hN]
            have h1 : m = m / 10 * 10 + m % 10 := by omega
            have h2 : m * 10 ^ l.length = m / 10 * (10 ^ l.length * 10) + m % 10 * 10 ^ l.length := by
              conv => lhs; rw [h1]
              rw [Nat.add_mul, Nat.mul_assoc, Nat.mul_comm 10]
            omega
          · rw [Pc.allDig_cons, hd, Bool.and_true]
            unfold Pc.dig
            rw [UInt8.toNat_ofNat']
            simp
            omega
          · rw [List.length_cons, Nat.add_sub_cancel]
            have h2 : 1 * 10 ^ l.length ≤ m * 10 ^ l.length := Nat.mul_le_mul_right _ hm
            omega
        case measure => simp [intOf]; omega
      · obtain rfl : m = 0 := by omega
        have hcv := buf_string hbuf (24 - i)
        rw [show l.length = 24 - i by omega] at hcv
        have hi : i < 24 := by
          rcases Nat.eq_zero_or_pos l.length with h | h
          · have : l = [] := List.length_eq_zero_iff.1 h
            rw [this] at hnm
            simp [Pc.val] at hnm
            omega
          · omega
        have hsl := fun w' => slice31 w.heap.size i w' hi
        have HI := hide hil
        have HN := hide hnm
        have HLn := hide hlen
        clear hnm hlen hbuf hil
        go_wp2
        go_ret
        have hN := HN.out
        rw [Nat.zero_mul, Nat.zero_add] at hN
        refine ⟨l, rfl, hd, ?_, hN.symm, hle, ?_, hbr⟩
        · rintro rfl
          exact h0 hN
        · intro hlt
          rcases HLn.out with rfl | h
          · simp
          · rcases Nat.lt_or_ge 2 l.length with h5 | h5
            · have : 10 ^ 2 ≤ 10 ^ (l.length - 1) := Nat.pow_le_pow_right (by decide) (by omega)
              have e5 : (10 : Nat) ^ 2 = 100 := by decide
              omega
            · exact h5
end Go.Proofs.Qxb6600740aDoor
