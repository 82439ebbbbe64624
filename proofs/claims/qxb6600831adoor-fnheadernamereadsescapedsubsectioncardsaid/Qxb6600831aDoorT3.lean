/-
  The laws' helpers: ZZHeaderName, indexOf, isGitBlank.
-/
import Derived.Test.Qxb6600831aDoorT2
namespace Go.Proofs.Qxb6600831aDoor
open Go.RowKit

set_option maxHeartbeats 400000 in
theorem head7 (git raw : Bool) (s : ByteArray) (L : List UInt8) (hL : s.data.toList = L) (w : World) (hsz : s.size ≤ 1000000) :
    Calls Tryd.prog 7 #[.agg (optC git raw), .string s] w fun e w' => e = .returned (.string ⟨(ans git raw L).toArray⟩) ∧ Below w.heap.size w w' := by
  have K := hide (fun w => head12 git raw s L hL w hsz)
  have hh := opt_heap git raw w
  have hz : (Tryd.prog.info? 25).map (·.size) = some (optC git raw).size := by rw [optC_size]; exact info25
  have HH := hide hh
  have HZ := hide hz
  generalize (⟨(ans git raw L).toArray⟩ : ByteArray) = r at K ⊢
  generalize optC git raw = C at K HH HZ ⊢
  clear hh hz hL
  go_enter Tryd.func7, Tryd.ntmps7
  go_wp2_with (refine wpList_load_row rfl 25 _ rfl w.heap.size rfl 25 C (0, 0) _ HH.out Tryd.underlying25 rfl HZ.out ?_)
  refine (K.out _).mono ?_
  rintro e w1 ⟨rfl, hb1⟩
  go_wp2
  go_ret
  exact ⟨rfl, (Joins.below_alloc1 _ _).trans (hb1.mono (by simp))⟩

theorem index_skip (c : UInt8) : ∀ (m r : List UInt8), (∀ b ∈ m, b ≠ c) → Lib.indexByte (m ++ r) c = if Lib.indexByte r c == -1 then -1 else Lib.indexByte r c + m.length
  | [], r, _ => by
    simp only [List.nil_append, List.length_nil]
    split
    · rename_i h; simpa using h
    · simp
  | b :: m, r, h => by
    have ih := index_skip c m r (fun x hx => h x (by simp [hx]))
    have hg := Lib.indexByte_ge r c
    rw [List.cons_append, Lib.indexByte, if_neg (by simpa using h b (by simp)), ih]
    by_cases h0 : Lib.indexByte r c = -1
    · simp [h0]
    · have hne : (Lib.indexByte r c == -1) = false := by simp [h0]
      rw [hne]
      simp only [Bool.false_eq_true, if_false, List.length_cons]
      rw [if_neg (by simp; omega)]
      omega
theorem index_at (L : List UInt8) (c : UInt8) (k : Nat) (hk : k < L.length) (h1 : ∀ j, j < k → L.getD j 0 ≠ c) (h2 : L.getD k 0 = c) : Lib.indexByte L c = k := by
  have e : L = L.take k ++ (L.getD k 0 :: L.drop (k + 1)) := by
    rw [← Hn.drop_cons L k hk, List.take_append_drop]
  rw [e, index_skip]
  · have h0 : Lib.indexByte (L.getD k 0 :: L.drop (k + 1)) c = 0 := by rw [Lib.indexByte, if_pos (by simpa using h2)]
    rw [h0, List.length_take]
    simp
    omega
  · intro b hb
    obtain ⟨j, hj, rfl⟩ := List.getElem_of_mem hb
    rw [List.length_take] at hj
    have := h1 j (by omega)
    rw [List.getD_eq_getElem?_getD, List.getElem?_eq_getElem (by omega)] at this
    simpa using this
theorem index_not (L : List UInt8) (c : UInt8) (h1 : ∀ j, j < L.length → L.getD j 0 ≠ c) : Lib.indexByte L c = -1 := by
  have := index_skip c L [] (by
    intro b hb
    obtain ⟨j, hj, rfl⟩ := List.getElem_of_mem hb
    have := h1 j hj
    rw [List.getD_eq_getElem?_getD, List.getElem?_eq_getElem hj] at this
    simpa using this)
  rw [List.append_nil] at this
  rw [this]; rfl

set_option maxHeartbeats 400000 in
theorem index8 (s : ByteArray) (L : List UInt8) (hL : s.data.toList = L) (w : World) (hs : s.size ≤ 9223372036854775807) :
    Calls Tryd.prog 8 #[.string s, .int .u8 34] w fun e w' => e = .returned (.int .i64 (Lib.indexByte L 34)) ∧ w' = w := by
  have hg := get_nb s L hL
  have hlen : L.length = s.size := by rw [← hL, Array.length_toList]; rfl
  have HLn := hide hlen
  clear hL hlen
  go_enter Tryd.func8, Tryd.ntmps8
  go_wp2_with fail
  go_loop [5] (fun i => ∃ k : Nat, k ≤ s.size ∧ i = .int .i64 k ∧ ∀ j, j < k → L.getD j 0 ≠ 34) (fun i => s.size - (intOf i).toNat)
  case atStart => exact ⟨0, Nat.zero_le _, rfl, fun j h => absurd h (Nat.not_lt_zero _)⟩
  case round =>
    obtain ⟨k, hk, rfl, hN⟩ := hrel
    have HN := hide hN
    clear hN
    by_cases hlt : k < s.size
    · by_cases hc : Hn.nb L k = 34
      · have hq : (Hn.nb L k == 34) = true := by simp [hc]
        have HR := hide (index_at L 34 k (by rw [HLn.out]; exact hlt) HN.out (Hn.getD_of_nb (c := 34) hc))
        clear hc
        go_wp2
        go_ret
        exact ⟨ret_int HR.out.symm, rfl⟩
      · have hq : (Hn.nb L k == 34) = false := by simp [hc]
        have HC := hide (Hn.nb_ne (c := 34) hc)
        clear hc
        go_wp2
        go_round
        case rel => exact ⟨k + 1, by omega, by go_num, fun j hj => by
          rcases Nat.lt_or_ge j k with h | h
          · exact HN.out j h
          · rw [show j = k by omega]; exact HC.out⟩
        case measure => simp [intOf]; omega
    · obtain rfl : k = s.size := by omega
      have HR := hide (index_not L 34 (fun j hj => HN.out j (by rw [← HLn.out]; exact hj)))
      go_wp2
      go_ret
      exact ⟨ret_int HR.out.symm, rfl⟩

def blankI (c : Int) : Bool := c == 32 || c == 9 || c == 13
theorem blank_nb (L : List UInt8) (k : Nat) : blankI (Hn.nb L k) = Hn.blank (L.getD k 0) := by
  unfold blankI Hn.blank Hn.nb
  generalize L.getD k 0 = c
  have h : ∀ d : UInt8, ((c.toNat : Int) == (d.toNat : Int)) = (c == d) := fun d => by
    rw [Bool.eq_iff_iff, beq_iff_eq, beq_iff_eq]
    constructor
    · intro h; exact UInt8.toNat_inj.1 (by omega)
    · intro h; rw [h]
  rw [← h 32, ← h 9, ← h 13]; rfl
set_option maxHeartbeats 400000 in
theorem blank9 (c : Int) (w : World) : Calls Tryd.prog 9 #[.int .u8 c] w fun e w' => e = .returned (.bool (blankI c)) ∧ w' = w := by
  unfold blankI
  by_cases h1 : c = 32
  · have q1 : (c == 32) = true := by simp [h1]
    clear h1
    go_enter Tryd.func9, Tryd.ntmps9
    go_wp2
    go_ret
    exact ⟨ret_bool (by simp [q1]), rfl⟩
  · have q1 : (c == 32) = false := by simp [h1]
    clear h1
    by_cases h2 : c = 9
    · have q2 : (c == 9) = true := by simp [h2]
      clear h2
      go_enter Tryd.func9, Tryd.ntmps9
      go_wp2
      go_ret
      exact ⟨ret_bool (by simp [q1, q2]), rfl⟩
    · have q2 : (c == 9) = false := by simp [h2]
      clear h2
      go_enter Tryd.func9, Tryd.ntmps9
      go_wp2
      go_ret
      exact ⟨ret_bool (by simp [q1, q2]), rfl⟩

theorem zzBytes6 (s : ByteArray) (g r : Bool) (w : World) (hs : s.size ≤ maxLen) :
    Calls Tryd.prog 6 #[.string s, .bool g, .bool r] w fun e w' => e = .returned (.bool (decide (s.size ≤ 1048576))) ∧ w' = w := by
  unfold maxLen at hs
  by_cases h : s.size ≤ 1048576
  · rw [decide_eq_true h]
    go_enter Tryd.func6, Tryd.ntmps6
    go_wp2
    go_ret
    exact ⟨rfl, rfl⟩
  · rw [decide_eq_false h]
    go_enter Tryd.func6, Tryd.ntmps6
    go_wp2
    all_goals
      go_ret
      exact ⟨rfl, rfl⟩
theorem zzBytes10 (a b c : ByteArray) (w : World) (ha : a.size ≤ maxLen) (hb : b.size ≤ maxLen) (hc : c.size ≤ maxLen) :
    Calls Tryd.prog 10 #[.string a, .string b, .string c] w fun e w' => e = .returned (.bool (decide (a.size + b.size + c.size ≤ 1048576))) ∧ w' = w := by
  unfold maxLen at ha hb hc
  by_cases h : a.size + b.size + c.size ≤ 1048576
  · rw [decide_eq_true h]
    go_enter Tryd.func10, Tryd.ntmps10
    go_wp2
    go_ret
    exact ⟨rfl, rfl⟩
  · rw [decide_eq_false h]
    go_enter Tryd.func10, Tryd.ntmps10
    go_wp2
    all_goals
      go_ret
      exact ⟨rfl, rfl⟩
end Go.Proofs.Qxb6600831aDoor
