import Derived.Test.Qxb6600692aDoorT1
import Derived.Deep.QuietTactic
import Derived.BigQuiet
import Derived.BigCall
import Derived.Lib.FrozenHead
import Derived.Lib.TrimByte
namespace Go.Proofs.Qxb6600692aDoor
open Go.RowKit

def Said22 : Prop := ∀ (s : ByteArray) (w : World), Calls Tryd.prog 22 #[.string s, .string ⟨#[48]⟩] w fun e w' => e = .returned (.string ⟨(Canon.tl s.data.toList).toArray⟩) ∧ w' = w
def Said23 : Prop := ∀ (s : ByteArray) (w : World), s.size ≤ 9223372036854775807 → Calls Tryd.prog 23 #[.string s, .string ⟨#[48]⟩] w fun e w' => e = .returned (.string ⟨(Canon.tr s.data.toList).toArray⟩) ∧ w' = w
def Said24 : Prop := ∀ (B b : Nat) (bs : List Value) (c : Int) (w : World), Lib.IsBuilderF 41 5 B b bs w → bs.length + 1 ≤ 140737488355328 → B ≤ w.heap.size →
    Calls Tryd.prog 24 #[.pointer (some ⟨b, 0, none⟩), .int .u8 c] w fun e w' => e = .returned .nilIface ∧ (Lib.IsBuilderF 41 5 B b (bs ++ [.int .u8 c]) w' ∧ Below B w w')
def Said25 : Prop := ∀ (B b : Nat) (bs : List Value) (s : ByteArray) (w : World), Lib.IsBuilderF 41 5 B b bs w → bs.length + s.size ≤ 140737488355328 → B ≤ w.heap.size →
    Calls Tryd.prog 25 #[.pointer (some ⟨b, 0, none⟩), .string s] w fun e w' => e = .returned (.tuple #[.int .i64 s.size, .nilIface]) ∧ (Lib.IsBuilderF 41 5 B b (bs ++ Lib.strCells s) w' ∧ Below B w w')
def Said26 : Prop := ∀ (B b : Nat) (l : List UInt8) (w : World), Lib.IsBuilderF 41 5 B b (Lib.byteCells l) w → B ≤ w.heap.size →
    Calls Tryd.prog 26 #[.pointer (some ⟨b, 0, none⟩)] w fun e w' => e = .returned (.string ⟨l.toArray⟩) ∧ Below B w w'


theorem ret_str {a b : List UInt8} (h : a = b) : Ending.returned (.string ⟨a.toArray⟩) = .returned (.string ⟨b.toArray⟩) := by rw [h]

theorem builder0 (w : World) (o : Obj) (nq : Nat) :
    Lib.IsBuilderF 41 5 (w.heap.size + 1) (w.heap.size + 1) [] (((w.alloc o).drewN nq).alloc (.cells #[.pointer none, .slice none 0 0] 41)) ∧
    Below w.heap.size w (((w.alloc o).drewN nq).alloc (.cells #[.pointer none, .slice none 0 0] 41)) ∧
    w.heap.size + 1 ≤ (((w.alloc o).drewN nq).alloc (.cells #[.pointer none, .slice none 0 0] 41)).heap.size := by
  have e : ((w.alloc o).drewN nq).heap.size = w.heap.size + 1 := by simp
  refine ⟨?_, ?_, ?_⟩
  · have := Lib.IsBuilderF.of (Lib.fresh_isBuilder 41 5 ((w.alloc o).drewN nq))
    rw [e] at this
    exact this
  · exact ((Joins.below_alloc1 w o).trans (Joins.below_draws _ _ nq)).alloc (by rw [e]; omega) _
  · simp

theorem step24 {B b : Nat} {l : List UInt8} {w : World} (c : UInt8) (h : Lib.IsBuilderF 41 5 B b (Lib.byteCells l ++ [.int .u8 c.toNat]) w) : Lib.IsBuilderF 41 5 B b (Lib.byteCells (l ++ [c])) w := by
  rw [Lib.byteCells_append]; exact h
theorem step25 {B b : Nat} {l : List UInt8} {w : World} (s : List UInt8) (h : Lib.IsBuilderF 41 5 B b (Lib.byteCells l ++ Lib.strCells ⟨s.toArray⟩) w) : Lib.IsBuilderF 41 5 B b (Lib.byteCells (l ++ s)) w := by
  rw [Lib.byteCells_append]
  rw [Lib.strCells_eq] at h
  exact h

set_option maxHeartbeats 400000 in
theorem canon20_000 (h25 : Said25) (h26 : Said26) (a b : ByteArray) (w : World) 
    (K22 : Hid (∀ w, Calls Tryd.prog 22 #[.string a, .string ⟨#[48]⟩] w fun e w' => e = .returned (.string ⟨#[]⟩) ∧ w' = w))
    (K23 : Hid (∀ w, Calls Tryd.prog 23 #[.string b, .string ⟨#[48]⟩] w fun e w' => e = .returned (.string ⟨#[]⟩) ∧ w' = w)) :
    Calls Tryd.prog 20 #[.agg #[.bool false, .string a, .string b]] w fun e w' => e = .returned (.string ⟨(Canon.sgn false [] [] ++ (Canon.wh [] ++ Canon.fr [])).toArray⟩) ∧ Below w.heap.size w w' := by
  have hres : Canon.sgn false [] [] ++ (Canon.wh [] ++ Canon.fr []) = ([] ++ [48]) := by simp [Canon.sgn, Canon.wh, Canon.fr]
  rw [hres]
  clear hres
  go_enter Tryd.func20, Tryd.ntmps20
  go_wp2_with fail
  go_quiet ((first | (go_at_call 22; exact Calls.quiet_of_same (K22.out _)) | (go_at_call 23; exact Calls.quiet_of_same (K23.out _))))
  obtain ⟨i0, b0, s0⟩ := builder0 w (.cells #[.bool false, .string a, .string b] 35) nq
  go_wp2_with fail
  refine (h25 _ _ (Lib.byteCells []) ⟨[48].toArray⟩ _ i0 (by rw [Lib.byteCells_length, Lib.size_mk]; simp; try omega) s0).mono ?_
  rintro e w1 ⟨rfl, j1, b1⟩
  have i1 := step25 _ j1
  have s1 := Nat.le_trans s0 b1.size
  clear i0 j1
  go_wp2_with fail
  refine (h26 _ _ ([] ++ [48]) _ i1 s1).mono ?_
  rintro e w2 ⟨rfl, b2⟩
  go_wp2
  go_ret
  have hfin := b0.trans ((b1.trans b2).mono (Nat.le_succ _))
  first | exact ⟨rfl, hfin⟩ | exact ⟨ret_str (by simp), hfin⟩

set_option maxHeartbeats 400000 in
theorem canon20_001 (h24 : Said24) (h25 : Said25) (h26 : Said26) (a b : ByteArray) (F : List UInt8) (w : World) (hF : F.isEmpty = false) (lF : F.length ≤ 2000000) 
    (K22 : Hid (∀ w, Calls Tryd.prog 22 #[.string a, .string ⟨#[48]⟩] w fun e w' => e = .returned (.string ⟨#[]⟩) ∧ w' = w))
    (K23 : Hid (∀ w, Calls Tryd.prog 23 #[.string b, .string ⟨#[48]⟩] w fun e w' => e = .returned (.string ⟨F.toArray⟩) ∧ w' = w)) :
    Calls Tryd.prog 20 #[.agg #[.bool false, .string a, .string b]] w fun e w' => e = .returned (.string ⟨(Canon.sgn false [] F ++ (Canon.wh [] ++ Canon.fr F)).toArray⟩) ∧ Below w.heap.size w w' := by
  have hres : Canon.sgn false [] F ++ (Canon.wh [] ++ Canon.fr F) = ((([] ++ [48]) ++ [46]) ++ F) := by simp [Canon.sgn, Canon.wh, Canon.fr, hF]
  rw [hres]
  clear hres
  go_enter Tryd.func20, Tryd.ntmps20
  go_wp2_with fail
  go_quiet ((first | (go_at_call 22; exact Calls.quiet_of_same (K22.out _)) | (go_at_call 23; exact Calls.quiet_of_same (K23.out _))))
  obtain ⟨i0, b0, s0⟩ := builder0 w (.cells #[.bool false, .string a, .string b] 35) nq
  go_wp2_with fail
  refine (h25 _ _ (Lib.byteCells []) ⟨[48].toArray⟩ _ i0 (by rw [Lib.byteCells_length, Lib.size_mk]; simp; try omega) s0).mono ?_
  rintro e w1 ⟨rfl, j1, b1⟩
  have i1 := step25 _ j1
  have s1 := Nat.le_trans s0 b1.size
  clear i0 j1
  go_wp2_with fail
  refine (h24 _ _ (Lib.byteCells ([] ++ [48])) 46 _ i1 (by rw [Lib.byteCells_length]; simp; try omega) s1).mono ?_
  rintro e w2 ⟨rfl, j2, b2⟩
  have i2 := step24 46 j2
  have s2 := Nat.le_trans s1 b2.size
  clear i1 j2
  go_wp2_with fail
  refine (h25 _ _ (Lib.byteCells (([] ++ [48]) ++ [46])) ⟨F.toArray⟩ _ i2 (by rw [Lib.byteCells_length, Lib.size_mk]; simp; try omega) s2).mono ?_
  rintro e w3 ⟨rfl, j3, b3⟩
  have i3 := step25 _ j3
  have s3 := Nat.le_trans s2 b3.size
  clear i2 j3
  go_wp2_with fail
  refine (h26 _ _ ((([] ++ [48]) ++ [46]) ++ F) _ i3 s3).mono ?_
  rintro e w4 ⟨rfl, b4⟩
  go_wp2
  go_ret
  have hfin := b0.trans ((((b1.trans b2).trans b3).trans b4).mono (Nat.le_succ _))
  first | exact ⟨rfl, hfin⟩ | exact ⟨ret_str (by simp), hfin⟩

set_option maxHeartbeats 400000 in
theorem canon20_010 (h25 : Said25) (h26 : Said26) (a b : ByteArray) (W : List UInt8) (w : World) (hW : W.isEmpty = false) (lW : W.length ≤ 2000000) 
    (K22 : Hid (∀ w, Calls Tryd.prog 22 #[.string a, .string ⟨#[48]⟩] w fun e w' => e = .returned (.string ⟨W.toArray⟩) ∧ w' = w))
    (K23 : Hid (∀ w, Calls Tryd.prog 23 #[.string b, .string ⟨#[48]⟩] w fun e w' => e = .returned (.string ⟨#[]⟩) ∧ w' = w)) :
    Calls Tryd.prog 20 #[.agg #[.bool false, .string a, .string b]] w fun e w' => e = .returned (.string ⟨(Canon.sgn false W [] ++ (Canon.wh W ++ Canon.fr [])).toArray⟩) ∧ Below w.heap.size w w' := by
  have hres : Canon.sgn false W [] ++ (Canon.wh W ++ Canon.fr []) = ([] ++ W) := by simp [Canon.sgn, Canon.wh, Canon.fr, hW]
  rw [hres]
  clear hres
  go_enter Tryd.func20, Tryd.ntmps20
  go_wp2_with fail
  go_quiet ((first | (go_at_call 22; exact Calls.quiet_of_same (K22.out _)) | (go_at_call 23; exact Calls.quiet_of_same (K23.out _))))
  obtain ⟨i0, b0, s0⟩ := builder0 w (.cells #[.bool false, .string a, .string b] 35) nq
  go_wp2_with fail
  refine (h25 _ _ (Lib.byteCells []) ⟨W.toArray⟩ _ i0 (by rw [Lib.byteCells_length, Lib.size_mk]; simp; try omega) s0).mono ?_
  rintro e w1 ⟨rfl, j1, b1⟩
  have i1 := step25 _ j1
  have s1 := Nat.le_trans s0 b1.size
  clear i0 j1
  go_wp2_with fail
  refine (h26 _ _ ([] ++ W) _ i1 s1).mono ?_
  rintro e w2 ⟨rfl, b2⟩
  go_wp2
  go_ret
  have hfin := b0.trans ((b1.trans b2).mono (Nat.le_succ _))
  first | exact ⟨rfl, hfin⟩ | exact ⟨ret_str (by simp), hfin⟩

set_option maxHeartbeats 400000 in
theorem canon20_011 (h24 : Said24) (h25 : Said25) (h26 : Said26) (a b : ByteArray) (W : List UInt8) (F : List UInt8) (w : World) (hW : W.isEmpty = false) (lW : W.length ≤ 2000000) (hF : F.isEmpty = false) (lF : F.length ≤ 2000000) 
    (K22 : Hid (∀ w, Calls Tryd.prog 22 #[.string a, .string ⟨#[48]⟩] w fun e w' => e = .returned (.string ⟨W.toArray⟩) ∧ w' = w))
    (K23 : Hid (∀ w, Calls Tryd.prog 23 #[.string b, .string ⟨#[48]⟩] w fun e w' => e = .returned (.string ⟨F.toArray⟩) ∧ w' = w)) :
    Calls Tryd.prog 20 #[.agg #[.bool false, .string a, .string b]] w fun e w' => e = .returned (.string ⟨(Canon.sgn false W F ++ (Canon.wh W ++ Canon.fr F)).toArray⟩) ∧ Below w.heap.size w w' := by
  have hres : Canon.sgn false W F ++ (Canon.wh W ++ Canon.fr F) = ((([] ++ W) ++ [46]) ++ F) := by simp [Canon.sgn, Canon.wh, Canon.fr, hW, hF]
  rw [hres]
  clear hres
  go_enter Tryd.func20, Tryd.ntmps20
  go_wp2_with fail
  go_quiet ((first | (go_at_call 22; exact Calls.quiet_of_same (K22.out _)) | (go_at_call 23; exact Calls.quiet_of_same (K23.out _))))
  obtain ⟨i0, b0, s0⟩ := builder0 w (.cells #[.bool false, .string a, .string b] 35) nq
  go_wp2_with fail
  refine (h25 _ _ (Lib.byteCells []) ⟨W.toArray⟩ _ i0 (by rw [Lib.byteCells_length, Lib.size_mk]; simp; try omega) s0).mono ?_
  rintro e w1 ⟨rfl, j1, b1⟩
  have i1 := step25 _ j1
  have s1 := Nat.le_trans s0 b1.size
  clear i0 j1
  go_wp2_with fail
  refine (h24 _ _ (Lib.byteCells ([] ++ W)) 46 _ i1 (by rw [Lib.byteCells_length]; simp; try omega) s1).mono ?_
  rintro e w2 ⟨rfl, j2, b2⟩
  have i2 := step24 46 j2
  have s2 := Nat.le_trans s1 b2.size
  clear i1 j2
  go_wp2_with fail
  refine (h25 _ _ (Lib.byteCells (([] ++ W) ++ [46])) ⟨F.toArray⟩ _ i2 (by rw [Lib.byteCells_length, Lib.size_mk]; simp; try omega) s2).mono ?_
  rintro e w3 ⟨rfl, j3, b3⟩
  have i3 := step25 _ j3
  have s3 := Nat.le_trans s2 b3.size
  clear i2 j3
  go_wp2_with fail
  refine (h26 _ _ ((([] ++ W) ++ [46]) ++ F) _ i3 s3).mono ?_
  rintro e w4 ⟨rfl, b4⟩
  go_wp2
  go_ret
  have hfin := b0.trans ((((b1.trans b2).trans b3).trans b4).mono (Nat.le_succ _))
  first | exact ⟨rfl, hfin⟩ | exact ⟨ret_str (by simp), hfin⟩

set_option maxHeartbeats 400000 in
theorem canon20_100 (h25 : Said25) (h26 : Said26) (a b : ByteArray) (w : World) 
    (K22 : Hid (∀ w, Calls Tryd.prog 22 #[.string a, .string ⟨#[48]⟩] w fun e w' => e = .returned (.string ⟨#[]⟩) ∧ w' = w))
    (K23 : Hid (∀ w, Calls Tryd.prog 23 #[.string b, .string ⟨#[48]⟩] w fun e w' => e = .returned (.string ⟨#[]⟩) ∧ w' = w)) :
    Calls Tryd.prog 20 #[.agg #[.bool true, .string a, .string b]] w fun e w' => e = .returned (.string ⟨(Canon.sgn true [] [] ++ (Canon.wh [] ++ Canon.fr [])).toArray⟩) ∧ Below w.heap.size w w' := by
  have hres : Canon.sgn true [] [] ++ (Canon.wh [] ++ Canon.fr []) = ([] ++ [48]) := by simp [Canon.sgn, Canon.wh, Canon.fr]
  rw [hres]
  clear hres
  go_enter Tryd.func20, Tryd.ntmps20
  go_wp2_with fail
  go_quiet ((first | (go_at_call 22; exact Calls.quiet_of_same (K22.out _)) | (go_at_call 23; exact Calls.quiet_of_same (K23.out _))))
  obtain ⟨i0, b0, s0⟩ := builder0 w (.cells #[.bool true, .string a, .string b] 35) nq
  go_wp2_with fail
  refine (h25 _ _ (Lib.byteCells []) ⟨[48].toArray⟩ _ i0 (by rw [Lib.byteCells_length, Lib.size_mk]; simp; try omega) s0).mono ?_
  rintro e w1 ⟨rfl, j1, b1⟩
  have i1 := step25 _ j1
  have s1 := Nat.le_trans s0 b1.size
  clear i0 j1
  go_wp2_with fail
  refine (h26 _ _ ([] ++ [48]) _ i1 s1).mono ?_
  rintro e w2 ⟨rfl, b2⟩
  go_wp2
  go_ret
  have hfin := b0.trans ((b1.trans b2).mono (Nat.le_succ _))
  first | exact ⟨rfl, hfin⟩ | exact ⟨ret_str (by simp), hfin⟩

set_option maxHeartbeats 400000 in
theorem canon20_101 (h24 : Said24) (h25 : Said25) (h26 : Said26) (a b : ByteArray) (F : List UInt8) (w : World) (hF : F.isEmpty = false) (lF : F.length ≤ 2000000) 
    (K22 : Hid (∀ w, Calls Tryd.prog 22 #[.string a, .string ⟨#[48]⟩] w fun e w' => e = .returned (.string ⟨#[]⟩) ∧ w' = w))
    (K23 : Hid (∀ w, Calls Tryd.prog 23 #[.string b, .string ⟨#[48]⟩] w fun e w' => e = .returned (.string ⟨F.toArray⟩) ∧ w' = w)) :
    Calls Tryd.prog 20 #[.agg #[.bool true, .string a, .string b]] w fun e w' => e = .returned (.string ⟨(Canon.sgn true [] F ++ (Canon.wh [] ++ Canon.fr F)).toArray⟩) ∧ Below w.heap.size w w' := by
  have hres : Canon.sgn true [] F ++ (Canon.wh [] ++ Canon.fr F) = (((([] ++ [45]) ++ [48]) ++ [46]) ++ F) := by simp [Canon.sgn, Canon.wh, Canon.fr, hF]
  rw [hres]
  clear hres
  go_enter Tryd.func20, Tryd.ntmps20
  go_wp2_with fail
  go_quiet ((first | (go_at_call 22; exact Calls.quiet_of_same (K22.out _)) | (go_at_call 23; exact Calls.quiet_of_same (K23.out _))))
  obtain ⟨i0, b0, s0⟩ := builder0 w (.cells #[.bool true, .string a, .string b] 35) nq
  go_wp2_with fail
  refine (h24 _ _ (Lib.byteCells []) 45 _ i0 (by rw [Lib.byteCells_length]; simp; try omega) s0).mono ?_
  rintro e w1 ⟨rfl, j1, b1⟩
  have i1 := step24 45 j1
  have s1 := Nat.le_trans s0 b1.size
  clear i0 j1
  go_wp2_with fail
  refine (h25 _ _ (Lib.byteCells ([] ++ [45])) ⟨[48].toArray⟩ _ i1 (by rw [Lib.byteCells_length, Lib.size_mk]; simp; try omega) s1).mono ?_
  rintro e w2 ⟨rfl, j2, b2⟩
  have i2 := step25 _ j2
  have s2 := Nat.le_trans s1 b2.size
  clear i1 j2
  go_wp2_with fail
  refine (h24 _ _ (Lib.byteCells (([] ++ [45]) ++ [48])) 46 _ i2 (by rw [Lib.byteCells_length]; simp; try omega) s2).mono ?_
  rintro e w3 ⟨rfl, j3, b3⟩
  have i3 := step24 46 j3
  have s3 := Nat.le_trans s2 b3.size
  clear i2 j3
  go_wp2_with fail
  refine (h25 _ _ (Lib.byteCells ((([] ++ [45]) ++ [48]) ++ [46])) ⟨F.toArray⟩ _ i3 (by rw [Lib.byteCells_length, Lib.size_mk]; simp; try omega) s3).mono ?_
  rintro e w4 ⟨rfl, j4, b4⟩
  have i4 := step25 _ j4
  have s4 := Nat.le_trans s3 b4.size
  clear i3 j4
  go_wp2_with fail
  refine (h26 _ _ (((([] ++ [45]) ++ [48]) ++ [46]) ++ F) _ i4 s4).mono ?_
  rintro e w5 ⟨rfl, b5⟩
  go_wp2
  go_ret
  have hfin := b0.trans (((((b1.trans b2).trans b3).trans b4).trans b5).mono (Nat.le_succ _))
  first | exact ⟨rfl, hfin⟩ | exact ⟨ret_str (by simp), hfin⟩

set_option maxHeartbeats 400000 in
theorem canon20_110 (h24 : Said24) (h25 : Said25) (h26 : Said26) (a b : ByteArray) (W : List UInt8) (w : World) (hW : W.isEmpty = false) (lW : W.length ≤ 2000000) 
    (K22 : Hid (∀ w, Calls Tryd.prog 22 #[.string a, .string ⟨#[48]⟩] w fun e w' => e = .returned (.string ⟨W.toArray⟩) ∧ w' = w))
    (K23 : Hid (∀ w, Calls Tryd.prog 23 #[.string b, .string ⟨#[48]⟩] w fun e w' => e = .returned (.string ⟨#[]⟩) ∧ w' = w)) :
    Calls Tryd.prog 20 #[.agg #[.bool true, .string a, .string b]] w fun e w' => e = .returned (.string ⟨(Canon.sgn true W [] ++ (Canon.wh W ++ Canon.fr [])).toArray⟩) ∧ Below w.heap.size w w' := by
  have hres : Canon.sgn true W [] ++ (Canon.wh W ++ Canon.fr []) = (([] ++ [45]) ++ W) := by simp [Canon.sgn, Canon.wh, Canon.fr, hW]
  rw [hres]
  clear hres
  go_enter Tryd.func20, Tryd.ntmps20
  go_wp2_with fail
  go_quiet ((first | (go_at_call 22; exact Calls.quiet_of_same (K22.out _)) | (go_at_call 23; exact Calls.quiet_of_same (K23.out _))))
  obtain ⟨i0, b0, s0⟩ := builder0 w (.cells #[.bool true, .string a, .string b] 35) nq
  go_wp2_with fail
  refine (h24 _ _ (Lib.byteCells []) 45 _ i0 (by rw [Lib.byteCells_length]; simp; try omega) s0).mono ?_
  rintro e w1 ⟨rfl, j1, b1⟩
  have i1 := step24 45 j1
  have s1 := Nat.le_trans s0 b1.size
  clear i0 j1
  go_wp2_with fail
  refine (h25 _ _ (Lib.byteCells ([] ++ [45])) ⟨W.toArray⟩ _ i1 (by rw [Lib.byteCells_length, Lib.size_mk]; simp; try omega) s1).mono ?_
  rintro e w2 ⟨rfl, j2, b2⟩
  have i2 := step25 _ j2
  have s2 := Nat.le_trans s1 b2.size
  clear i1 j2
  go_wp2_with fail
  refine (h26 _ _ (([] ++ [45]) ++ W) _ i2 s2).mono ?_
  rintro e w3 ⟨rfl, b3⟩
  go_wp2
  go_ret
  have hfin := b0.trans (((b1.trans b2).trans b3).mono (Nat.le_succ _))
  first | exact ⟨rfl, hfin⟩ | exact ⟨ret_str (by simp), hfin⟩

set_option maxHeartbeats 400000 in
theorem canon20_111 (h24 : Said24) (h25 : Said25) (h26 : Said26) (a b : ByteArray) (W : List UInt8) (F : List UInt8) (w : World) (hW : W.isEmpty = false) (lW : W.length ≤ 2000000) (hF : F.isEmpty = false) (lF : F.length ≤ 2000000) 
    (K22 : Hid (∀ w, Calls Tryd.prog 22 #[.string a, .string ⟨#[48]⟩] w fun e w' => e = .returned (.string ⟨W.toArray⟩) ∧ w' = w))
    (K23 : Hid (∀ w, Calls Tryd.prog 23 #[.string b, .string ⟨#[48]⟩] w fun e w' => e = .returned (.string ⟨F.toArray⟩) ∧ w' = w)) :
    Calls Tryd.prog 20 #[.agg #[.bool true, .string a, .string b]] w fun e w' => e = .returned (.string ⟨(Canon.sgn true W F ++ (Canon.wh W ++ Canon.fr F)).toArray⟩) ∧ Below w.heap.size w w' := by
  have hres : Canon.sgn true W F ++ (Canon.wh W ++ Canon.fr F) = (((([] ++ [45]) ++ W) ++ [46]) ++ F) := by simp [Canon.sgn, Canon.wh, Canon.fr, hW, hF]
  rw [hres]
  clear hres
  go_enter Tryd.func20, Tryd.ntmps20
  go_wp2_with fail
  go_quiet ((first | (go_at_call 22; exact Calls.quiet_of_same (K22.out _)) | (go_at_call 23; exact Calls.quiet_of_same (K23.out _))))
  obtain ⟨i0, b0, s0⟩ := builder0 w (.cells #[.bool true, .string a, .string b] 35) nq
  go_wp2_with fail
  refine (h24 _ _ (Lib.byteCells []) 45 _ i0 (by rw [Lib.byteCells_length]; simp; try omega) s0).mono ?_
  rintro e w1 ⟨rfl, j1, b1⟩
  have i1 := step24 45 j1
  have s1 := Nat.le_trans s0 b1.size
  clear i0 j1
  go_wp2_with fail
  refine (h25 _ _ (Lib.byteCells ([] ++ [45])) ⟨W.toArray⟩ _ i1 (by rw [Lib.byteCells_length, Lib.size_mk]; simp; try omega) s1).mono ?_
  rintro e w2 ⟨rfl, j2, b2⟩
  have i2 := step25 _ j2
  have s2 := Nat.le_trans s1 b2.size
  clear i1 j2
  go_wp2_with fail
  refine (h24 _ _ (Lib.byteCells (([] ++ [45]) ++ W)) 46 _ i2 (by rw [Lib.byteCells_length]; simp; try omega) s2).mono ?_
  rintro e w3 ⟨rfl, j3, b3⟩
  have i3 := step24 46 j3
  have s3 := Nat.le_trans s2 b3.size
  clear i2 j3
  go_wp2_with fail
  refine (h25 _ _ (Lib.byteCells ((([] ++ [45]) ++ W) ++ [46])) ⟨F.toArray⟩ _ i3 (by rw [Lib.byteCells_length, Lib.size_mk]; simp; try omega) s3).mono ?_
  rintro e w4 ⟨rfl, j4, b4⟩
  have i4 := step25 _ j4
  have s4 := Nat.le_trans s3 b4.size
  clear i3 j4
  go_wp2_with fail
  refine (h26 _ _ (((([] ++ [45]) ++ W) ++ [46]) ++ F) _ i4 s4).mono ?_
  rintro e w5 ⟨rfl, b5⟩
  go_wp2
  go_ret
  have hfin := b0.trans (((((b1.trans b2).trans b3).trans b4).trans b5).mono (Nat.le_succ _))
  first | exact ⟨rfl, hfin⟩ | exact ⟨ret_str (by simp), hfin⟩

theorem canon20 (h22 : Said22) (h23 : Said23) (h24 : Said24) (h25 : Said25) (h26 : Said26) (neg : Bool) (a b : ByteArray) (w : World) (h : a.size + b.size ≤ 2000000) :
    Calls Tryd.prog 20 #[.agg #[.bool neg, .string a, .string b]] w fun e w' => e = .returned (.string ⟨(Canon.canon neg a.data.toList b.data.toList).toArray⟩) ∧ Below w.heap.size w w' := by
  have k22 := hide (h22 a)
  have k23 := hide (fun w => h23 b w (by omega))
  have l1 : (Canon.tl a.data.toList).length ≤ 2000000 := by
    have := Canon.tl_le a.data.toList
    simp at this
    omega
  have l2 : (Canon.tr b.data.toList).length ≤ 2000000 := by
    have := Canon.tr_le b.data.toList
    simp at this
    omega
  unfold Canon.canon
  generalize Canon.tl a.data.toList = W at k22 l1 ⊢
  generalize Canon.tr b.data.toList = F at k23 l2 ⊢
  by_cases hW : W = []
  · subst hW
    by_cases hF : F = []
    · subst hF
      cases neg
      · exact canon20_000 h25 h26 a b w k22 k23
      · exact canon20_100 h25 h26 a b w k22 k23
    · have hF' : F.isEmpty = false := by simpa using hF
      cases neg
      · exact canon20_001 h24 h25 h26 a b F w hF' l2 k22 k23
      · exact canon20_101 h24 h25 h26 a b F w hF' l2 k22 k23
  · have hW' : W.isEmpty = false := by simpa using hW
    by_cases hF : F = []
    · subst hF
      cases neg
      · exact canon20_010 h25 h26 a b W w hW' l1 k22 k23
      · exact canon20_110 h24 h25 h26 a b W w hW' l1 k22 k23
    · have hF' : F.isEmpty = false := by simpa using hF
      cases neg
      · exact canon20_011 h24 h25 h26 a b W F w hW' l1 hF' l2 k22 k23
      · exact canon20_111 h24 h25 h26 a b W F w hW' l1 hF' l2 k22 k23

set_option maxHeartbeats 400000 in
theorem canon13 (h22 : Said22) (h23 : Said23) (h24 : Said24) (h25 : Said25) (h26 : Said26) : Said13 := by
  intro neg a b w h
  have K := hide (fun w => canon20 h22 h23 h24 h25 h26 neg a b w h)
  generalize (⟨(Canon.canon neg a.data.toList b.data.toList).toArray⟩ : ByteArray) = r at K ⊢
  go_enter Tryd.func13, Tryd.ntmps13
  go_wp2_with fail
  refine (K.out _).mono ?_
  rintro e w' ⟨rfl, hb⟩
  go_wp2
  go_ret
  exact ⟨rfl, hb⟩
end Go.Proofs.Qxb6600692aDoor
