import Derived.Test.Qxb6000929aDoorBuild
import Derived.Test.Qxb6000929aDoorShelf
import Derived.WalkSmall
import Derived.Lib.ItoaLen
namespace Go.Proofs.Qxb6000929aDoor
open Go.RowKit

theorem below_grow (B : Nat) (w : World) (hB : B ≤ w.heap.size) (k : Nat) (os : Array Obj) : Below B w (Sort.grow (w.drewN k) os) :=
  ⟨rfl, rfl, rfl, by simp [Sort.grow], fun i hi => Sort.heap_grow_old (w.drewN k) os (show i < (w.drewN k).heap.size from Nat.lt_of_lt_of_le hi hB)⟩

theorem EncAt.grown {B b : Nat} {p : Value} {st : Bool} {bs : List Value} {w : World} (h : EncAt B b p st bs w) (k : Nat) (os : Array Obj) : EncAt B b p st bs (Sort.grow (w.drewN k) os) := by
  have hlt := h.lt
  obtain ⟨hB, v, hb, hown, hne⟩ := h
  refine ⟨hB, v, ?_, ?_, hne⟩
  · rw [Sort.heap_grow_old _ _ (show b < (w.drewN k).heap.size from hlt)]; exact hb
  · refine hown.kept (row := none) ⟨rfl, rfl, rfl, by simp [Sort.grow], fun i hi _ => Sort.heap_grow_old (w.drewN k) os hi⟩ ?_
    cases v.ownBlock <;> simp

set_option maxHeartbeats 1000000 in
theorem text_first (B b : Nat) (s : ByteArray) (w : World) (h : EncAt B b (.pointer none) false (Lib.byteCells []) w) (hs : s.size ≤ 100000000) (hBw : B ≤ w.heap.size) :
    Calls Tryd.prog 21 #[.pointer (some ⟨b, 0, none⟩), .string s] w fun e w' => e = .returned (.tuple #[]) ∧ (EncAt B b (.pointer (some ⟨b, 0, none⟩)) true (Lib.byteCells s.data.toList) w' ∧ Below B w w') := by
  have c2 := h.cell2
  have HH : Hid (IsEnc B b false (Lib.byteCells []) w) := Or.inl h
  have hB := h.1
  clear h
  go_enter Tryd.func21, Tryd.ntmps21
  go_wp2_with (go_at_call 29; refine (writeString_any B b false (Lib.byteCells []) s _ HH.out (by rw [Lib.byteCells_length]; simp; omega) hBw).mono ?_; rintro e w1 ⟨rfl, h1, hb1⟩; have f2 := h1.frozen 2; have c3 := h1.cell2)
  go_end0
  exact ⟨rfl, h1.begun true, hb1.setCell (p := ⟨b, 2, none⟩) hB _⟩

set_option maxHeartbeats 1000000 in
theorem text_next (B b : Nat) (l : List UInt8) (s : ByteArray) (w : World) (h : EncAt B b (.pointer (some ⟨b, 0, none⟩)) true (Lib.byteCells l) w) (hl : l.length ≤ 100000000) (hs : s.size ≤ 100000000) (hBw : B ≤ w.heap.size) :
    Calls Tryd.prog 21 #[.pointer (some ⟨b, 0, none⟩), .string s] w fun e w' => e = .returned (.tuple #[]) ∧ (EncAt B b (.pointer (some ⟨b, 0, none⟩)) true (Lib.byteCells (l ++ 124 :: s.data.toList)) w' ∧ Below B w w') := by
  have c2 := h.cell2
  have HH : Hid (IsEnc B b true (Lib.byteCells l) w) := Or.inr h
  have hB := h.1
  clear h
  go_enter Tryd.func21, Tryd.ntmps21
  go_wp2_with (first | (go_at_call 28; refine (writeByte_any B b true (Lib.byteCells l) 124 _ HH.out (by rw [Lib.byteCells_length]; omega) hBw).mono ?_; rintro e w1 ⟨rfl, h1, hb1⟩) | (go_at_call 29; refine (writeString_any B b true (Lib.byteCells l ++ [.int .u8 124]) s _ (Or.inr h1) (by rw [List.length_append, Lib.byteCells_length]; simp; omega) (Nat.le_trans hBw hb1.size)).mono ?_; rintro e w2 ⟨rfl, h2, hb2⟩; have f2 := h2.frozen 2; have c3 := h2.cell2))
  go_end0
  refine ⟨rfl, ?_, (hb1.trans hb2).setCell (p := ⟨b, 2, none⟩) hB _⟩
  have e : Lib.byteCells (l ++ 124 :: s.data.toList) = Lib.byteCells l ++ [.int .u8 124] ++ Lib.strCells s := by
    rw [Lib.byteCells_append, Lib.strCells_eq]
    simp [Lib.byteCells]
  rw [e]
  exact h2.begun true

theorem itoa_len (n : Int) (h0 : -9223372036854775808 ≤ n) (h1 : n ≤ 9223372036854775807) : (Lib.itoa n).length ≤ 100 :=
  Nat.le_trans (Lib.itoa_length_le n h0 h1) (by decide)

set_option maxHeartbeats 1000000 in
theorem int_first (B b : Nat) (n : Int) (h0 : -9223372036854775808 ≤ n) (h1 : n ≤ 9223372036854775807) (w : World) (h : EncAt B b (.pointer none) false (Lib.byteCells []) w) (hBw : B ≤ w.heap.size) (htab : Lib.TabIs Tryd.prog w powName .u64 Lib.pow10Tab) :
    Calls Tryd.prog 23 #[.pointer (some ⟨b, 0, none⟩), .int .i64 n] w fun e w' => e = .returned (.tuple #[]) ∧ (EncAt B b (.pointer (some ⟨b, 0, none⟩)) true (Lib.byteCells (Lib.itoa n)) w' ∧ Below B w w') := by
  have hl := itoa_len n h0 h1
  go_enter Tryd.func23, Tryd.ntmps23
  go_wp2_with (first | (go_at_call 30; refine (formatInt n h0 h1 _ htab).mono ?_; rintro e w1 ⟨rfl, k, os, rfl⟩) | (go_at_call 21; refine (text_first B b _ _ (h.grown k os) (by simp [ByteArray.size]; omega) (below_grow B w hBw k os |>.size |> Nat.le_trans hBw)).mono ?_; rintro e w2 ⟨rfl, h2, hb2⟩))
  go_end0
  exact ⟨rfl, by simpa using h2, (below_grow B w hBw k os).trans hb2⟩

set_option maxHeartbeats 1000000 in
theorem int_next (B b : Nat) (l : List UInt8) (n : Int) (h0 : -9223372036854775808 ≤ n) (h1 : n ≤ 9223372036854775807) (w : World) (h : EncAt B b (.pointer (some ⟨b, 0, none⟩)) true (Lib.byteCells l) w) (hl : l.length ≤ 100000000) (hBw : B ≤ w.heap.size) (htab : Lib.TabIs Tryd.prog w powName .u64 Lib.pow10Tab) :
    Calls Tryd.prog 23 #[.pointer (some ⟨b, 0, none⟩), .int .i64 n] w fun e w' => e = .returned (.tuple #[]) ∧ (EncAt B b (.pointer (some ⟨b, 0, none⟩)) true (Lib.byteCells (l ++ 124 :: Lib.itoa n)) w' ∧ Below B w w') := by
  have hl' := itoa_len n h0 h1
  go_enter Tryd.func23, Tryd.ntmps23
  go_wp2_with (first | (go_at_call 30; refine (formatInt n h0 h1 _ htab).mono ?_; rintro e w1 ⟨rfl, k, os, rfl⟩) | (go_at_call 21; refine (text_next B b l _ _ (h.grown k os) hl (by simp [ByteArray.size]; omega) (below_grow B w hBw k os |>.size |> Nat.le_trans hBw)).mono ?_; rintro e w2 ⟨rfl, h2, hb2⟩))
  go_end0
  exact ⟨rfl, by simpa using h2, (below_grow B w hBw k os).trans hb2⟩

set_option maxHeartbeats 1000000 in
theorem string_any (B b : Nat) (p : Value) (st : Bool) (l : List UInt8) (w : World) (h : EncAt B b p st (Lib.byteCells l) w) (h0 : l ≠ []) :
    Calls Tryd.prog 24 #[.pointer (some ⟨b, 0, none⟩)] w fun e w' => e = .returned (.string ⟨l.toArray⟩) ∧ Below B w w' := by
  go_enter Tryd.func24, Tryd.ntmps24
  go_wp2_with (go_at_call 31; refine (builderString_any B b p st l _ h h0).mono ?_; rintro e w1 ⟨rfl, hb1⟩)
  go_ret
  exact ⟨rfl, hb1⟩
end Go.Proofs.Qxb6000929aDoor
