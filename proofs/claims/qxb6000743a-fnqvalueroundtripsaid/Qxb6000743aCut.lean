import Derived.Test.Qxb6000743aRows
import Derived.WalkKit
import Derived.WalkSpells
import Derived.WalkLawsBesides
import Derived.Lib.Bytealg
import Derived.Lib.Strings
import Derived.Deep.Draws
import Derived.Laws.BytesArg
namespace Go.Proofs.Qxb6000743a
open Go.RowKit

set_option maxHeartbeats 400000 in
theorem indexByte_any (s : ByteArray) (c : Int) (w : World) :
    Calls Try.prog 16 #[.string s, .int .u8 c] w fun e w' => e = .returned (.int .i64 (Lib.indexByte s.data.toList c.toNat.toUInt8)) ∧ w' = w := by
  go_enter Try.func16, Try.ntmps16
  go_wp2
  rw [run_callFunc_extern Try.func20 (by kernel_rfl) (by kernel_rfl) (by kernel_rfl) (e := Extern.BytealgIndexByte.indexByte) (by kernel_rfl), Lib.run_indexByteString]
  simp only [Result.andThen]
  rw [Oper.upon_value]
  go_wp2
  go_ret
  exact ⟨rfl, rfl⟩

set_option maxHeartbeats 400000 in
theorem index_dot (s : ByteArray) (w : World) :
    Calls Try.prog 15 #[.string s, .string ⟨#[46]⟩] w fun e w' => e = .returned (.int .i64 (Lib.indexByte s.data.toList 46)) ∧ w' = w := by
  by_cases h : ([46] == s.toList) = true
  · have hz : Lib.indexByte s.data.toList 46 = 0 := by
      have h' : s.data.toList = [46] := by rw [← Lib.toList_data]; simpa using (beq_iff_eq.1 h).symm
      rw [h']; rfl
    have HZ : Hid (Lib.indexByte s.data.toList 46 = 0) := hz
    clear hz
    go_enter Try.func15, Try.ntmps15
    go_wp2_with fail
    go_ret
    rw [HZ.out]
    exact ⟨rfl, rfl⟩
  · have h' : ([46] == s.toList) = false := by simpa using h
    clear h
    go_enter Try.func15, Try.ntmps15
    go_wp2_with (go_at_call 16; refine (indexByte_any _ _ _).mono ?_; rintro e w' ⟨rfl, rfl⟩)
    go_ret
    exact ⟨rfl, rfl⟩

set_option maxHeartbeats 400000 in
theorem lite_hit (s : ByteArray) (i : Nat) (hix : Lib.indexByte s.data.toList 46 = (i : Int)) (hi : i < s.size) (hs : s.size ≤ 100) (w : World) :
    Calls Try.prog 14 #[.string s, .string ⟨#[46]⟩] w fun e w' => e = .returned (.tuple #[.string (s.extract 0 i), .string (s.extract (i + 1) s.size), .bool true]) ∧ w' = w.drew := by
  have c1 : (0 : Int) ≤ ↑i := by omega
  have c2 : (↑i : Int) ≤ ↑s.size := by omega
  have c3 : (0 : Int) ≤ ↑i + 1 := by omega
  have c4 : (↑i + 1 : Int) ≤ ↑s.size := by omega
  have HX : Hid (Lib.indexByte s.data.toList 46 = (i : Int)) := hix
  clear hix
  go_enter Try.func14, Try.ntmps14
  go_wp2_with (go_at_call 15; refine (index_dot _ _).mono ?_; rintro e w' ⟨rfl, rfl⟩; rw [HX.out])
  go_region
  go_wp2
  go_ret3
  exact ⟨rfl, rfl⟩

set_option maxHeartbeats 400000 in
theorem lite_miss (s : ByteArray) (hix : Lib.indexByte s.data.toList 46 = -1) (w : World) :
    Calls Try.prog 14 #[.string s, .string ⟨#[46]⟩] w fun e w' => e = .returned (.tuple #[.string s, .string ⟨#[]⟩, .bool false]) ∧ w' = w := by
  have HX : Hid (Lib.indexByte s.data.toList 46 = -1) := hix
  clear hix
  go_enter Try.func14, Try.ntmps14
  go_wp2_with (go_at_call 15; refine (index_dot _ _).mono ?_; rintro e w' ⟨rfl, rfl⟩; rw [HX.out])
  go_ret3
  exact ⟨rfl, rfl⟩

set_option maxHeartbeats 400000 in
theorem cut_hit (s : ByteArray) (i : Nat) (hix : Lib.indexByte s.data.toList 46 = (i : Int)) (hi : i < s.size) (hs : s.size ≤ 100) (w : World) :
    Calls Try.prog 13 #[.string s, .string ⟨#[46]⟩] w fun e w' => e = .returned (.tuple #[.string (s.extract 0 i), .string (s.extract (i + 1) s.size), .bool true]) ∧ w' = w.drew := by
  have HX : Hid (Lib.indexByte s.data.toList 46 = (i : Int)) := hix
  clear hix
  go_enter Try.func13, Try.ntmps13
  go_wp2_with (go_at_call 14; refine (lite_hit _ _ HX.out hi hs _).mono ?_; rintro e w' ⟨rfl, rfl⟩)
  go_ret3
  exact ⟨rfl, rfl⟩

set_option maxHeartbeats 400000 in
theorem cut_miss (s : ByteArray) (hix : Lib.indexByte s.data.toList 46 = -1) (w : World) :
    Calls Try.prog 13 #[.string s, .string ⟨#[46]⟩] w fun e w' => e = .returned (.tuple #[.string s, .string ⟨#[]⟩, .bool false]) ∧ w' = w := by
  have HX : Hid (Lib.indexByte s.data.toList 46 = -1) := hix
  clear hix
  go_enter Try.func13, Try.ntmps13
  go_wp2_with (go_at_call 14; refine (lite_miss _ HX.out _).mono ?_; rintro e w' ⟨rfl, rfl⟩)
  go_ret3
  exact ⟨rfl, rfl⟩
end Go.Proofs.Qxb6000743a
