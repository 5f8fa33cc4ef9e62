import Derived.Test.Qxb6001175aSplit
import Derived.Lib.Bytealg
namespace Go.Proofs.Qxb6001175a
open Go.RowKit Pl

set_option maxHeartbeats 400000 in
theorem indexByte_in (s : ByteArray) (c : Int) (w : World) :
    Calls Try.prog 42 #[.string s, .int .u8 c] w fun e w' => e = .returned (.int .i64 (Lib.indexByte s.data.toList c.toNat.toUInt8)) ∧ w' = w := by
  go_enter Try.func42, Try.ntmps42
  go_wp2
  rw [run_callFunc_extern Try.func50 (by kernel_rfl) (by kernel_rfl) (by kernel_rfl) (e := Extern.BytealgIndexByte.indexByte) (by kernel_rfl), Lib.run_indexByteString]
  simp only [Result.andThen]
  rw [Oper.upon_value]
  go_wp2
  go_ret
  exact ⟨rfl, rfl⟩

set_option maxHeartbeats 400000 in
theorem indexByte_any (s : ByteArray) (c : Int) (w : World) :
    Calls Try.prog 29 #[.string s, .int .u8 c] w fun e w' => e = .returned (.int .i64 (Lib.indexByte s.data.toList c.toNat.toUInt8)) ∧ w' = w := by
  go_enter Try.func29, Try.ntmps29
  go_wp2_with (go_at_call 42; refine (indexByte_in _ _ _).mono ?_; rintro e w' ⟨rfl, rfl⟩)
  go_ret
  exact ⟨rfl, rfl⟩

set_option maxHeartbeats 400000 in
theorem hasPrefix_yes (t : ByteArray) (h2 : 2 ≤ t.size) (he : ((t.extract 0 2).toList == [61, 61]) = true) (w : World) :
    Calls Try.prog 30 #[.string t, .string ⟨#[61, 61]⟩] w fun e w' => e = .returned (.bool true) ∧ w' = w := by
  go_enter Try.func30, Try.ntmps30
  go_wp2
  go_ret
  exact ⟨rfl, rfl⟩

set_option maxHeartbeats 400000 in
theorem hasPrefix_short (t : ByteArray) (h2 : t.size < 2) (w : World) :
    Calls Try.prog 30 #[.string t, .string ⟨#[61, 61]⟩] w fun e w' => e = .returned (.bool false) ∧ w' = w := by
  go_enter Try.func30, Try.ntmps30
  go_wp2
  go_ret
  exact ⟨rfl, rfl⟩

set_option maxHeartbeats 400000 in
theorem hasPrefix_no (t : ByteArray) (h2 : 2 ≤ t.size) (he : ((t.extract 0 2).toList == [61, 61]) = false) (w : World) :
    Calls Try.prog 30 #[.string t, .string ⟨#[61, 61]⟩] w fun e w' => e = .returned (.bool false) ∧ w' = w := by
  go_enter Try.func30, Try.ntmps30
  go_wp2
  go_ret
  exact ⟨rfl, rfl⟩

set_option maxHeartbeats 400000 in
theorem cut_ne_walk (r : ByteArray) (m : Nat) (hix : Lib.indexByte r.data.toList 61 = (m : Int) + 1) (hm : m + 2 ≤ r.size) (hz : ∀ h, r[m]'h = 33) (w : World) (hs : r.size ≤ 16777216) :
    Calls Try.prog 26 #[.string r] w fun e w' => e = .returned (.tuple #[.string (r.extract 0 m), .string (r.extract (m + 2) r.size), .bool true, .bool true]) ∧ w' = w.drew := by
  have HX : Hid (Lib.indexByte r.data.toList (Int.toNat 61).toUInt8 = (m : Int) + 1) := hix
  clear hix
  have c1 : (0 : Int) ≤ (m : Int) := by omega
  have c2 : (m : Int) ≤ (r.size : Int) := by omega
  have c3 : (0 : Int) ≤ (m : Int) + 2 := by omega
  have c4 : (m : Int) + 2 ≤ (r.size : Int) := by omega
  have c5 : m < r.size := by omega
  go_enter Try.func26, Try.ntmps26
  go_wp2_with (go_at_call 29; refine (indexByte_any _ _ _).mono ?_; rintro e w' ⟨rfl, rfl⟩; rw [HX.out])
  go_region
  go_wp2
  exact bodyPost_ret (v := .tuple #[.string (r.extract 0 m), .string (r.extract (m + 2) r.size), .bool true, .bool true]) (by simp [results, Try.results26, go_sem]) rfl ⟨rfl, rfl⟩

set_option maxHeartbeats 400000 in
theorem cut_z_yes (r : ByteArray) (hix : Lib.indexByte r.data.toList 61 = 0) (h2 : 0 + 2 ≤ r.size) (he : ((r.extract 0 2).toList == [61, 61]) = true) (w : World) (hs : r.size ≤ 16777216) :
    Calls Try.prog 26 #[.string r] w fun e w' => e = .returned (.tuple #[.string (r.extract 0 0), .string (r.extract 2 r.size), .bool false, .bool true]) ∧ w' = w.drew := by
  have HX : Hid (Lib.indexByte r.data.toList (Int.toNat 61).toUInt8 = 0) := hix
  clear hix
  have T2 : Hid (2 ≤ r.size) := by show 2 ≤ r.size; omega
  have c1 : (0 : Int) ≤ 0 := by omega
  have c2 : 0 ≤ (r.size : Int) := by omega
  have c3 : (0 : Int) ≤ 0 + 2 := by omega
  have c4 : 0 + 2 ≤ (r.size : Int) := by omega
  go_enter Try.func26, Try.ntmps26
  go_wp2_with (first | (go_at_call 29; refine (indexByte_any _ _ _).mono ?_; rintro e w' ⟨rfl, rfl⟩; rw [HX.out]) | (go_at_call 30; refine (hasPrefix_yes _ T2.out he _).mono ?_; rintro e w' ⟨rfl, rfl⟩))
  go_region
  go_wp2
  exact bodyPost_ret (v := .tuple #[.string (r.extract 0 0), .string (r.extract 2 r.size), .bool false, .bool true]) (by simp [results, Try.results26, go_sem]) rfl ⟨rfl, rfl⟩

set_option maxHeartbeats 400000 in
theorem cut_z_no (r : ByteArray) (hix : Lib.indexByte r.data.toList 61 = 0) (h2 : 0 + 2 ≤ r.size) (he : ((r.extract 0 2).toList == [61, 61]) = false) (w : World) (hs : r.size ≤ 16777216) :
    Calls Try.prog 26 #[.string r] w fun e w' => e = .returned (.tuple #[.string (r.extract 0 0), .string (r.extract 1 r.size), .bool false, .bool true]) ∧ w' = w.drew := by
  have HX : Hid (Lib.indexByte r.data.toList (Int.toNat 61).toUInt8 = 0) := hix
  clear hix
  have T2 : Hid (2 ≤ r.size) := by show 2 ≤ r.size; omega
  have c1 : (0 : Int) ≤ 0 := by omega
  have c2 : 0 ≤ (r.size : Int) := by omega
  have c3 : (0 : Int) ≤ 0 + 1 := by omega
  have c4 : 0 + 1 ≤ (r.size : Int) := by omega
  go_enter Try.func26, Try.ntmps26
  go_wp2_with (first | (go_at_call 29; refine (indexByte_any _ _ _).mono ?_; rintro e w' ⟨rfl, rfl⟩; rw [HX.out]) | (go_at_call 30; refine (hasPrefix_no _ T2.out he _).mono ?_; rintro e w' ⟨rfl, rfl⟩))
  go_region
  go_wp2
  exact bodyPost_ret (v := .tuple #[.string (r.extract 0 0), .string (r.extract 1 r.size), .bool false, .bool true]) (by simp [results, Try.results26, go_sem]) rfl ⟨rfl, rfl⟩

set_option maxHeartbeats 400000 in
theorem cut_z_short (r : ByteArray) (hix : Lib.indexByte r.data.toList 61 = 0) (h2 : 0 + 1 = r.size) (w : World) :
    Calls Try.prog 26 #[.string r] w fun e w' => e = .returned (.tuple #[.string (r.extract 0 0), .string (r.extract 1 r.size), .bool false, .bool true]) ∧ w' = w.drew := by
  have HX : Hid (Lib.indexByte r.data.toList (Int.toNat 61).toUInt8 = 0) := hix
  clear hix
  have T2 : Hid (r.size < 2) := by show r.size < 2; omega
  have c1 : (0 : Int) ≤ 0 := by omega
  have c2 : 0 ≤ (r.size : Int) := by omega
  have c3 : (0 : Int) ≤ 0 + 1 := by omega
  have c4 : 0 + 1 ≤ (r.size : Int) := by omega
  go_enter Try.func26, Try.ntmps26
  go_wp2_with (first | (go_at_call 29; refine (indexByte_any _ _ _).mono ?_; rintro e w' ⟨rfl, rfl⟩; rw [HX.out]) | (go_at_call 30; refine (hasPrefix_short _ T2.out _).mono ?_; rintro e w' ⟨rfl, rfl⟩))
  go_region
  go_wp2
  exact bodyPost_ret (v := .tuple #[.string (r.extract 0 0), .string (r.extract 1 r.size), .bool false, .bool true]) (by simp [results, Try.results26, go_sem]) rfl ⟨rfl, rfl⟩

set_option maxHeartbeats 400000 in
theorem cut_s_yes (r : ByteArray) (m : Nat) (hz : ∀ h, ((r[m]'h).toNat : Int) ≠ 33) (hix : Lib.indexByte r.data.toList 61 = ((m : Int) + 1)) (h2 : (m + 1) + 2 ≤ r.size) (he : (((r.extract (m + 1) r.size).extract 0 2).toList == [61, 61]) = true) (w : World) (hs : r.size ≤ 16777216) :
    Calls Try.prog 26 #[.string r] w fun e w' => e = .returned (.tuple #[.string (r.extract 0 (m + 1)), .string (r.extract (m + 1 + 2) r.size), .bool false, .bool true]) ∧ w' = w.drew := by
  have HX : Hid (Lib.indexByte r.data.toList (Int.toNat 61).toUInt8 = ((m : Int) + 1)) := hix
  clear hix
  have hz' : ∀ h, (((r[m]'h).toNat : Int) == 33) = false := fun h => by rw [beq_eq_false_iff_ne]; exact hz h
  clear hz
  have c6 : m < r.size := by omega
  have T2 : Hid (2 ≤ (r.extract (m + 1) r.size).size) := by show 2 ≤ (r.extract (m + 1) r.size).size; rw [ByteArray.size_extract]; omega
  have c1 : (0 : Int) ≤ ((m : Int) + 1) := by omega
  have c2 : ((m : Int) + 1) ≤ (r.size : Int) := by omega
  have c3 : (0 : Int) ≤ ((m : Int) + 1) + 2 := by omega
  have c4 : ((m : Int) + 1) + 2 ≤ (r.size : Int) := by omega
  go_enter Try.func26, Try.ntmps26
  go_wp2_with (first | (go_at_call 29; refine (indexByte_any _ _ _).mono ?_; rintro e w' ⟨rfl, rfl⟩; rw [HX.out]) | (go_at_call 30; refine (hasPrefix_yes _ T2.out he _).mono ?_; rintro e w' ⟨rfl, rfl⟩))
  go_region
  go_wp2
  exact bodyPost_ret (v := .tuple #[.string (r.extract 0 (m + 1)), .string (r.extract (m + 1 + 2) r.size), .bool false, .bool true]) (by simp [results, Try.results26, go_sem]) rfl ⟨rfl, rfl⟩

set_option maxHeartbeats 400000 in
theorem cut_s_no (r : ByteArray) (m : Nat) (hz : ∀ h, ((r[m]'h).toNat : Int) ≠ 33) (hix : Lib.indexByte r.data.toList 61 = ((m : Int) + 1)) (h2 : (m + 1) + 2 ≤ r.size) (he : (((r.extract (m + 1) r.size).extract 0 2).toList == [61, 61]) = false) (w : World) (hs : r.size ≤ 16777216) :
    Calls Try.prog 26 #[.string r] w fun e w' => e = .returned (.tuple #[.string (r.extract 0 (m + 1)), .string (r.extract (m + 1 + 1) r.size), .bool false, .bool true]) ∧ w' = w.drew := by
  have HX : Hid (Lib.indexByte r.data.toList (Int.toNat 61).toUInt8 = ((m : Int) + 1)) := hix
  clear hix
  have hz' : ∀ h, (((r[m]'h).toNat : Int) == 33) = false := fun h => by rw [beq_eq_false_iff_ne]; exact hz h
  clear hz
  have c6 : m < r.size := by omega
  have T2 : Hid (2 ≤ (r.extract (m + 1) r.size).size) := by show 2 ≤ (r.extract (m + 1) r.size).size; rw [ByteArray.size_extract]; omega
  have c1 : (0 : Int) ≤ ((m : Int) + 1) := by omega
  have c2 : ((m : Int) + 1) ≤ (r.size : Int) := by omega
  have c3 : (0 : Int) ≤ ((m : Int) + 1) + 1 := by omega
  have c4 : ((m : Int) + 1) + 1 ≤ (r.size : Int) := by omega
  go_enter Try.func26, Try.ntmps26
  go_wp2_with (first | (go_at_call 29; refine (indexByte_any _ _ _).mono ?_; rintro e w' ⟨rfl, rfl⟩; rw [HX.out]) | (go_at_call 30; refine (hasPrefix_no _ T2.out he _).mono ?_; rintro e w' ⟨rfl, rfl⟩))
  go_region
  go_wp2
  exact bodyPost_ret (v := .tuple #[.string (r.extract 0 (m + 1)), .string (r.extract (m + 1 + 1) r.size), .bool false, .bool true]) (by simp [results, Try.results26, go_sem]) rfl ⟨rfl, rfl⟩

set_option maxHeartbeats 400000 in
theorem cut_s_short (r : ByteArray) (m : Nat) (hz : ∀ h, ((r[m]'h).toNat : Int) ≠ 33) (hix : Lib.indexByte r.data.toList 61 = ((m : Int) + 1)) (h2 : (m + 1) + 1 = r.size) (w : World) (hs : r.size ≤ 16777216) :
    Calls Try.prog 26 #[.string r] w fun e w' => e = .returned (.tuple #[.string (r.extract 0 (m + 1)), .string (r.extract (m + 1 + 1) r.size), .bool false, .bool true]) ∧ w' = w.drew := by
  have HX : Hid (Lib.indexByte r.data.toList (Int.toNat 61).toUInt8 = ((m : Int) + 1)) := hix
  clear hix
  have hz' : ∀ h, (((r[m]'h).toNat : Int) == 33) = false := fun h => by rw [beq_eq_false_iff_ne]; exact hz h
  clear hz
  have c6 : m < r.size := by omega
  have T2 : Hid ((r.extract (m + 1) r.size).size < 2) := by show (r.extract (m + 1) r.size).size < 2; rw [ByteArray.size_extract]; omega
  have c1 : (0 : Int) ≤ ((m : Int) + 1) := by omega
  have c2 : ((m : Int) + 1) ≤ (r.size : Int) := by omega
  have c3 : (0 : Int) ≤ ((m : Int) + 1) + 1 := by omega
  have c4 : ((m : Int) + 1) + 1 ≤ (r.size : Int) := by omega
  go_enter Try.func26, Try.ntmps26
  go_wp2_with (first | (go_at_call 29; refine (indexByte_any _ _ _).mono ?_; rintro e w' ⟨rfl, rfl⟩; rw [HX.out]) | (go_at_call 30; refine (hasPrefix_short _ T2.out _).mono ?_; rintro e w' ⟨rfl, rfl⟩))
  go_region
  go_wp2
  exact bodyPost_ret (v := .tuple #[.string (r.extract 0 (m + 1)), .string (r.extract (m + 1 + 1) r.size), .bool false, .bool true]) (by simp [results, Try.results26, go_sem]) rfl ⟨rfl, rfl⟩

end Go.Proofs.Qxb6001175a
