import Derived.Test.Qxb6000743aCut
namespace Go.Proofs.Qxb6000743a
open Go.RowKit

theorem ret_two {k : IntKind} {a b : Int} {x y : Bool} (h : a = b) (h' : x = y) : Ending.returned (.tuple #[.int k a, .bool x]) = .returned (.tuple #[.int k b, .bool y]) := by rw [h, h']

set_option maxHeartbeats 400000 in
theorem parse48_0 (n : Int) (hn : n = 0) (hn1 : n ≤ 1000) (w : World) :
    Calls Try.prog 12 #[.string ⟨#[48, 46]⟩] w fun r w' => r = .returned (.tuple #[.int .i64 n, .bool true]) ∧ w' = w.drew := by
  have H1 : Hid ((⟨#[48, 46]⟩ : ByteArray).extract 0 1 = ⟨#[48]⟩) := rfl
  have H2 : Hid ((⟨#[48, 46]⟩ : ByteArray).extract (1 + 1) (⟨#[48, 46]⟩ : ByteArray).size = ⟨#[]⟩) := rfl
  have HX : Hid (Lib.indexByte (⟨#[48, 46]⟩ : ByteArray).data.toList 46 = ((1 : Nat) : Int)) := rfl
  have S1 : Hid (1 < (⟨#[48, 46]⟩ : ByteArray).size) := show (1 : Nat) < 2 by omega
  have S2 : Hid ((⟨#[48, 46]⟩ : ByteArray).size ≤ 100) := show (2 : Nat) ≤ 100 by omega
  have HN : Hid (n = 0) := hn
  have HN1 : Hid (n ≤ 1000) := hn1
  have g : ∀ h, (⟨#[48]⟩ : ByteArray)[0]'h = 48 := fun _ => rfl
  clear hn hn1
  go_enter Try.func12, Try.ntmps12
  go_wp2_with (go_at_call 13; refine (cut_hit _ 1 HX.out S1.out S2.out _).mono ?_; rintro e w' ⟨rfl, rfl⟩; rw [H1.out, H2.out])
  refine wp_loop_rounds 1 ?_
  repeat any_goals (rw [rounds_succ]; go_wp2)
  go_ret2
  exact ⟨ret_two (by have := HN.out; omega) (by have := HN.out; have := HN1.out; simp <;> omega), rfl⟩

set_option maxHeartbeats 400000 in
theorem parse48_1 (c : UInt8) (hc : 48 ≤ (c.toNat : Int)) (hc' : (c.toNat : Int) ≤ 57) (n : Int) (hn : n = 0 + ((c.toNat : Int) - 48) * 100) (hn1 : n ≤ 1000) (w : World) :
    Calls Try.prog 12 #[.string ⟨#[48, 46, c]⟩] w fun r w' => r = .returned (.tuple #[.int .i64 n, .bool true]) ∧ w' = w.drew := by
  have H1 : Hid ((⟨#[48, 46, c]⟩ : ByteArray).extract 0 1 = ⟨#[48]⟩) := rfl
  have H2 : Hid ((⟨#[48, 46, c]⟩ : ByteArray).extract (1 + 1) (⟨#[48, 46, c]⟩ : ByteArray).size = ⟨#[c]⟩) := rfl
  have HX : Hid (Lib.indexByte (⟨#[48, 46, c]⟩ : ByteArray).data.toList 46 = ((1 : Nat) : Int)) := rfl
  have S1 : Hid (1 < (⟨#[48, 46, c]⟩ : ByteArray).size) := show (1 : Nat) < 3 by omega
  have S2 : Hid ((⟨#[48, 46, c]⟩ : ByteArray).size ≤ 100) := show (3 : Nat) ≤ 100 by omega
  have HN : Hid (n = 0 + ((c.toNat : Int) - 48) * 100) := hn
  have HN1 : Hid (n ≤ 1000) := hn1
  have g : ∀ h, (⟨#[48]⟩ : ByteArray)[0]'h = 48 := fun _ => rfl
  have g0 : ∀ h, (⟨#[c]⟩ : ByteArray)[0]'h = c := fun _ => rfl
  clear hn hn1
  go_enter Try.func12, Try.ntmps12
  go_wp2_with (go_at_call 13; refine (cut_hit _ 1 HX.out S1.out S2.out _).mono ?_; rintro e w' ⟨rfl, rfl⟩; rw [H1.out, H2.out])
  refine wp_loop_rounds 2 ?_
  repeat any_goals (rw [rounds_succ]; go_wp2)
  go_ret2
  exact ⟨ret_two (by have := HN.out; omega) (by have := HN.out; have := HN1.out; simp <;> omega), rfl⟩

set_option maxHeartbeats 400000 in
theorem parse48_2 (c : UInt8) (d : UInt8) (hc : 48 ≤ (c.toNat : Int)) (hc' : (c.toNat : Int) ≤ 57) (hd : 48 ≤ (d.toNat : Int)) (hd' : (d.toNat : Int) ≤ 57) (n : Int) (hn : n = 0 + ((c.toNat : Int) - 48) * 100 + ((d.toNat : Int) - 48) * 10) (hn1 : n ≤ 1000) (w : World) :
    Calls Try.prog 12 #[.string ⟨#[48, 46, c, d]⟩] w fun r w' => r = .returned (.tuple #[.int .i64 n, .bool true]) ∧ w' = w.drew := by
  have H1 : Hid ((⟨#[48, 46, c, d]⟩ : ByteArray).extract 0 1 = ⟨#[48]⟩) := rfl
  have H2 : Hid ((⟨#[48, 46, c, d]⟩ : ByteArray).extract (1 + 1) (⟨#[48, 46, c, d]⟩ : ByteArray).size = ⟨#[c, d]⟩) := rfl
  have HX : Hid (Lib.indexByte (⟨#[48, 46, c, d]⟩ : ByteArray).data.toList 46 = ((1 : Nat) : Int)) := rfl
  have S1 : Hid (1 < (⟨#[48, 46, c, d]⟩ : ByteArray).size) := show (1 : Nat) < 4 by omega
  have S2 : Hid ((⟨#[48, 46, c, d]⟩ : ByteArray).size ≤ 100) := show (4 : Nat) ≤ 100 by omega
  have HN : Hid (n = 0 + ((c.toNat : Int) - 48) * 100 + ((d.toNat : Int) - 48) * 10) := hn
  have HN1 : Hid (n ≤ 1000) := hn1
  have g : ∀ h, (⟨#[48]⟩ : ByteArray)[0]'h = 48 := fun _ => rfl
  have g0 : ∀ h, (⟨#[c, d]⟩ : ByteArray)[0]'h = c := fun _ => rfl
  have g1 : ∀ h, (⟨#[c, d]⟩ : ByteArray)[1]'h = d := fun _ => rfl
  clear hn hn1
  go_enter Try.func12, Try.ntmps12
  go_wp2_with (go_at_call 13; refine (cut_hit _ 1 HX.out S1.out S2.out _).mono ?_; rintro e w' ⟨rfl, rfl⟩; rw [H1.out, H2.out])
  refine wp_loop_rounds 3 ?_
  repeat any_goals (rw [rounds_succ]; go_wp2)
  go_ret2
  exact ⟨ret_two (by have := HN.out; omega) (by have := HN.out; have := HN1.out; simp <;> omega), rfl⟩

set_option maxHeartbeats 400000 in
theorem parse48_3 (c : UInt8) (d : UInt8) (e : UInt8) (hc : 48 ≤ (c.toNat : Int)) (hc' : (c.toNat : Int) ≤ 57) (hd : 48 ≤ (d.toNat : Int)) (hd' : (d.toNat : Int) ≤ 57) (he : 48 ≤ (e.toNat : Int)) (he' : (e.toNat : Int) ≤ 57) (n : Int) (hn : n = 0 + ((c.toNat : Int) - 48) * 100 + ((d.toNat : Int) - 48) * 10 + ((e.toNat : Int) - 48) * 1) (hn1 : n ≤ 1000) (w : World) :
    Calls Try.prog 12 #[.string ⟨#[48, 46, c, d, e]⟩] w fun r w' => r = .returned (.tuple #[.int .i64 n, .bool true]) ∧ w' = w.drew := by
  have H1 : Hid ((⟨#[48, 46, c, d, e]⟩ : ByteArray).extract 0 1 = ⟨#[48]⟩) := rfl
  have H2 : Hid ((⟨#[48, 46, c, d, e]⟩ : ByteArray).extract (1 + 1) (⟨#[48, 46, c, d, e]⟩ : ByteArray).size = ⟨#[c, d, e]⟩) := rfl
  have HX : Hid (Lib.indexByte (⟨#[48, 46, c, d, e]⟩ : ByteArray).data.toList 46 = ((1 : Nat) : Int)) := rfl
  have S1 : Hid (1 < (⟨#[48, 46, c, d, e]⟩ : ByteArray).size) := show (1 : Nat) < 5 by omega
  have S2 : Hid ((⟨#[48, 46, c, d, e]⟩ : ByteArray).size ≤ 100) := show (5 : Nat) ≤ 100 by omega
  have HN : Hid (n = 0 + ((c.toNat : Int) - 48) * 100 + ((d.toNat : Int) - 48) * 10 + ((e.toNat : Int) - 48) * 1) := hn
  have HN1 : Hid (n ≤ 1000) := hn1
  have g : ∀ h, (⟨#[48]⟩ : ByteArray)[0]'h = 48 := fun _ => rfl
  have g0 : ∀ h, (⟨#[c, d, e]⟩ : ByteArray)[0]'h = c := fun _ => rfl
  have g1 : ∀ h, (⟨#[c, d, e]⟩ : ByteArray)[1]'h = d := fun _ => rfl
  have g2 : ∀ h, (⟨#[c, d, e]⟩ : ByteArray)[2]'h = e := fun _ => rfl
  clear hn hn1
  go_enter Try.func12, Try.ntmps12
  go_wp2_with (go_at_call 13; refine (cut_hit _ 1 HX.out S1.out S2.out _).mono ?_; rintro e w' ⟨rfl, rfl⟩; rw [H1.out, H2.out])
  refine wp_loop_rounds 4 ?_
  repeat any_goals (rw [rounds_succ]; go_wp2)
  go_ret2
  exact ⟨ret_two (by have := HN.out; omega) (by have := HN.out; have := HN1.out; simp <;> omega), rfl⟩

set_option maxHeartbeats 400000 in
theorem parse49_0 (n : Int) (hn : n = 1000) (hn1 : n ≤ 1000) (w : World) :
    Calls Try.prog 12 #[.string ⟨#[49, 46]⟩] w fun r w' => r = .returned (.tuple #[.int .i64 n, .bool true]) ∧ w' = w.drew := by
  have H1 : Hid ((⟨#[49, 46]⟩ : ByteArray).extract 0 1 = ⟨#[49]⟩) := rfl
  have H2 : Hid ((⟨#[49, 46]⟩ : ByteArray).extract (1 + 1) (⟨#[49, 46]⟩ : ByteArray).size = ⟨#[]⟩) := rfl
  have HX : Hid (Lib.indexByte (⟨#[49, 46]⟩ : ByteArray).data.toList 46 = ((1 : Nat) : Int)) := rfl
  have S1 : Hid (1 < (⟨#[49, 46]⟩ : ByteArray).size) := show (1 : Nat) < 2 by omega
  have S2 : Hid ((⟨#[49, 46]⟩ : ByteArray).size ≤ 100) := show (2 : Nat) ≤ 100 by omega
  have HN : Hid (n = 1000) := hn
  have HN1 : Hid (n ≤ 1000) := hn1
  have g : ∀ h, (⟨#[49]⟩ : ByteArray)[0]'h = 49 := fun _ => rfl
  clear hn hn1
  go_enter Try.func12, Try.ntmps12
  go_wp2_with (go_at_call 13; refine (cut_hit _ 1 HX.out S1.out S2.out _).mono ?_; rintro e w' ⟨rfl, rfl⟩; rw [H1.out, H2.out])
  refine wp_loop_rounds 1 ?_
  repeat any_goals (rw [rounds_succ]; go_wp2)
  go_ret2
  exact ⟨ret_two (by have := HN.out; omega) (by have := HN.out; have := HN1.out; simp <;> omega), rfl⟩

set_option maxHeartbeats 400000 in
theorem parse49_1 (c : UInt8) (hc : 48 ≤ (c.toNat : Int)) (hc' : (c.toNat : Int) ≤ 57) (n : Int) (hn : n = 1000 + ((c.toNat : Int) - 48) * 100) (hn1 : n ≤ 1000) (w : World) :
    Calls Try.prog 12 #[.string ⟨#[49, 46, c]⟩] w fun r w' => r = .returned (.tuple #[.int .i64 n, .bool true]) ∧ w' = w.drew := by
  have H1 : Hid ((⟨#[49, 46, c]⟩ : ByteArray).extract 0 1 = ⟨#[49]⟩) := rfl
  have H2 : Hid ((⟨#[49, 46, c]⟩ : ByteArray).extract (1 + 1) (⟨#[49, 46, c]⟩ : ByteArray).size = ⟨#[c]⟩) := rfl
  have HX : Hid (Lib.indexByte (⟨#[49, 46, c]⟩ : ByteArray).data.toList 46 = ((1 : Nat) : Int)) := rfl
  have S1 : Hid (1 < (⟨#[49, 46, c]⟩ : ByteArray).size) := show (1 : Nat) < 3 by omega
  have S2 : Hid ((⟨#[49, 46, c]⟩ : ByteArray).size ≤ 100) := show (3 : Nat) ≤ 100 by omega
  have HN : Hid (n = 1000 + ((c.toNat : Int) - 48) * 100) := hn
  have HN1 : Hid (n ≤ 1000) := hn1
  have g : ∀ h, (⟨#[49]⟩ : ByteArray)[0]'h = 49 := fun _ => rfl
  have g0 : ∀ h, (⟨#[c]⟩ : ByteArray)[0]'h = c := fun _ => rfl
  clear hn hn1
  go_enter Try.func12, Try.ntmps12
  go_wp2_with (go_at_call 13; refine (cut_hit _ 1 HX.out S1.out S2.out _).mono ?_; rintro e w' ⟨rfl, rfl⟩; rw [H1.out, H2.out])
  refine wp_loop_rounds 2 ?_
  repeat any_goals (rw [rounds_succ]; go_wp2)
  go_ret2
  exact ⟨ret_two (by have := HN.out; omega) (by have := HN.out; have := HN1.out; simp <;> omega), rfl⟩

set_option maxHeartbeats 400000 in
theorem parse49_2 (c : UInt8) (d : UInt8) (hc : 48 ≤ (c.toNat : Int)) (hc' : (c.toNat : Int) ≤ 57) (hd : 48 ≤ (d.toNat : Int)) (hd' : (d.toNat : Int) ≤ 57) (n : Int) (hn : n = 1000 + ((c.toNat : Int) - 48) * 100 + ((d.toNat : Int) - 48) * 10) (hn1 : n ≤ 1000) (w : World) :
    Calls Try.prog 12 #[.string ⟨#[49, 46, c, d]⟩] w fun r w' => r = .returned (.tuple #[.int .i64 n, .bool true]) ∧ w' = w.drew := by
  have H1 : Hid ((⟨#[49, 46, c, d]⟩ : ByteArray).extract 0 1 = ⟨#[49]⟩) := rfl
  have H2 : Hid ((⟨#[49, 46, c, d]⟩ : ByteArray).extract (1 + 1) (⟨#[49, 46, c, d]⟩ : ByteArray).size = ⟨#[c, d]⟩) := rfl
  have HX : Hid (Lib.indexByte (⟨#[49, 46, c, d]⟩ : ByteArray).data.toList 46 = ((1 : Nat) : Int)) := rfl
  have S1 : Hid (1 < (⟨#[49, 46, c, d]⟩ : ByteArray).size) := show (1 : Nat) < 4 by omega
  have S2 : Hid ((⟨#[49, 46, c, d]⟩ : ByteArray).size ≤ 100) := show (4 : Nat) ≤ 100 by omega
  have HN : Hid (n = 1000 + ((c.toNat : Int) - 48) * 100 + ((d.toNat : Int) - 48) * 10) := hn
  have HN1 : Hid (n ≤ 1000) := hn1
  have g : ∀ h, (⟨#[49]⟩ : ByteArray)[0]'h = 49 := fun _ => rfl
  have g0 : ∀ h, (⟨#[c, d]⟩ : ByteArray)[0]'h = c := fun _ => rfl
  have g1 : ∀ h, (⟨#[c, d]⟩ : ByteArray)[1]'h = d := fun _ => rfl
  clear hn hn1
  go_enter Try.func12, Try.ntmps12
  go_wp2_with (go_at_call 13; refine (cut_hit _ 1 HX.out S1.out S2.out _).mono ?_; rintro e w' ⟨rfl, rfl⟩; rw [H1.out, H2.out])
  refine wp_loop_rounds 3 ?_
  repeat any_goals (rw [rounds_succ]; go_wp2)
  go_ret2
  exact ⟨ret_two (by have := HN.out; omega) (by have := HN.out; have := HN1.out; simp <;> omega), rfl⟩

set_option maxHeartbeats 400000 in
theorem parse49_3 (c : UInt8) (d : UInt8) (e : UInt8) (hc : 48 ≤ (c.toNat : Int)) (hc' : (c.toNat : Int) ≤ 57) (hd : 48 ≤ (d.toNat : Int)) (hd' : (d.toNat : Int) ≤ 57) (he : 48 ≤ (e.toNat : Int)) (he' : (e.toNat : Int) ≤ 57) (n : Int) (hn : n = 1000 + ((c.toNat : Int) - 48) * 100 + ((d.toNat : Int) - 48) * 10 + ((e.toNat : Int) - 48) * 1) (hn1 : n ≤ 1000) (w : World) :
    Calls Try.prog 12 #[.string ⟨#[49, 46, c, d, e]⟩] w fun r w' => r = .returned (.tuple #[.int .i64 n, .bool true]) ∧ w' = w.drew := by
  have H1 : Hid ((⟨#[49, 46, c, d, e]⟩ : ByteArray).extract 0 1 = ⟨#[49]⟩) := rfl
  have H2 : Hid ((⟨#[49, 46, c, d, e]⟩ : ByteArray).extract (1 + 1) (⟨#[49, 46, c, d, e]⟩ : ByteArray).size = ⟨#[c, d, e]⟩) := rfl
  have HX : Hid (Lib.indexByte (⟨#[49, 46, c, d, e]⟩ : ByteArray).data.toList 46 = ((1 : Nat) : Int)) := rfl
  have S1 : Hid (1 < (⟨#[49, 46, c, d, e]⟩ : ByteArray).size) := show (1 : Nat) < 5 by omega
  have S2 : Hid ((⟨#[49, 46, c, d, e]⟩ : ByteArray).size ≤ 100) := show (5 : Nat) ≤ 100 by omega
  have HN : Hid (n = 1000 + ((c.toNat : Int) - 48) * 100 + ((d.toNat : Int) - 48) * 10 + ((e.toNat : Int) - 48) * 1) := hn
  have HN1 : Hid (n ≤ 1000) := hn1
  have g : ∀ h, (⟨#[49]⟩ : ByteArray)[0]'h = 49 := fun _ => rfl
  have g0 : ∀ h, (⟨#[c, d, e]⟩ : ByteArray)[0]'h = c := fun _ => rfl
  have g1 : ∀ h, (⟨#[c, d, e]⟩ : ByteArray)[1]'h = d := fun _ => rfl
  have g2 : ∀ h, (⟨#[c, d, e]⟩ : ByteArray)[2]'h = e := fun _ => rfl
  clear hn hn1
  go_enter Try.func12, Try.ntmps12
  go_wp2_with (go_at_call 13; refine (cut_hit _ 1 HX.out S1.out S2.out _).mono ?_; rintro e w' ⟨rfl, rfl⟩; rw [H1.out, H2.out])
  refine wp_loop_rounds 4 ?_
  repeat any_goals (rw [rounds_succ]; go_wp2)
  go_ret2
  exact ⟨ret_two (by have := HN.out; omega) (by have := HN.out; have := HN1.out; simp <;> omega), rfl⟩

set_option maxHeartbeats 400000 in
theorem parse48 (w : World) :
    Calls Try.prog 12 #[.string ⟨#[48]⟩] w fun r w' => r = .returned (.tuple #[.int .i64 0, .bool true]) ∧ w' = w := by
  have HX : Hid (Lib.indexByte (⟨#[48]⟩ : ByteArray).data.toList 46 = -1) := rfl
  have g : ∀ h, (⟨#[48]⟩ : ByteArray)[0]'h = 48 := fun _ => rfl
  go_enter Try.func12, Try.ntmps12
  go_wp2_with (go_at_call 13; refine (cut_miss _ HX.out _).mono ?_; rintro e w' ⟨rfl, rfl⟩)
  refine wp_loop_rounds 1 ?_
  repeat any_goals (rw [rounds_succ]; go_wp2)
  go_ret2
  exact ⟨rfl, rfl⟩

set_option maxHeartbeats 400000 in
theorem parse49 (w : World) :
    Calls Try.prog 12 #[.string ⟨#[49]⟩] w fun r w' => r = .returned (.tuple #[.int .i64 1000, .bool true]) ∧ w' = w := by
  have HX : Hid (Lib.indexByte (⟨#[49]⟩ : ByteArray).data.toList 46 = -1) := rfl
  have g : ∀ h, (⟨#[49]⟩ : ByteArray)[0]'h = 49 := fun _ => rfl
  go_enter Try.func12, Try.ntmps12
  go_wp2_with (go_at_call 13; refine (cut_miss _ HX.out _).mono ?_; rintro e w' ⟨rfl, rfl⟩)
  refine wp_loop_rounds 1 ?_
  repeat any_goals (rw [rounds_succ]; go_wp2)
  go_ret2
  exact ⟨rfl, rfl⟩

end Go.Proofs.Qxb6000743a
