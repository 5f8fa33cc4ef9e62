import Derived.Test.Qxb6001175aTop
namespace Go.Proofs.Qxb6001175a
open Go.RowKit Pl

set_option maxHeartbeats 1000000 in
theorem law_long (a0 a1 a3 a4 a6 : ByteArray) (a2 a5 : Int) (h : 131072 < a0.size ∨ 131072 < a1.size ∨ 131072 < a3.size ∨ 131072 < a4.size ∨ 131072 < a6.size) (w : World) :
    Calls Try.prog 6 #[.string a0, .string a1, .int .u8 a2, .string a3, .string a4, .int .u8 a5, .string a6] w fun e w' => e = .returned (.bool true) ∧ Below w.heap.size w w' := by
  by_cases h0 : 131072 < a0.size
  · go_enter Try.func6, Try.ntmps6
    go_wp2_with (go_at_call 15; refine (zzBytes_any a0 a1 a3 a4 a6 a2 a5 _).mono ?_; rintro e w' ⟨b, rfl, hb, rfl⟩)
    all_goals (go_ret; exact ⟨rfl, Below.refl _ _⟩)
  by_cases h1 : 131072 < a1.size
  · clear h
    go_enter Try.func6, Try.ntmps6
    go_wp2_with (go_at_call 15; refine (zzBytes_any a0 a1 a3 a4 a6 a2 a5 _).mono ?_; rintro e w' ⟨b, rfl, hb, rfl⟩)
    all_goals (go_ret; exact ⟨rfl, Below.refl _ _⟩)
  by_cases h3 : 131072 < a3.size
  · clear h
    go_enter Try.func6, Try.ntmps6
    go_wp2_with (go_at_call 15; refine (zzBytes_any a0 a1 a3 a4 a6 a2 a5 _).mono ?_; rintro e w' ⟨b, rfl, hb, rfl⟩)
    all_goals (go_ret; exact ⟨rfl, Below.refl _ _⟩)
  by_cases h4 : 131072 < a4.size
  · clear h
    go_enter Try.func6, Try.ntmps6
    go_wp2_with (go_at_call 15; refine (zzBytes_any a0 a1 a3 a4 a6 a2 a5 _).mono ?_; rintro e w' ⟨b, rfl, hb, rfl⟩)
    all_goals (go_ret; exact ⟨rfl, Below.refl _ _⟩)
  have h6 : 131072 < a6.size := by omega
  clear h
  go_enter Try.func6, Try.ntmps6
  go_wp2_with (go_at_call 15; refine (zzBytes_any a0 a1 a3 a4 a6 a2 a5 _).mono ?_; rintro e w' ⟨b, rfl, hb, rfl⟩)
  all_goals (go_ret; exact ⟨rfl, Below.refl _ _⟩)

theorem want_first (f1 v1 f2 v2 : List UInt8) (o1 o2 : Nat) : want f1 f1 o1 v1 f2 o2 v2 = if o1 = 2 then [] else v1 := by
  unfold want; rw [if_pos rfl]
theorem want_second (f1 v1 f2 v2 : List UInt8) (o1 o2 : Nat) (h : f1 ≠ f2) : want f2 f1 o1 v1 f2 o2 v2 = if o2 = 2 then [] else v2 := by
  unfold want; rw [if_neg h.symm, if_pos rfl]
theorem want_third (g f1 v1 f2 v2 : List UInt8) (o1 o2 : Nat) (h1 : g ≠ f1) (h2 : g ≠ f2) : want g f1 o1 v1 f2 o2 v2 = [] := by
  unfold want; rw [if_neg h1, if_neg h2]

theorem mod_two {a : Int} (h : (a % 3 == 2) = true) : (a % 3).toNat = 2 := by
  rw [beq_iff_eq] at h
  omega
theorem mod_ne {a : Int} (h : ¬ (a % 3 == 2) = true) : ¬ (a % 3).toNat = 2 := by
  rw [beq_iff_eq] at h
  omega

theorem op_len (o : Nat) : (⟨(opOf o).toArray⟩ : ByteArray).size ≤ 2 := by
  rw [size_l]
  unfold opOf
  split
  · decide
  · split <;> decide

set_option maxHeartbeats 1000000 in
theorem law_short (a0 a1 a3 a4 a6 : ByteArray) (a2 a5 : Int) (h0 : a0.size ≤ 131072) (h1 : a1.size ≤ 131072) (h3 : a3.size ≤ 131072) (h4 : a4.size ≤ 131072) (h6 : a6.size ≤ 131072) (k20 : 0 ≤ a2) (k21 : a2 ≤ 255) (k50 : 0 ≤ a5) (k51 : a5 ≤ 255) (w : World) :
    Calls Try.prog 6 #[.string a0, .string a1, .int .u8 a2, .string a3, .string a4, .int .u8 a5, .string a6] w fun e w' => e = .returned (.bool true) ∧ Below w.heap.size w w' := by
  have m0 : Hid (a0.size ≤ maxLen) := Nat.le_trans h0 (by decide)
  have m3 : Hid (a3.size ≤ maxLen) := Nat.le_trans h3 (by decide)
  by_cases hff : (a0.toList == a3.toList) = true
  · go_enter Try.func6, Try.ntmps6
    go_wp2_with (go_at_call 15; refine (zzBytes_any a0 a1 a3 a4 a6 a2 a5 _).mono ?_; rintro e w' ⟨b, rfl, hb, rfl⟩)
    all_goals (go_ret; exact ⟨rfl, Below.refl _ _⟩)
  have hff' : (a0.toList == a3.toList) = false := by simpa using hff
  clear hff
  go_enter Try.func6, Try.ntmps6
  go_wp2_with (first | (go_at_call 15; refine (zzBytes_any a0 a1 a3 a4 a6 a2 a5 _).mono ?_; rintro e w' ⟨b, rfl, hb, rfl⟩) | (go_at_call_of 16 (Value.string a0); refine (clean_any a0 _ m0.out).mono ?_; rintro e w' ⟨b0, rfl, hb0, rfl⟩) | (go_at_call_of 16 (Value.string a3); refine (clean_any a3 _ m3.out).mono ?_; rintro e w' ⟨b3, rfl, hb3, rfl⟩))
  any_goals (go_ret; exact ⟨rfl, Below.refl _ _⟩)
  have hC0 : Hid (Clean a0.data.toList) := hb0 (by assumption)
  have hC3 : Hid (Clean a3.data.toList) := hb3 (by simpa using (by assumption : (!b3) = false))
  clear hb hb0 hb3
  obtain ⟨p1, hp1⟩ : ∃ p : ByteArray, p = ⟨(opOf (a2 % 3).toNat).toArray⟩ := ⟨_, rfl⟩
  obtain ⟨p2, hp2⟩ : ∃ p : ByteArray, p = ⟨(opOf (a5 % 3).toNat).toArray⟩ := ⟨_, rfl⟩
  obtain ⟨e1, he1⟩ : ∃ p : ByteArray, p = ⟨(esc a1.data.toList).toArray⟩ := ⟨_, rfl⟩
  obtain ⟨e4, he4⟩ : ∃ p : ByteArray, p = ⟨(esc a4.data.toList).toArray⟩ := ⟨_, rfl⟩
  have O1 := fun W => op_any a2 k20 k21 W
  have O2 := fun W => op_any a5 k50 k51 W
  have E1 := fun W => escape_any a1 W (by omega)
  have E4 := fun W => escape_any a4 W (by omega)
  rw [← hp1] at O1
  rw [← hp2] at O2
  rw [← he1] at E1
  rw [← he4] at E4
  have z1 : p1.size ≤ 2 := by rw [hp1]; exact op_len _
  have z2 : p2.size ≤ 2 := by rw [hp2]; exact op_len _
  have y1 : e1.size ≤ 262144 := by rw [he1, size_l]; have := esc_len a1.data.toList; have h : a1.data.toList.length = a1.size := by rw [Array.length_toList]; rfl
                                   omega
  have y4 : e4.size ≤ 262144 := by rw [he4, size_l]; have := esc_len a4.data.toList; have h : a4.data.toList.length = a4.size := by rw [Array.length_toList]; rfl
                                   omega
  have P1 : Hid (p1 = ⟨(opOf (a2 % 3).toNat).toArray⟩) := hp1
  have P2 : Hid (p2 = ⟨(opOf (a5 % 3).toNat).toArray⟩) := hp2
  have Y1 : Hid (e1 = ⟨(esc a1.data.toList).toArray⟩) := he1
  have Y4 : Hid (e4 = ⟨(esc a4.data.toList).toArray⟩) := he4
  clear hp1 hp2 he1 he4
  refine (O1 _).mono ?_
  rintro e w1 ⟨rfl, rfl⟩
  clear O1
  go_wp2_with fail
  refine (E1 _).mono ?_
  rintro e w2 ⟨rfl, hb2⟩
  clear E1
  go_wp2_with fail
  refine (O2 _).mono ?_
  rintro e w3 ⟨rfl, rfl⟩
  clear O2
  go_wp2_with fail
  refine (E4 _).mono ?_
  rintro e w4 ⟨rfl, hb4⟩
  clear E4
  have HZ : Hid (∀ (fld : ByteArray) (W : World), Calls Try.prog 18 #[.string (a0 ++ p1 ++ e1 ++ ⟨#[44]⟩ ++ a3 ++ p2 ++ e4), .string fld] W fun x w' => x = .returned (.string ⟨(want fld.data.toList a0.data.toList (a2 % 3).toNat a1.data.toList a3.data.toList (a5 % 3).toNat a4.data.toList).toArray⟩) ∧ Below W.heap.size W w') := by
    intro fld W
    have hne : a0.data.toList ≠ a3.data.toList := by
      rw [Lib.toList_data, Lib.toList_data] at hff'
      simpa using hff'
    have l1 : a1.data.toList.length = a1.size := by rw [Array.length_toList]; rfl
    have l4 : a4.data.toList.length = a4.size := by rw [Array.length_toList]; rfl
    refine zzField_any (a0 ++ p1 ++ e1 ++ ⟨#[44]⟩ ++ a3 ++ p2 ++ e4) fld a0.data.toList a1.data.toList a3.data.toList a4.data.toList (a2 % 3).toNat (a5 % 3).toNat (by omega) (by omega) hC0.out hC3.out hne (by omega) (by omega) ?_ ?_ W
    · rw [P1.out, P2.out, Y1.out, Y4.out]
      simp [ByteArray.data_append, req]
    · simp only [ByteArray.size_append]
      have : (⟨#[44]⟩ : ByteArray).size = 1 := rfl
      omega
  clear P1 P2 Y1 Y4
  have hne : Hid (a0.data.toList ≠ a3.data.toList) := by
    show a0.data.toList ≠ a3.data.toList
    rw [Lib.toList_data, Lib.toList_data] at hff'
    simpa using hff'
  by_cases q2 : (a2 % 3 == 2) = true <;> by_cases q5 : (a5 % 3 == 2) = true
  · have o1 : (a2 % 3).toNat = 2 := mod_two q2
    have o2 : (a5 % 3).toNat = 2 := mod_two q5
    have R0 : Hid (∀ W, Calls Try.prog 18 #[.string (a0 ++ p1 ++ e1 ++ ⟨#[44]⟩ ++ a3 ++ p2 ++ e4), .string a0] W fun x w' => x = .returned (.string ⟨#[]⟩) ∧ Below W.heap.size W w') := by
      intro W
      have := HZ.out a0 W
      rw [want_first _ _ _ _ _ _, if_pos o1] at this
      exact this
    have R3 : Hid (∀ W, Calls Try.prog 18 #[.string (a0 ++ p1 ++ e1 ++ ⟨#[44]⟩ ++ a3 ++ p2 ++ e4), .string a3] W fun x w' => x = .returned (.string ⟨#[]⟩) ∧ Below W.heap.size W w') := by
      intro W
      have := HZ.out a3 W
      rw [want_second _ _ _ _ _ _ hne.out, if_pos o2] at this
      exact this
    clear o1 o2
    go_wp2_with fail
    refine (R0.out _).mono ?_
    rintro e w5 ⟨rfl, hb5⟩
    go_wp2_with fail
    refine (R3.out _).mono ?_
    rintro e w6 ⟨rfl, hb6⟩
    have hB : Below w1.heap.size w1 w6 := ((hb2.trans (hb4.mono hb2.size)).trans (hb5.mono (Nat.le_trans hb2.size hb4.size))).trans (hb6.mono (Nat.le_trans (Nat.le_trans hb2.size hb4.size) hb5.size))
    by_cases g0 : (a6.toList == a0.toList) = true
    · go_wp2_with fail
      go_ret
      exact ⟨rfl, hB⟩
    by_cases g3 : (a6.toList == a3.toList) = true
    · have g0' : (a6.toList == a0.toList) = false := by simpa using g0
      clear g0
      go_wp2_with fail
      go_ret
      exact ⟨rfl, hB⟩
    have g0' : (a6.toList == a0.toList) = false := by simpa using g0
    have g3' : (a6.toList == a3.toList) = false := by simpa using g3
    have R6 : Hid (∀ W, Calls Try.prog 18 #[.string (a0 ++ p1 ++ e1 ++ ⟨#[44]⟩ ++ a3 ++ p2 ++ e4), .string a6] W fun x w' => x = .returned (.string ⟨#[]⟩) ∧ Below W.heap.size W w') := by
      intro W
      have := HZ.out a6 W
      rw [want_third _ _ _ _ _ _ _ (by rw [Lib.toList_data, Lib.toList_data] at g0'; simpa using g0') (by rw [Lib.toList_data, Lib.toList_data] at g3'; simpa using g3')] at this
      exact this
    clear g0 g3
    go_wp2_with fail
    refine (R6.out _).mono ?_
    rintro e w7 ⟨rfl, hb7⟩
    go_wp2_with fail
    go_ret
    exact ⟨rfl, hB.trans (hb7.mono hB.size)⟩
  · have o1 : (a2 % 3).toNat = 2 := mod_two q2
    have q5' : (a5 % 3 == 2) = false := by simpa using q5
    have o2 : ¬ (a5 % 3).toNat = 2 := mod_ne q5
    clear q5
    have R0 : Hid (∀ W, Calls Try.prog 18 #[.string (a0 ++ p1 ++ e1 ++ ⟨#[44]⟩ ++ a3 ++ p2 ++ e4), .string a0] W fun x w' => x = .returned (.string ⟨#[]⟩) ∧ Below W.heap.size W w') := by
      intro W
      have := HZ.out a0 W
      rw [want_first _ _ _ _ _ _, if_pos o1] at this
      exact this
    have R3 : Hid (∀ W, Calls Try.prog 18 #[.string (a0 ++ p1 ++ e1 ++ ⟨#[44]⟩ ++ a3 ++ p2 ++ e4), .string a3] W fun x w' => x = .returned (.string a4) ∧ Below W.heap.size W w') := by
      intro W
      have := HZ.out a3 W
      rw [want_second _ _ _ _ _ _ hne.out, if_neg o2] at this
      exact this
    clear o1 o2
    go_wp2_with fail
    refine (R0.out _).mono ?_
    rintro e w5 ⟨rfl, hb5⟩
    go_wp2_with fail
    refine (R3.out _).mono ?_
    rintro e w6 ⟨rfl, hb6⟩
    have hB : Below w1.heap.size w1 w6 := ((hb2.trans (hb4.mono hb2.size)).trans (hb5.mono (Nat.le_trans hb2.size hb4.size))).trans (hb6.mono (Nat.le_trans (Nat.le_trans hb2.size hb4.size) hb5.size))
    by_cases g0 : (a6.toList == a0.toList) = true
    · go_wp2_with fail
      go_ret
      exact ⟨rfl, hB⟩
    by_cases g3 : (a6.toList == a3.toList) = true
    · have g0' : (a6.toList == a0.toList) = false := by simpa using g0
      clear g0
      go_wp2_with fail
      go_ret
      exact ⟨rfl, hB⟩
    have g0' : (a6.toList == a0.toList) = false := by simpa using g0
    have g3' : (a6.toList == a3.toList) = false := by simpa using g3
    have R6 : Hid (∀ W, Calls Try.prog 18 #[.string (a0 ++ p1 ++ e1 ++ ⟨#[44]⟩ ++ a3 ++ p2 ++ e4), .string a6] W fun x w' => x = .returned (.string ⟨#[]⟩) ∧ Below W.heap.size W w') := by
      intro W
      have := HZ.out a6 W
      rw [want_third _ _ _ _ _ _ _ (by rw [Lib.toList_data, Lib.toList_data] at g0'; simpa using g0') (by rw [Lib.toList_data, Lib.toList_data] at g3'; simpa using g3')] at this
      exact this
    clear g0 g3
    go_wp2_with fail
    refine (R6.out _).mono ?_
    rintro e w7 ⟨rfl, hb7⟩
    go_wp2_with fail
    go_ret
    exact ⟨rfl, hB.trans (hb7.mono hB.size)⟩
  · have q2' : (a2 % 3 == 2) = false := by simpa using q2
    have o1 : ¬ (a2 % 3).toNat = 2 := mod_ne q2
    clear q2
    have o2 : (a5 % 3).toNat = 2 := mod_two q5
    have R0 : Hid (∀ W, Calls Try.prog 18 #[.string (a0 ++ p1 ++ e1 ++ ⟨#[44]⟩ ++ a3 ++ p2 ++ e4), .string a0] W fun x w' => x = .returned (.string a1) ∧ Below W.heap.size W w') := by
      intro W
      have := HZ.out a0 W
      rw [want_first _ _ _ _ _ _, if_neg o1] at this
      exact this
    have R3 : Hid (∀ W, Calls Try.prog 18 #[.string (a0 ++ p1 ++ e1 ++ ⟨#[44]⟩ ++ a3 ++ p2 ++ e4), .string a3] W fun x w' => x = .returned (.string ⟨#[]⟩) ∧ Below W.heap.size W w') := by
      intro W
      have := HZ.out a3 W
      rw [want_second _ _ _ _ _ _ hne.out, if_pos o2] at this
      exact this
    clear o1 o2
    go_wp2_with fail
    refine (R0.out _).mono ?_
    rintro e w5 ⟨rfl, hb5⟩
    go_wp2_with fail
    refine (R3.out _).mono ?_
    rintro e w6 ⟨rfl, hb6⟩
    have hB : Below w1.heap.size w1 w6 := ((hb2.trans (hb4.mono hb2.size)).trans (hb5.mono (Nat.le_trans hb2.size hb4.size))).trans (hb6.mono (Nat.le_trans (Nat.le_trans hb2.size hb4.size) hb5.size))
    by_cases g0 : (a6.toList == a0.toList) = true
    · go_wp2_with fail
      go_ret
      exact ⟨rfl, hB⟩
    by_cases g3 : (a6.toList == a3.toList) = true
    · have g0' : (a6.toList == a0.toList) = false := by simpa using g0
      clear g0
      go_wp2_with fail
      go_ret
      exact ⟨rfl, hB⟩
    have g0' : (a6.toList == a0.toList) = false := by simpa using g0
    have g3' : (a6.toList == a3.toList) = false := by simpa using g3
    have R6 : Hid (∀ W, Calls Try.prog 18 #[.string (a0 ++ p1 ++ e1 ++ ⟨#[44]⟩ ++ a3 ++ p2 ++ e4), .string a6] W fun x w' => x = .returned (.string ⟨#[]⟩) ∧ Below W.heap.size W w') := by
      intro W
      have := HZ.out a6 W
      rw [want_third _ _ _ _ _ _ _ (by rw [Lib.toList_data, Lib.toList_data] at g0'; simpa using g0') (by rw [Lib.toList_data, Lib.toList_data] at g3'; simpa using g3')] at this
      exact this
    clear g0 g3
    go_wp2_with fail
    refine (R6.out _).mono ?_
    rintro e w7 ⟨rfl, hb7⟩
    go_wp2_with fail
    go_ret
    exact ⟨rfl, hB.trans (hb7.mono hB.size)⟩
  · have q2' : (a2 % 3 == 2) = false := by simpa using q2
    have o1 : ¬ (a2 % 3).toNat = 2 := mod_ne q2
    clear q2
    have q5' : (a5 % 3 == 2) = false := by simpa using q5
    have o2 : ¬ (a5 % 3).toNat = 2 := mod_ne q5
    clear q5
    have R0 : Hid (∀ W, Calls Try.prog 18 #[.string (a0 ++ p1 ++ e1 ++ ⟨#[44]⟩ ++ a3 ++ p2 ++ e4), .string a0] W fun x w' => x = .returned (.string a1) ∧ Below W.heap.size W w') := by
      intro W
      have := HZ.out a0 W
      rw [want_first _ _ _ _ _ _, if_neg o1] at this
      exact this
    have R3 : Hid (∀ W, Calls Try.prog 18 #[.string (a0 ++ p1 ++ e1 ++ ⟨#[44]⟩ ++ a3 ++ p2 ++ e4), .string a3] W fun x w' => x = .returned (.string a4) ∧ Below W.heap.size W w') := by
      intro W
      have := HZ.out a3 W
      rw [want_second _ _ _ _ _ _ hne.out, if_neg o2] at this
      exact this
    clear o1 o2
    go_wp2_with fail
    refine (R0.out _).mono ?_
    rintro e w5 ⟨rfl, hb5⟩
    go_wp2_with fail
    refine (R3.out _).mono ?_
    rintro e w6 ⟨rfl, hb6⟩
    have hB : Below w1.heap.size w1 w6 := ((hb2.trans (hb4.mono hb2.size)).trans (hb5.mono (Nat.le_trans hb2.size hb4.size))).trans (hb6.mono (Nat.le_trans (Nat.le_trans hb2.size hb4.size) hb5.size))
    by_cases g0 : (a6.toList == a0.toList) = true
    · go_wp2_with fail
      go_ret
      exact ⟨rfl, hB⟩
    by_cases g3 : (a6.toList == a3.toList) = true
    · have g0' : (a6.toList == a0.toList) = false := by simpa using g0
      clear g0
      go_wp2_with fail
      go_ret
      exact ⟨rfl, hB⟩
    have g0' : (a6.toList == a0.toList) = false := by simpa using g0
    have g3' : (a6.toList == a3.toList) = false := by simpa using g3
    have R6 : Hid (∀ W, Calls Try.prog 18 #[.string (a0 ++ p1 ++ e1 ++ ⟨#[44]⟩ ++ a3 ++ p2 ++ e4), .string a6] W fun x w' => x = .returned (.string ⟨#[]⟩) ∧ Below W.heap.size W w') := by
      intro W
      have := HZ.out a6 W
      rw [want_third _ _ _ _ _ _ _ (by rw [Lib.toList_data, Lib.toList_data] at g0'; simpa using g0') (by rw [Lib.toList_data, Lib.toList_data] at g3'; simpa using g3')] at this
      exact this
    clear g0 g3
    go_wp2_with fail
    refine (R6.out _).mono ?_
    rintro e w7 ⟨rfl, hb7⟩
    go_wp2_with fail
    go_ret
    exact ⟨rfl, hB.trans (hb7.mono hB.size)⟩
end Go.Proofs.Qxb6001175a
