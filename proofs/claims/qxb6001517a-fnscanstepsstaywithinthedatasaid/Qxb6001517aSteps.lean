import Derived.Test.Qxb6001517aClone
namespace Go.Proofs.Qxb6001517a
open Go.RowKit

set_option maxHeartbeats 400000 in
theorem bytes21_le (a : Option Addr) (len cap : Nat) (z : Int) (w : World) (h : len ≤ 1048576) :
    Calls Try.prog 21 #[.slice a len cap, .int .i64 z] w fun e w' => e = .returned (.bool true) ∧ w' = w := by
  have h1 : ¬ (1048576 : Int) < (len : Int) := by omega
  have h2 : (len : Int) ≤ 1048576 := by omega
  go_enter Try.func21, Try.ntmps21
  go_wp2
  go_ret
  exact ⟨rfl, rfl⟩

set_option maxHeartbeats 400000 in
theorem bytes21_gt (a : Option Addr) (len cap : Nat) (z : Int) (w : World) (h : ¬ len ≤ 1048576) :
    Calls Try.prog 21 #[.slice a len cap, .int .i64 z] w fun e w' => e = .returned (.bool false) ∧ w' = w := by
  have h1 : (1048576 : Int) < (len : Int) := by omega
  go_enter Try.func21, Try.ntmps21
  go_wp2
  go_ret
  exact ⟨rfl, rfl⟩

set_option maxHeartbeats 400000 in
theorem steps_big (a : Option Addr) (len cap : Nat) (z : Int) (w : World) (h : ¬ len ≤ 1048576) :
    Calls Try.prog 7 #[.slice a len cap, .int .i64 z] w fun e w' => e = .returned (.bool true) ∧ Below w.heap.size w w' := by
  go_enter Try.func7, Try.ntmps7
  go_wp2_with (go_at_call 21; refine (bytes21_gt _ _ _ _ _ h).mono ?_; rintro e w' ⟨rfl, rfl⟩)
  go_ret
  exact ⟨rfl, Below.refl _ _⟩

set_option maxHeartbeats 400000 in
theorem steps_off (a : Option Addr) (len cap : Nat) (z : Int) (w : World) (h : len ≤ 1048576) (hz : z < 0 ∨ (len : Int) < z) :
    Calls Try.prog 7 #[.slice a len cap, .int .i64 z] w fun e w' => e = .returned (.bool true) ∧ Below w.heap.size w w' := by
  have h1 : ¬ (1048576 : Int) < (len : Int) := by omega
  have h2 : (len : Int) ≤ 1048576 := by omega
  rcases hz with hz | hz
  · go_enter Try.func7, Try.ntmps7
    go_wp2_with (go_at_call 21; refine (bytes21_le _ _ _ _ _ h).mono ?_; rintro e w' ⟨rfl, rfl⟩)
    go_ret
    exact ⟨rfl, Below.refl _ _⟩
  · have h3 : ¬ z < 0 := by omega
    have h4 : decide (z < 0) = false := by simp; omega
    go_enter Try.func7, Try.ntmps7
    go_wp2_with (go_at_call 21; refine (bytes21_le _ _ _ _ _ h).mono ?_; rintro e w' ⟨rfl, rfl⟩)
    go_ret
    exact ⟨rfl, Below.refl _ _⟩

theorem own_shape {W : World} {B : Nat} {v : Value} {n : Nat} {xs : List Value} (h : W.ownsRow B 5 1 v n xs) : ∃ ao cap, v = .slice ao n cap := by
  rcases h.2 with ⟨hv, h0⟩ | ⟨g, cap, cur, hv, _⟩
  · exact ⟨_, 0, by rw [hv, h0]⟩
  · exact ⟨_, _, hv⟩

theorem Bytes.row {W : World} {ao : Option Addr} {n cap k : Nat} {l : List Int} (h : Bytes W (.slice ao n cap) l) (hk : k < l.length) : ∃ g, ao = some ⟨g, 0, none⟩ ∧ W.cell? ⟨g, k, none⟩ = some (.int .u8 (l.getD k 0)) := by
  rcases h with ⟨rfl, _⟩ | ⟨g, cap', he, _, hc⟩
  · cases hk
  · injection he with h1 h2 h3
    exact ⟨g, h1, hc k hk⟩

set_option maxHeartbeats 2000000 in
theorem steps_end (v : Value) (a : Option Addr) (cap : Nat) (l : List Int) (k : Nat) (w : World) (hv : v = .slice a l.length cap) (hs : Src w v l) (h : l.length ≤ 1048576) (hk : k ≤ l.length) (hke : l.length ≤ k) :
    Calls Try.prog 7 #[v, .int .i64 k] w fun e w' => e = .returned (.bool true) ∧ Below w.heap.size w w' := by
  subst hv
  have h1 : ¬ (1048576 : Int) < (l.length : Int) := by omega
  have h2 : (l.length : Int) ≤ 1048576 := by omega
  have h3 : ¬ (k : Int) < 0 := by omega
  have h4 : decide ((k : Int) < 0) = false := by rw [decide_eq_false_iff_not]; omega
  have h5 : (k : Int) ≤ (l.length : Int) := by omega
  have h6 : ¬ (l.length : Int) < (k : Int) := by omega
  have hl : l.length ≤ 4194304 := by omega
  have HS : Hid (Src w (.slice a l.length cap) l) := hs
  clear hs
  have h7 : decide ((k : Int) < (l.length : Int)) = false := by rw [decide_eq_false_iff_not]; omega
  have h8 : decide (k < l.length) = false := by rw [decide_eq_false_iff_not]; omega
  have h9 : (k < l.length) = False := eq_false (by omega)
  clear hke
  go_enter Try.func7, Try.ntmps7
  go_wp2_with (go_at_call 21; refine (bytes21_le _ _ _ _ _ h).mono ?_; rintro e w' ⟨rfl, rfl⟩)
  go_wp2_with (go_at_call 9; refine (clone_any _ l _ HS.out hl).mono ?_; rintro e w1 ⟨v1, rfl, hown, hb1⟩; obtain ⟨ao, cap1, rfl⟩ := own_shape hown; have HB : Hid (Bytes w1 (.slice ao l.length cap1) l) := own_data hown (Nat.le_refl _); clear hown)
  go_wp2_with (go_at_call 12; refine (zzSkipString_any _ l k w1 HB.out hk hl).mono ?_; rintro e w2 ⟨j1, hj1, hj2, rfl, hb2⟩; have q1 : decide ((j1 : Int) ≤ (k : Int)) = false := (by rw [decide_eq_false_iff_not]; omega); have q2 : decide ((l.length : Int) + 1 < (j1 : Int)) = false := (by rw [decide_eq_false_iff_not]; omega); have HB2 : Hid (Bytes w2 (.slice ao l.length cap1) l) := HB.out.below hb2)
  go_wp2_with (go_at_call 15; refine (zzSkipValue_any _ l k w2 HB2.out hk hl).mono ?_; rintro e w3 ⟨j2, hj3, hj4, hj5, rfl, hb3⟩; have q3 : decide ((j2 : Int) < (k : Int)) = false := (by rw [decide_eq_false_iff_not]; omega); have q4 : decide ((l.length : Int) + 1 < (j2 : Int)) = false := (by rw [decide_eq_false_iff_not]; omega); have HB3 : Hid (Bytes w3 (.slice ao l.length cap1) l) := HB2.out.below hb3; clear hj5)
  go_at_call 20
  refine (zzMore_any _ l k w3 HB3.out hk hl).mono ?_
  rintro e w4 ⟨b, j3, m1, m2, m3, m4, rfl, hb4⟩
  have q6 : decide ((j3 : Int) < (k : Int)) = false := (by rw [decide_eq_false_iff_not]; omega)
  have q7 : decide ((l.length : Int) + 1 < (j3 : Int)) = false := (by rw [decide_eq_false_iff_not]; omega)
  have r6 : (j3 < k) = False := eq_false (by omega)
  have hb : Hid (Below w'.heap.size w' w4) := ((hb1.trans (hb2.mono hb1.size)).trans (hb3.mono (Nat.le_trans hb1.size hb2.size))).trans (hb4.mono (Nat.le_trans (Nat.le_trans hb1.size hb2.size) hb3.size))
  clear hb1 hb2 hb3 hb4 HB HB2 HB3 HS
  cases b
  · have m4' := m4 rfl
    have r7 : (j3 ≤ k) = False := eq_false (by omega)
    clear m3 m4
    go_wp2
    go_ret
    exact ⟨rfl, hb.out⟩
  · have m3' := m3 rfl
    have r7 : (l.length < j3) = False := eq_false (by omega)
    clear m3 m4
    go_wp2
    go_ret
    exact ⟨rfl, hb.out⟩

set_option maxHeartbeats 2000000 in
theorem steps_bare (v : Value) (a : Option Addr) (cap : Nat) (l : List Int) (k : Nat) (w : World) (hv : v = .slice a l.length cap) (hs : Src w v l) (h : l.length ≤ 1048576) (hlt : k < l.length) (x : Int) (hx : l.getD k 0 = x) (n1 : (x == 34) = false) (n2 : (x == 123) = false) (n3 : (x == 91) = false) :
    Calls Try.prog 7 #[v, .int .i64 k] w fun e w' => e = .returned (.bool true) ∧ Below w.heap.size w w' := by
  subst hv
  have hk : k ≤ l.length := by omega
  have h1 : ¬ (1048576 : Int) < (l.length : Int) := by omega
  have h2 : (l.length : Int) ≤ 1048576 := by omega
  have h3 : ¬ (k : Int) < 0 := by omega
  have h4 : decide ((k : Int) < 0) = false := by rw [decide_eq_false_iff_not]; omega
  have h5 : (k : Int) ≤ (l.length : Int) := by omega
  have h6 : ¬ (l.length : Int) < (k : Int) := by omega
  have hl : l.length ≤ 4194304 := by omega
  have HS : Hid (Src w (.slice a l.length cap) l) := hs
  clear hs
  have HX : Hid (l.getD k 0 = x) := hx
  clear hx
  go_enter Try.func7, Try.ntmps7
  go_wp2_with (go_at_call 21; refine (bytes21_le _ _ _ _ _ h).mono ?_; rintro e w' ⟨rfl, rfl⟩)
  go_wp2_with (go_at_call 9; refine (clone_any _ l _ HS.out hl).mono ?_; rintro e w1 ⟨v1, rfl, hown, hb1⟩; obtain ⟨ao, cap1, rfl⟩ := own_shape hown; have HB : Hid (Bytes w1 (.slice ao l.length cap1) l) := own_data hown (Nat.le_refl _); clear hown)
  go_wp2_with (go_at_call 12; refine (zzSkipString_any _ l k w1 HB.out hk hl).mono ?_; rintro e w2 ⟨j1, hj1, hj2, rfl, hb2⟩; have q1 : decide ((j1 : Int) ≤ (k : Int)) = false := (by rw [decide_eq_false_iff_not]; omega); have q2 : decide ((l.length : Int) + 1 < (j1 : Int)) = false := (by rw [decide_eq_false_iff_not]; omega); have HB2 : Hid (Bytes w2 (.slice ao l.length cap1) l) := HB.out.below hb2)
  go_wp2_with (go_at_call 15; refine (zzSkipValue_any _ l k w2 HB2.out hk hl).mono ?_; rintro e w3 ⟨j2, hj3, hj4, hj5, rfl, hb3⟩; have q3 : decide ((j2 : Int) < (k : Int)) = false := (by rw [decide_eq_false_iff_not]; omega); have q4 : decide ((l.length : Int) + 1 < (j2 : Int)) = false := (by rw [decide_eq_false_iff_not]; omega); have HB3 : Hid (Bytes w3 (.slice ao l.length cap1) l) := HB2.out.below hb3; obtain ⟨g, rfl, hc⟩ := HB3.out.row hlt; rw [HX.out] at hc; clear hj5)
  go_at_call 20
  refine (zzMore_any _ l k w3 HB3.out hk hl).mono ?_
  rintro e w4 ⟨b, j3, m1, m2, m3, m4, rfl, hb4⟩
  have q6 : decide ((j3 : Int) < (k : Int)) = false := (by rw [decide_eq_false_iff_not]; omega)
  have q7 : decide ((l.length : Int) + 1 < (j3 : Int)) = false := (by rw [decide_eq_false_iff_not]; omega)
  have r6 : (j3 < k) = False := eq_false (by omega)
  have hb : Hid (Below w'.heap.size w' w4) := ((hb1.trans (hb2.mono hb1.size)).trans (hb3.mono (Nat.le_trans hb1.size hb2.size))).trans (hb4.mono (Nat.le_trans (Nat.le_trans hb1.size hb2.size) hb3.size))
  clear hb1 hb2 hb3 hb4 HB HB2 HB3 HS
  cases b
  · have m4' := m4 rfl
    have r7 : (j3 ≤ k) = False := eq_false (by omega)
    clear m3 m4
    go_wp2
    go_ret
    exact ⟨rfl, hb.out⟩
  · have m3' := m3 rfl
    have r7 : (l.length < j3) = False := eq_false (by omega)
    clear m3 m4
    go_wp2
    go_ret
    exact ⟨rfl, hb.out⟩

set_option maxHeartbeats 2000000 in
theorem steps_box (v : Value) (a : Option Addr) (cap : Nat) (l : List Int) (k : Nat) (w : World) (hv : v = .slice a l.length cap) (hs : Src w v l) (h : l.length ≤ 1048576) (hlt : k < l.length) (x : Int) (hx : l.getD k 0 = x) (hb : x = 34 ∨ x = 123 ∨ x = 91) :
    Calls Try.prog 7 #[v, .int .i64 k] w fun e w' => e = .returned (.bool true) ∧ Below w.heap.size w w' := by
  subst hv
  have hk : k ≤ l.length := by omega
  have h1 : ¬ (1048576 : Int) < (l.length : Int) := by omega
  have h2 : (l.length : Int) ≤ 1048576 := by omega
  have h3 : ¬ (k : Int) < 0 := by omega
  have h4 : decide ((k : Int) < 0) = false := by rw [decide_eq_false_iff_not]; omega
  have h5 : (k : Int) ≤ (l.length : Int) := by omega
  have h6 : ¬ (l.length : Int) < (k : Int) := by omega
  have hl : l.length ≤ 4194304 := by omega
  have HS : Hid (Src w (.slice a l.length cap) l) := hs
  clear hs
  have HX : Hid (l.getD k 0 = x) := hx
  clear hx
  rcases hb with rfl | rfl | rfl
  · go_enter Try.func7, Try.ntmps7
    go_wp2_with (go_at_call 21; refine (bytes21_le _ _ _ _ _ h).mono ?_; rintro e w' ⟨rfl, rfl⟩)
    go_wp2_with (go_at_call 9; refine (clone_any _ l _ HS.out hl).mono ?_; rintro e w1 ⟨v1, rfl, hown, hb1⟩; obtain ⟨ao, cap1, rfl⟩ := own_shape hown; have HB : Hid (Bytes w1 (.slice ao l.length cap1) l) := own_data hown (Nat.le_refl _); clear hown)
    go_wp2_with (go_at_call 12; refine (zzSkipString_any _ l k w1 HB.out hk hl).mono ?_; rintro e w2 ⟨j1, hj1, hj2, rfl, hb2⟩; have q1 : decide ((j1 : Int) ≤ (k : Int)) = false := (by rw [decide_eq_false_iff_not]; omega); have q2 : decide ((l.length : Int) + 1 < (j1 : Int)) = false := (by rw [decide_eq_false_iff_not]; omega); have HB2 : Hid (Bytes w2 (.slice ao l.length cap1) l) := HB.out.below hb2)
    go_wp2_with (go_at_call 15; refine (zzSkipValue_any _ l k w2 HB2.out hk hl).mono ?_; rintro e w3 ⟨j2, hj3, hj4, hj5, rfl, hb3⟩; have q3 : decide ((j2 : Int) < (k : Int)) = false := (by rw [decide_eq_false_iff_not]; omega); have q4 : decide ((l.length : Int) + 1 < (j2 : Int)) = false := (by rw [decide_eq_false_iff_not]; omega); have HB3 : Hid (Bytes w3 (.slice ao l.length cap1) l) := HB2.out.below hb3; have r5 : (j2 ≤ k) = False := (eq_false (by have := hj5 (by rw [HX.out]; omega); omega)); obtain ⟨g, rfl, hc⟩ := HB3.out.row hlt; rw [HX.out] at hc; clear hj5)
    go_at_call 20
    refine (zzMore_any _ l k w3 HB3.out hk hl).mono ?_
    rintro e w4 ⟨b, j3, m1, m2, m3, m4, rfl, hb4⟩
    have q6 : decide ((j3 : Int) < (k : Int)) = false := (by rw [decide_eq_false_iff_not]; omega)
    have q7 : decide ((l.length : Int) + 1 < (j3 : Int)) = false := (by rw [decide_eq_false_iff_not]; omega)
    have r6 : (j3 < k) = False := eq_false (by omega)
    have hb : Hid (Below w'.heap.size w' w4) := ((hb1.trans (hb2.mono hb1.size)).trans (hb3.mono (Nat.le_trans hb1.size hb2.size))).trans (hb4.mono (Nat.le_trans (Nat.le_trans hb1.size hb2.size) hb3.size))
    clear hb1 hb2 hb3 hb4 HB HB2 HB3 HS
    cases b
    · have m4' := m4 rfl
      have r7 : (j3 ≤ k) = False := eq_false (by omega)
      clear m3 m4
      go_wp2
      go_ret
      exact ⟨rfl, hb.out⟩
    · have m3' := m3 rfl
      have r7 : (l.length < j3) = False := eq_false (by omega)
      clear m3 m4
      go_wp2
      go_ret
      exact ⟨rfl, hb.out⟩
  · go_enter Try.func7, Try.ntmps7
    go_wp2_with (go_at_call 21; refine (bytes21_le _ _ _ _ _ h).mono ?_; rintro e w' ⟨rfl, rfl⟩)
    go_wp2_with (go_at_call 9; refine (clone_any _ l _ HS.out hl).mono ?_; rintro e w1 ⟨v1, rfl, hown, hb1⟩; obtain ⟨ao, cap1, rfl⟩ := own_shape hown; have HB : Hid (Bytes w1 (.slice ao l.length cap1) l) := own_data hown (Nat.le_refl _); clear hown)
    go_wp2_with (go_at_call 12; refine (zzSkipString_any _ l k w1 HB.out hk hl).mono ?_; rintro e w2 ⟨j1, hj1, hj2, rfl, hb2⟩; have q1 : decide ((j1 : Int) ≤ (k : Int)) = false := (by rw [decide_eq_false_iff_not]; omega); have q2 : decide ((l.length : Int) + 1 < (j1 : Int)) = false := (by rw [decide_eq_false_iff_not]; omega); have HB2 : Hid (Bytes w2 (.slice ao l.length cap1) l) := HB.out.below hb2)
    go_wp2_with (go_at_call 15; refine (zzSkipValue_any _ l k w2 HB2.out hk hl).mono ?_; rintro e w3 ⟨j2, hj3, hj4, hj5, rfl, hb3⟩; have q3 : decide ((j2 : Int) < (k : Int)) = false := (by rw [decide_eq_false_iff_not]; omega); have q4 : decide ((l.length : Int) + 1 < (j2 : Int)) = false := (by rw [decide_eq_false_iff_not]; omega); have HB3 : Hid (Bytes w3 (.slice ao l.length cap1) l) := HB2.out.below hb3; have r5 : (j2 ≤ k) = False := (eq_false (by have := hj5 (by rw [HX.out]; omega); omega)); obtain ⟨g, rfl, hc⟩ := HB3.out.row hlt; rw [HX.out] at hc; clear hj5)
    go_at_call 20
    refine (zzMore_any _ l k w3 HB3.out hk hl).mono ?_
    rintro e w4 ⟨b, j3, m1, m2, m3, m4, rfl, hb4⟩
    have q6 : decide ((j3 : Int) < (k : Int)) = false := (by rw [decide_eq_false_iff_not]; omega)
    have q7 : decide ((l.length : Int) + 1 < (j3 : Int)) = false := (by rw [decide_eq_false_iff_not]; omega)
    have r6 : (j3 < k) = False := eq_false (by omega)
    have hb : Hid (Below w'.heap.size w' w4) := ((hb1.trans (hb2.mono hb1.size)).trans (hb3.mono (Nat.le_trans hb1.size hb2.size))).trans (hb4.mono (Nat.le_trans (Nat.le_trans hb1.size hb2.size) hb3.size))
    clear hb1 hb2 hb3 hb4 HB HB2 HB3 HS
    cases b
    · have m4' := m4 rfl
      have r7 : (j3 ≤ k) = False := eq_false (by omega)
      clear m3 m4
      go_wp2
      go_ret
      exact ⟨rfl, hb.out⟩
    · have m3' := m3 rfl
      have r7 : (l.length < j3) = False := eq_false (by omega)
      clear m3 m4
      go_wp2
      go_ret
      exact ⟨rfl, hb.out⟩
  · go_enter Try.func7, Try.ntmps7
    go_wp2_with (go_at_call 21; refine (bytes21_le _ _ _ _ _ h).mono ?_; rintro e w' ⟨rfl, rfl⟩)
    go_wp2_with (go_at_call 9; refine (clone_any _ l _ HS.out hl).mono ?_; rintro e w1 ⟨v1, rfl, hown, hb1⟩; obtain ⟨ao, cap1, rfl⟩ := own_shape hown; have HB : Hid (Bytes w1 (.slice ao l.length cap1) l) := own_data hown (Nat.le_refl _); clear hown)
    go_wp2_with (go_at_call 12; refine (zzSkipString_any _ l k w1 HB.out hk hl).mono ?_; rintro e w2 ⟨j1, hj1, hj2, rfl, hb2⟩; have q1 : decide ((j1 : Int) ≤ (k : Int)) = false := (by rw [decide_eq_false_iff_not]; omega); have q2 : decide ((l.length : Int) + 1 < (j1 : Int)) = false := (by rw [decide_eq_false_iff_not]; omega); have HB2 : Hid (Bytes w2 (.slice ao l.length cap1) l) := HB.out.below hb2)
    go_wp2_with (go_at_call 15; refine (zzSkipValue_any _ l k w2 HB2.out hk hl).mono ?_; rintro e w3 ⟨j2, hj3, hj4, hj5, rfl, hb3⟩; have q3 : decide ((j2 : Int) < (k : Int)) = false := (by rw [decide_eq_false_iff_not]; omega); have q4 : decide ((l.length : Int) + 1 < (j2 : Int)) = false := (by rw [decide_eq_false_iff_not]; omega); have HB3 : Hid (Bytes w3 (.slice ao l.length cap1) l) := HB2.out.below hb3; have r5 : (j2 ≤ k) = False := (eq_false (by have := hj5 (by rw [HX.out]; omega); omega)); obtain ⟨g, rfl, hc⟩ := HB3.out.row hlt; rw [HX.out] at hc; clear hj5)
    go_at_call 20
    refine (zzMore_any _ l k w3 HB3.out hk hl).mono ?_
    rintro e w4 ⟨b, j3, m1, m2, m3, m4, rfl, hb4⟩
    have q6 : decide ((j3 : Int) < (k : Int)) = false := (by rw [decide_eq_false_iff_not]; omega)
    have q7 : decide ((l.length : Int) + 1 < (j3 : Int)) = false := (by rw [decide_eq_false_iff_not]; omega)
    have r6 : (j3 < k) = False := eq_false (by omega)
    have hb : Hid (Below w'.heap.size w' w4) := ((hb1.trans (hb2.mono hb1.size)).trans (hb3.mono (Nat.le_trans hb1.size hb2.size))).trans (hb4.mono (Nat.le_trans (Nat.le_trans hb1.size hb2.size) hb3.size))
    clear hb1 hb2 hb3 hb4 HB HB2 HB3 HS
    cases b
    · have m4' := m4 rfl
      have r7 : (j3 ≤ k) = False := eq_false (by omega)
      clear m3 m4
      go_wp2
      go_ret
      exact ⟨rfl, hb.out⟩
    · have m3' := m3 rfl
      have r7 : (l.length < j3) = False := eq_false (by omega)
      clear m3 m4
      go_wp2
      go_ret
      exact ⟨rfl, hb.out⟩

/-- FnScanStepsStayWithinTheData at every slice of bytes that came in and every offset. -/
theorem steps_any (a : Option Addr) (cap : Nat) (l : List Int) (z : Int) (w : World) (hs : Src w (.slice a l.length cap) l) :
    Calls Try.prog 7 #[.slice a l.length cap, .int .i64 z] w fun e w' => e = .returned (.bool true) ∧ Below w.heap.size w w' := by
  by_cases h : l.length ≤ 1048576
  · by_cases hz : z < 0 ∨ (l.length : Int) < z
    · exact steps_off a l.length cap z w h hz
    · obtain ⟨k, rfl⟩ : ∃ k : Nat, z = k := ⟨z.toNat, by omega⟩
      by_cases hlt : k < l.length
      · by_cases hb : l.getD k 0 = 34 ∨ l.getD k 0 = 123 ∨ l.getD k 0 = 91
        · exact steps_box _ a cap l k w rfl hs h hlt _ rfl hb
        · exact steps_bare _ a cap l k w rfl hs h hlt _ rfl (by rw [beq_eq_false_iff_ne]; omega) (by rw [beq_eq_false_iff_ne]; omega) (by rw [beq_eq_false_iff_ne]; omega)
      · exact steps_end _ a cap l k w rfl hs h (by omega) (by omega)
  · exact steps_big a l.length cap z w h
end Go.Proofs.Qxb6001517a
