import Derived.Test.Qxb6001517aClone
namespace Go.Proofs.Qxb6001517a
open Go.RowKit

/-- The seven stop bytes. -/
def stopB (c : Int) : Bool := c == 44 || c == 93 || c == 125 || c == 32 || c == 9 || c == 10 || c == 13

theorem stop_kinds (c : Int) : ((c = 44 ∨ c = 93 ∨ c = 125 ∨ c = 32 ∨ c = 9 ∨ c = 10 ∨ c = 13) ∧ stopB c = true) ∨ ((c == 44) = false ∧ (c == 93) = false ∧ (c == 125) = false ∧ (c == 32) = false ∧ (c == 9) = false ∧ (c == 10) = false ∧ (c == 13) = false ∧ stopB c = false) := by
  by_cases h : c = 44 ∨ c = 93 ∨ c = 125 ∨ c = 32 ∨ c = 9 ∨ c = 10 ∨ c = 13
  · refine .inl ⟨h, ?_⟩
    rcases h with rfl | rfl | rfl | rfl | rfl | rfl | rfl <;> rfl
  · have h1 : (c == 44) = false := by rw [beq_eq_false_iff_ne]; omega
    have h2 : (c == 93) = false := by rw [beq_eq_false_iff_ne]; omega
    have h3 : (c == 125) = false := by rw [beq_eq_false_iff_ne]; omega
    have h4 : (c == 32) = false := by rw [beq_eq_false_iff_ne]; omega
    have h5 : (c == 9) = false := by rw [beq_eq_false_iff_ne]; omega
    have h6 : (c == 10) = false := by rw [beq_eq_false_iff_ne]; omega
    have h7 : (c == 13) = false := by rw [beq_eq_false_iff_ne]; omega
    exact .inr ⟨h1, h2, h3, h4, h5, h6, h7, by simp only [stopB, h1, h2, h3, h4, h5, h6, h7]; rfl⟩

set_option maxHeartbeats 400000 in
theorem isStop_any (c : Int) (w : World) : Calls Try.prog 17 #[.int .u8 c] w fun e w' => e = .returned (.bool (stopB c)) ∧ w = w' := by
  rcases stop_kinds c with ⟨h, hs⟩ | ⟨h1, h2, h3, h4, h5, h6, h7, hs⟩
  · rw [hs]
    clear hs
    rcases h with rfl | rfl | rfl | rfl | rfl | rfl | rfl
    all_goals
      go_enter Try.func17, Try.ntmps17
      go_wp2
      go_ret
      exact ⟨rfl, rfl⟩
  · rw [hs]
    clear hs
    go_enter Try.func17, Try.ntmps17
    go_wp2
    go_ret
    exact ⟨rfl, rfl⟩

theorem stop_all : ∀ n : Fin 256, (stopB (n.val : Int) = decide (0 ≤ ixOf [44, 93, 125, 32, 9, 10, 13] (n.val : Int))) := by decide +kernel

theorem stop_ix (c : Int) (h0 : 0 ≤ c) (h1 : c < 256) : stopB c = decide (0 ≤ ixOf [44, 93, 125, 32, 9, 10, 13] c) := by
  obtain ⟨n, rfl⟩ : ∃ n : Nat, c = n := ⟨c.toNat, by omega⟩
  exact stop_all ⟨n, by omega⟩

set_option maxHeartbeats 400000 in
theorem bytes16_le (a0 a1 a3 : Option Addr) (n0 n1 n3 c0 c1 c3 : Nat) (z : Int) (w : World) (h0 : n0 ≤ 65536) (h1 : n1 ≤ 65536) (h3 : n3 ≤ 65536) :
    Calls Try.prog 16 #[.slice a0 n0 c0, .slice a1 n1 c1, .int .u8 z, .slice a3 n3 c3] w fun e w' => e = .returned (.bool true) ∧ w = w' := by
  have k0 : decide ((1048576 : Int) < (n0 : Int)) = false := by rw [decide_eq_false_iff_not]; omega
  have k1 : decide ((1048576 : Int) < (n1 : Int)) = false := by rw [decide_eq_false_iff_not]; omega
  have k3 : decide ((1048576 : Int) < (n3 : Int)) = false := by rw [decide_eq_false_iff_not]; omega
  have k4 : decide ((1048576 : Int) < (n0 : Int) + (n1 : Int)) = false := by rw [decide_eq_false_iff_not]; omega
  have k5 : decide ((1048576 : Int) < (n0 : Int) + (n1 : Int) + (n3 : Int)) = false := by rw [decide_eq_false_iff_not]; omega
  have j0 : (n0 : Int) ≤ 1048576 := by omega
  have j1 : (n1 : Int) ≤ 1048576 := by omega
  have j3 : (n3 : Int) ≤ 1048576 := by omega
  have j4 : (n0 : Int) + (n1 : Int) ≤ 1048576 := by omega
  have j5 : (n0 : Int) + (n1 : Int) + (n3 : Int) ≤ 1048576 := by omega
  go_enter Try.func16, Try.ntmps16
  go_wp2
  go_ret
  exact ⟨rfl, rfl⟩

/-- Some bool. -/
def SomeBool (e : Ending) : Prop := ∃ b, e = .returned (.bool b)

set_option maxHeartbeats 1000000 in
theorem bytes16_any (a0 a1 a3 : Option Addr) (n0 n1 n3 c0 c1 c3 : Nat) (z : Int) (w : World) :
    Calls Try.prog 16 #[.slice a0 n0 c0, .slice a1 n1 c1, .int .u8 z, .slice a3 n3 c3] w fun e w' => SomeBool e ∧ w = w' := by
  go_enter Try.func16, Try.ntmps16
  go_wp2
  all_goals
    go_ret
    exact ⟨⟨_, rfl⟩, rfl⟩

section
variable (a0 a1 a3 : Option Addr) (n0 n1 n3 c0 c1 c3 : Nat) (z : Int) (w : World)

set_option maxHeartbeats 1000000 in
theorem bare_long (h : 65536 < n0 ∨ 65536 < n1 ∨ 65536 < n3) :
    Calls Try.prog 5 #[.slice a0 n0 c0, .slice a1 n1 c1, .int .u8 z, .slice a3 n3 c3] w fun e w' => e = .returned (.bool true) ∧ Below w.heap.size w w' := by
  by_cases h0 : 65536 < n0
  · have k0 : decide ((65536 : Int) < (n0 : Int)) = true := by rw [decide_eq_true_iff]; omega
    clear h
    go_enter Try.func5, Try.ntmps5
    go_wp2_with (go_at_call 16; refine (bytes16_any _ _ _ _ _ _ _ _ _ _ _).mono ?_; rintro e w' ⟨⟨b, rfl⟩, rfl⟩; cases b)
    all_goals
      go_ret
      exact ⟨rfl, Below.refl _ _⟩
  by_cases h1 : 65536 < n1
  · have k0 : decide ((65536 : Int) < (n0 : Int)) = false := by rw [decide_eq_false_iff_not]; omega
    have k1 : decide ((65536 : Int) < (n1 : Int)) = true := by rw [decide_eq_true_iff]; omega
    clear h
    go_enter Try.func5, Try.ntmps5
    go_wp2_with (go_at_call 16; refine (bytes16_any _ _ _ _ _ _ _ _ _ _ _).mono ?_; rintro e w' ⟨⟨b, rfl⟩, rfl⟩; cases b)
    all_goals
      go_ret
      exact ⟨rfl, Below.refl _ _⟩
  · have k0 : decide ((65536 : Int) < (n0 : Int)) = false := by rw [decide_eq_false_iff_not]; omega
    have k1 : decide ((65536 : Int) < (n1 : Int)) = false := by rw [decide_eq_false_iff_not]; omega
    have k3 : decide ((65536 : Int) < (n3 : Int)) = true := by rw [decide_eq_true_iff]; omega
    clear h
    go_enter Try.func5, Try.ntmps5
    go_wp2_with (go_at_call 16; refine (bytes16_any _ _ _ _ _ _ _ _ _ _ _).mono ?_; rintro e w' ⟨⟨b, rfl⟩, rfl⟩; cases b)
    all_goals
      go_ret
      exact ⟨rfl, Below.refl _ _⟩

set_option maxHeartbeats 1000000 in
theorem bare_empty (h0 : n0 ≤ 65536) (h3 : n3 ≤ 65536) :
    Calls Try.prog 5 #[.slice a0 n0 c0, .slice a1 0 c1, .int .u8 z, .slice a3 n3 c3] w fun e w' => e = .returned (.bool true) ∧ Below w.heap.size w w' := by
  have k0 : decide ((65536 : Int) < (n0 : Int)) = false := by rw [decide_eq_false_iff_not]; omega
  have k3 : decide ((65536 : Int) < (n3 : Int)) = false := by rw [decide_eq_false_iff_not]; omega
  have k4 : decide ((1048576 : Int) < (n0 : Int) + (n3 : Int) + 1) = false := by rw [decide_eq_false_iff_not]; omega
  go_enter Try.func5, Try.ntmps5
  go_wp2_with (go_at_call 16; refine (bytes16_le _ _ _ _ _ _ _ _ _ _ _ h0 (by omega) h3).mono ?_; rintro e w' ⟨rfl, rfl⟩)
  go_ret
  exact ⟨rfl, Below.refl _ _⟩

set_option maxHeartbeats 1000000 in
theorem bare_first (x : Addr) (t : Int) (hc : w.cell? (x.add 0) = some (.int .u8 t)) (ht : t = 34 ∨ t = 123 ∨ t = 91) (hn : 0 < n1) (h0 : n0 ≤ 65536) (h1 : n1 ≤ 65536) (h3 : n3 ≤ 65536) :
    Calls Try.prog 5 #[.slice a0 n0 c0, .slice (some x) n1 c1, .int .u8 z, .slice a3 n3 c3] w fun e w' => e = .returned (.bool true) ∧ Below w.heap.size w w' := by
  have k0 : decide ((65536 : Int) < (n0 : Int)) = false := by rw [decide_eq_false_iff_not]; omega
  have k1 : decide ((65536 : Int) < (n1 : Int)) = false := by rw [decide_eq_false_iff_not]; omega
  have k3 : decide ((65536 : Int) < (n3 : Int)) = false := by rw [decide_eq_false_iff_not]; omega
  have k4 : decide ((1048576 : Int) < (n0 : Int) + (n1 : Int) + (n3 : Int) + 1) = false := by rw [decide_eq_false_iff_not]; omega
  have e0 : ((n1 : Int) == 0) = false := by rw [beq_eq_false_iff_ne]; omega
  have i0 : (0 : Int) < (n1 : Int) := by omega
  have hx : x.add 0 = x := by unfold Addr.add; split <;> simp_all
  rw [hx] at hc
  clear hx
  rcases ht with rfl | rfl | rfl
  all_goals
    go_enter Try.func5, Try.ntmps5
    go_wp2_with (go_at_call 16; refine (bytes16_le _ _ _ _ _ _ _ _ _ _ _ h0 h1 h3).mono ?_; rintro e w' ⟨rfl, rfl⟩)
    go_ret
    exact ⟨rfl, Below.refl _ _⟩

set_option maxHeartbeats 1000000 in
theorem bare_nostop (x : Addr) (t : Int) (hc : w.cell? (x.add 0) = some (.int .u8 t)) (t1 : (t == 34) = false) (t2 : (t == 123) = false) (t3 : (t == 91) = false) (hz : stopB z = false) (hn : 0 < n1) (h0 : n0 ≤ 65536) (h1 : n1 ≤ 65536) (h3 : n3 ≤ 65536) :
    Calls Try.prog 5 #[.slice a0 n0 c0, .slice (some x) n1 c1, .int .u8 z, .slice a3 n3 c3] w fun e w' => e = .returned (.bool true) ∧ Below w.heap.size w w' := by
  have k0 : decide ((65536 : Int) < (n0 : Int)) = false := by rw [decide_eq_false_iff_not]; omega
  have k1 : decide ((65536 : Int) < (n1 : Int)) = false := by rw [decide_eq_false_iff_not]; omega
  have k3 : decide ((65536 : Int) < (n3 : Int)) = false := by rw [decide_eq_false_iff_not]; omega
  have k4 : decide ((1048576 : Int) < (n0 : Int) + (n1 : Int) + (n3 : Int) + 1) = false := by rw [decide_eq_false_iff_not]; omega
  have e0 : ((n1 : Int) == 0) = false := by rw [beq_eq_false_iff_ne]; omega
  have i0 : (0 : Int) < (n1 : Int) := by omega
  have hx : x.add 0 = x := by unfold Addr.add; split <;> simp_all
  rw [hx] at hc
  clear hx
  go_enter Try.func5, Try.ntmps5
  go_wp2_with (go_at_call 16; refine (bytes16_le _ _ _ _ _ _ _ _ _ _ _ h0 h1 h3).mono ?_; rintro e w' ⟨rfl, rfl⟩)
  go_wp2_with (go_at_call 17; refine (isStop_any z _).mono ?_; rintro e w' ⟨rfl, rfl⟩)
  go_ret
  exact ⟨rfl, Below.refl _ _⟩
end

theorem Src.below {W W' : World} {v : Value} {l : List Int} (h : Src W v l) (hb : Below W.heap.size W W') : Src W' v l := by
  rcases h with h | ⟨x, cap, hv, hl, hc⟩
  · exact .inl h
  · exact .inr ⟨x, cap, hv, hl, fun i hi => by rw [hb.cell (lt_of_cell (hc i hi))]; exact hc i hi⟩

theorem Src.shape {W : World} {v : Value} {l : List Int} (h : Src W v l) : ∃ a cap, v = .slice a l.length cap := by
  rcases h with ⟨rfl, rfl⟩ | ⟨x, cap, hv, _, _⟩
  · exact ⟨none, 0, rfl⟩
  · exact ⟨_, cap, hv⟩

theorem own_shape {W : World} {B : Nat} {v : Value} {n : Nat} {xs : List Value} (h : W.ownsRow B 5 1 v n xs) : ∃ ao cap, v = .slice ao n cap := by
  rcases h.2 with ⟨hv, h0⟩ | ⟨g, cap, cur, hv, _⟩
  · exact ⟨_, 0, by rw [hv, h0]⟩
  · exact ⟨_, _, hv⟩

/-- skipValue from the token's first byte, over what lies ahead of the token, the token and what follows. -/
theorem skip_at (B : Nat) (v : Value) (l0 l1 r : List Int) (n m : Nat) (w : World) (h : w.ownsRow B 5 1 v n (cellsOf l0 ++ cellsOf l1 ++ cellsOf r)) (hn : n = l0.length + l1.length + r.length) (hm : l0.length + l1.length = m) (hl : n ≤ 4194304) (hne : 0 < l1.length)
    (t1 : (l1.getD 0 0 == 34) = false) (t2 : (l1.getD 0 0 == 123) = false) (t3 : (l1.getD 0 0 == 91) = false)
    (hno : ∀ i, i < l1.length → ixOf [44, 93, 125, 32, 9, 10, 13] (l1.getD i 0) < 0) (hyes : 0 < r.length → 0 ≤ ixOf [44, 93, 125, 32, 9, 10, 13] (r.getD 0 0)) :
    Calls Try.prog 15 #[v, .int .i64 l0.length] w fun e w' => e = .returned (.int .i64 m) ∧ Below w.heap.size w w' := by
  have hlen : (l0 ++ l1 ++ r).length = n := by simp only [List.length_append]; omega
  have hd : Bytes w v (l0 ++ l1 ++ r) := by
    refine own_data (B := B) ?_ (Nat.le_refl _)
    rw [hlen, cellsOf_append, cellsOf_append]
    exact h
  have hget : ∀ i, l0.length ≤ i → i < m → (l0 ++ l1 ++ r).getD i 0 = l1.getD (i - l0.length) 0 := by
    intro i h1 h2
    simp only [List.getD_eq_getElem?_getD]
    rw [List.getElem?_append_left (by rw [List.length_append]; omega), List.getElem?_append_right h1]
  refine zzSkipValue_bare v (l0 ++ l1 ++ r) l0.length m w hd (by omega) (by omega) (by omega) (l1.getD 0 0) ?_ t1 t2 t3 ?_ ?_
  · rw [hget _ (Nat.le_refl _) (by omega), Nat.sub_self]
  · intro i h1 h2
    rw [hget i h1 h2]
    exact hno _ (by omega)
  · intro hlt
    have : (l0 ++ l1 ++ r).getD m 0 = r.getD 0 0 := by
      simp only [List.getD_eq_getElem?_getD]
      rw [List.getElem?_append_right (by rw [List.length_append]; omega), List.length_append, hm, Nat.sub_self]
    rw [this]
    exact hyes (by omega)

set_option maxHeartbeats 1000000 in
theorem bare_main (a0 a3 : Option Addr) (c0 c1 c3 : Nat) (l0 l1 l3 : List Int) (z : Int) (w : World) (x : Addr) (s0 : Src w (.slice a0 l0.length c0) l0) (s1 : Src w (.slice (some x) l1.length c1) l1) (s3 : Src w (.slice a3 l3.length c3) l3)
    (hcx : ∀ i, i < l1.length → w.cell? (x.add i) = some (.int .u8 (l1.getD i 0))) (hw : ∀ i, i < l1.length → 0 ≤ l1.getD i 0 ∧ l1.getD i 0 < 256)
    (t : Int) (htt : l1.getD 0 0 = t) (t1 : (t == 34) = false) (t2 : (t == 123) = false) (t3 : (t == 91) = false) (hz : stopB z = true) (hzw : 0 ≤ z ∧ z < 256) (hn : 0 < l1.length) (h0 : l0.length ≤ 65536) (h1 : l1.length ≤ 65536) (h3 : l3.length ≤ 65536) :
    Calls Try.prog 5 #[.slice a0 l0.length c0, .slice (some x) l1.length c1, .int .u8 z, .slice a3 l3.length c3] w fun e w' => e = .returned (.bool true) ∧ Below w.heap.size w w' := by
  have hc := hcx 0 hn
  rw [htt] at hc
  have HT : Hid (l1.getD 0 0 = t) := htt
  have HC : Hid (∀ i, i < l1.length → w.cell? (x.add i) = some (.int .u8 (l1.getD i 0))) := hcx
  have HW : Hid (∀ i, i < l1.length → 0 ≤ l1.getD i 0 ∧ l1.getD i 0 < 256) := hw
  have HZ : Hid (0 ≤ z ∧ z < 256) := hzw
  have S0 : Hid (Src w (.slice a0 l0.length c0) l0) := s0
  have S1 : Hid (Src w (.slice (some x) l1.length c1) l1) := s1
  have S3 : Hid (Src w (.slice a3 l3.length c3) l3) := s3
  clear htt hcx hw hzw s0 s1 s3
  obtain ⟨i0, hi, hz0, hz1, hz2⟩ := info_parts infoByte
  have k0 : decide ((65536 : Int) < (l0.length : Int)) = false := by rw [decide_eq_false_iff_not]; omega
  have k1 : decide ((65536 : Int) < (l1.length : Int)) = false := by rw [decide_eq_false_iff_not]; omega
  have k3 : decide ((65536 : Int) < (l3.length : Int)) = false := by rw [decide_eq_false_iff_not]; omega
  have k4 : decide ((1048576 : Int) < (l0.length : Int) + (l1.length : Int) + (l3.length : Int) + 1) = false := by rw [decide_eq_false_iff_not]; omega
  have e0 : ((l1.length : Int) == 0) = false := by rw [beq_eq_false_iff_ne]; omega
  have ii0 : (0 : Int) < (l1.length : Int) := by omega
  have hx : x.add 0 = x := by unfold Addr.add; split <;> simp_all
  rw [hx] at hc
  clear hx
  go_enter Try.func5, Try.ntmps5
  go_wp2_with (go_at_call 16; refine (bytes16_le _ _ _ _ _ _ _ _ _ _ _ h0 h1 h3).mono ?_; rintro e w' ⟨rfl, rfl⟩)
  go_wp2_with (go_at_call 17; refine (isStop_any z _).mono ?_; rintro e w' ⟨rfl, rfl⟩)
  go_loopw [9] (fun i wr => ∃ k : Nat, k ≤ l1.length ∧ i = .int .i64 k ∧ (∀ j, j < k → stopB (l1.getD j 0) = false) ∧ w = wr) (fun i _ => l1.length - (intOf i).toNat)
  case atStart => exact ⟨0, Nat.zero_le _, rfl, fun j hj => by omega, rfl⟩
  case round =>
    obtain ⟨k, hk, rfl, hno, rfl⟩ := hrel
    have HNO : Hid (∀ j, j < k → stopB (l1.getD j 0) = false) := hno
    clear hno hc
    by_cases hlt : k < l1.length
    · obtain ⟨u, hu⟩ : ∃ u, l1.getD k 0 = u := ⟨_, rfl⟩
      have hcell := HC.out k hlt
      rw [hu] at hcell
      have HU : Hid (l1.getD k 0 = u) := hu
      clear hu
      cases hst : stopB u
      · go_wp2_with (go_at_call 17; refine (isStop_any u _).mono ?_; rintro e w' ⟨rfl, rfl⟩)
        go_roundw
        case rel =>
          refine ⟨k + 1, by omega, by go_num, fun j hj => ?_, by first | rfl | trivial⟩
          by_cases hjk : j = k
          · subst hjk; rw [HU.out]; exact hst
          · exact HNO.out j (by omega)
        case measure => simp [intOf]; omega
      · go_wp2_with (go_at_call 17; refine (isStop_any u _).mono ?_; rintro e w' ⟨rfl, rfl⟩)
        go_ret
        exact ⟨rfl, Below.refl _ _⟩
    · obtain rfl : k = l1.length := by omega
      clear hk hlt HC ii0
      obtain ⟨m, hm⟩ : ∃ m, l0.length + l1.length = m := ⟨_, rfl⟩
      have HM : Hid (l0.length + l1.length = m) := hm
      have hm' : m ≤ 131072 := by omega
      clear hm
      go_wp2_with (fail)
      go_at_call 9
      refine (clone_any _ l0 w S0.out (by omega)).mono ?_
      rintro e w1 ⟨v0, rfl, o0, b1⟩
      obtain ⟨ao0, cp0, rfl⟩ := own_shape o0
      have O0 : Hid (w1.ownsRow w.heap.size 5 1 (.slice ao0 l0.length cp0) l0.length (cellsOf l0)) := o0
      clear o0
      go_wp2_with (fail)
      go_at_call 9
      refine (clone_any _ l1 w1 (S1.out.below b1) (by omega)).mono ?_
      rintro e w2 ⟨v1, rfl, o1, b2⟩
      obtain ⟨ao1, cp1, rfl⟩ := own_shape o1
      have O1 : Hid (w2.ownsRow w1.heap.size 5 1 (.slice ao1 l1.length cp1) l1.length (cellsOf l1)) := o1
      clear o1
      go_wp2_with (fail)
      go_at_call 9
      refine (clone_any _ l3 w2 ((S3.out.below b1).below b2) (by omega)).mono ?_
      rintro e w3 ⟨v3, rfl, o3, b3⟩
      obtain ⟨ao3, cp3, rfl⟩ := own_shape o3
      have O3 : Hid (w3.ownsRow w2.heap.size 5 1 (.slice ao3 l3.length cp3) l3.length (cellsOf l3)) := o3
      clear o3
      go_wp2_with (at_make; refine wpList_make_own _ rfl _ _ 22 rfl w3.heap.size 5 i0 (.int .u8 0) 1 Try.underlying22 hi hz0 hz1 _ _ _ (l0.length + l1.length + l3.length + 1) rfl rfl (by omega) (by rw [hz2]; omega) (by unfold maxLen; omega) (Nat.le_refl _) ?_; intro w4 o4 g4)
      have b4 : Below w3.heap.size w3 w4 := (Below.refl _ _).grown g4 (Nat.le_refl _) (fun k hk => by cases hk)
      have D0 : Hid (Data w3.heap.size w4 (.slice ao0 l0.length cp0) l0) := (own_data (own_below (own_below O0.out b2) b3) (Nat.le_refl _)).below b4
      have D1 : Hid (Data w3.heap.size w4 (.slice ao1 l1.length cp1) l1) := (own_data (own_below O1.out b3) (Nat.le_refl _)).below b4
      have D3 : Hid (Data w3.heap.size w4 (.slice ao3 l3.length cp3) l3) := (own_data O3.out (Nat.le_refl _)).below b4
      have sB : w.heap.size ≤ w3.heap.size := Nat.le_trans (Nat.le_trans b1.size b2.size) b3.size
      have BB4 : Hid (Below w.heap.size w w4) := ((b1.trans (b2.mono b1.size)).trans (b3.mono (Nat.le_trans b1.size b2.size))).trans (b4.mono sB)
      have s4 := b4.size
      have O4 : Hid (w4.ownsRow w3.heap.size 5 1 (.slice (some ⟨w3.heap.size, 0, none⟩) 0 (l0.length + l1.length + l3.length + 1)) 0 []) := o4
      clear O0 O1 O3 b1 b2 b3 b4 g4 o4 S0 S1 S3
      refine (append_any w3.heap.size _ 0 [] _ l0 w4 O4.out D0.out s4 (by omega) (by omega)).mono ?_
      rintro e w5 ⟨v5, rfl, o5, b5⟩
      rw [Nat.zero_add, List.nil_append] at o5
      obtain ⟨ao5, cp5, rfl⟩ := own_shape o5
      have O5 : Hid (w5.ownsRow w3.heap.size 5 1 (.slice ao5 l0.length cp5) l0.length (cellsOf l0)) := o5
      have s5 := b5.size
      clear o5 O4
      go_wp2_with (fail)
      go_at_call 10
      refine (append_any w3.heap.size _ l0.length (cellsOf l0) _ l1 w5 O5.out (D1.out.below b5) (by omega) (by omega) (by omega)).mono ?_
      rintro e w6 ⟨v6, rfl, o6, b6⟩
      rw [HM.out] at o6
      obtain ⟨ao6, cp6, rfl⟩ := own_shape o6
      have O6 : Hid (w6.ownsRow w3.heap.size 5 1 (.slice ao6 m cp6) m (cellsOf l0 ++ cellsOf l1)) := o6
      have s6 := b6.size
      clear o6 O5
      have HNI : Hid (∀ i, i < l1.length → ixOf [44, 93, 125, 32, 9, 10, 13] (l1.getD i 0) < 0) := by
        intro i hi
        have h1 := HNO.out i hi
        have h2 := HW.out i hi
        rw [stop_ix _ h2.1 h2.2, decide_eq_false_iff_not] at h1
        omega
      go_wp2_with (fail)
      go_at_call 15
      refine (skip_at w3.heap.size _ l0 l1 [] m m w6 (by simpa [cellsOf] using O6.out) HM.out.symm HM.out (by omega) hn (by rw [HT.out]; exact t1) (by rw [HT.out]; exact t2) (by rw [HT.out]; exact t3) HNI.out (fun h => by cases h)).mono ?_
      rintro e w7 ⟨rfl, b7⟩
      have s7 := b7.size
      have O7 : Hid (w7.ownsRow w3.heap.size 5 1 (.slice ao6 m cp6) m (cellsOf l0 ++ cellsOf l1)) := own_below O6.out b7
      go_wp2_with (at_builtin; refine wpList_append_own _ rfl _ _ 22 rfl w3.heap.size 5 i0 (.int .u8 0) 1 1 Try.underlying22 hi hz0 hz1 hz2 rfl (by decide) _ _ _ rfl (O7.out.alloc _) ⟨w7.heap.size, 0, none⟩ 1 1 [.int .u8 z] rfl rfl (one_new _ _) (one_cell _) (by unfold maxLen; omega) (by omega) (by simp; omega) ?_; intro v8 w8 o8 g8 _)
      have hB7 : w3.heap.size ≤ w7.heap.size := by omega
      have b8 : Below w3.heap.size w7 w8 := grown_app (Below.refl _ _) O7.out g8 hB7
      have s8 := b8.size
      have O8 : Hid (w8.ownsRow w3.heap.size 5 1 v8 (m + 1) (cellsOf l0 ++ cellsOf l1 ++ [.int .u8 z])) := o8
      have b58 : Below w3.heap.size w4 w8 := ((b5.trans b6).trans (b7.mono (by omega))).trans b8
      have BB8 : Hid (Below w.heap.size w w8) := BB4.out.trans (b58.mono sB)
      clear o8 g8 O6 O7 b5 b6 b7 b8
      refine (append_any w3.heap.size _ (m + 1) _ _ l3 w8 O8.out (D3.out.below b58) (by omega) (by omega) (by omega)).mono ?_
      rintro e w9 ⟨v9, rfl, o9, b9⟩
      have O9 : Hid (w9.ownsRow w3.heap.size 5 1 v9 (m + 1 + l3.length) (cellsOf l0 ++ cellsOf l1 ++ cellsOf (z :: l3))) := by
        have e : cellsOf (z :: l3) = [.int .u8 z] ++ cellsOf l3 := rfl
        rw [e, ← List.append_assoc]
        exact o9
      have s9 := b9.size
      have BB9 : Hid (Below w.heap.size w w9) := BB8.out.trans (b9.mono sB)
      clear o9 b9 b58 O8 D0 D1 D3
      go_wp2_with (fail)
      go_at_call 15
      refine (skip_at w3.heap.size _ l0 l1 (z :: l3) (m + 1 + l3.length) m w9 O9.out (by have := HM.out; simp only [List.length_cons]; omega) HM.out (by omega) hn (by rw [HT.out]; exact t1) (by rw [HT.out]; exact t2) (by rw [HT.out]; exact t3) HNI.out (fun _ => by have h1 := stop_ix z HZ.out.1 HZ.out.2; rw [hz] at h1; exact of_decide_eq_true h1.symm)).mono ?_
      rintro e w10 ⟨rfl, b10⟩
      have BB : Hid (Below w.heap.size w w10) := BB9.out.trans (b10.mono (by omega))
      clear b10
      go_wp2
      go_ret
      exact ⟨rfl, BB.out⟩

/-- FnSkipValueStopsAtTheEndOfABareToken at every three slices of bytes that came in and every byte. -/
theorem bare_any (a0 a1 a3 : Option Addr) (c0 c1 c3 : Nat) (l0 l1 l3 : List Int) (z : Int) (w : World) (s0 : Src w (.slice a0 l0.length c0) l0) (s1 : Src w (.slice a1 l1.length c1) l1) (s3 : Src w (.slice a3 l3.length c3) l3)
    (hw : ∀ i, i < l1.length → 0 ≤ l1.getD i 0 ∧ l1.getD i 0 < 256) (hzw : 0 ≤ z ∧ z < 256) :
    Calls Try.prog 5 #[.slice a0 l0.length c0, .slice a1 l1.length c1, .int .u8 z, .slice a3 l3.length c3] w fun e w' => e = .returned (.bool true) ∧ Below w.heap.size w w' := by
  by_cases hlong : 65536 < l0.length ∨ 65536 < l1.length ∨ 65536 < l3.length
  · exact bare_long _ _ _ _ _ _ _ _ _ _ _ hlong
  by_cases hn : l1.length = 0
  · rw [hn]
    exact bare_empty _ _ _ _ _ _ _ _ _ _ (by omega) (by omega)
  have s1' := s1
  rcases s1 with ⟨h, _⟩ | ⟨x, cap, he, _, hc⟩
  · rw [h] at hn; exact absurd rfl hn
  injection he with e1 e2 e3
  subst e1
  by_cases ht : l1.getD 0 0 = 34 ∨ l1.getD 0 0 = 123 ∨ l1.getD 0 0 = 91
  · exact bare_first _ _ _ _ _ _ _ _ _ _ x _ (hc 0 (by omega)) ht (by omega) (by omega) (by omega) (by omega)
  have t1 : (l1.getD 0 0 == 34) = false := by rw [beq_eq_false_iff_ne]; omega
  have t2 : (l1.getD 0 0 == 123) = false := by rw [beq_eq_false_iff_ne]; omega
  have t3 : (l1.getD 0 0 == 91) = false := by rw [beq_eq_false_iff_ne]; omega
  cases hz : stopB z
  · exact bare_nostop _ _ _ _ _ _ _ _ _ _ x _ (hc 0 (by omega)) t1 t2 t3 hz (by omega) (by omega) (by omega) (by omega)
  · exact bare_main _ _ _ _ _ l0 l1 l3 z w x s0 s1' s3 hc hw _ rfl t1 t2 t3 hz hzw (by omega) (by omega) (by omega) (by omega)
end Go.Proofs.Qxb6001517a
