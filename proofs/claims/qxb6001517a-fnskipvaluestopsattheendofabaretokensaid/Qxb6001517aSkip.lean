import Derived.Test.Qxb6001517aScan
namespace Go.Proofs.Qxb6001517a
open Go.RowKit

set_option maxHeartbeats 400000 in
theorem indexByte_in (s : ByteArray) (c : Int) (w : World) :
    Calls Try.prog 33 #[.string s, .int .u8 c] w fun e w' => e = .returned (.int .i64 (Lib.indexByte s.data.toList c.toNat.toUInt8)) ∧ w' = w := by
  go_enter Try.func33, Try.ntmps33
  go_wp2
  rw [run_callFunc_extern Try.func34 (by kernel_rfl) (by kernel_rfl) (by kernel_rfl) (e := Extern.BytealgIndexByte.indexByte) (by kernel_rfl), Lib.run_indexByteString]
  simp only [Result.andThen]
  rw [Oper.upon_value]
  go_wp2
  go_ret
  exact ⟨rfl, rfl⟩

set_option maxHeartbeats 400000 in
theorem indexByte_any (s : ByteArray) (c : Int) (w : World) :
    Calls Try.prog 31 #[.string s, .int .u8 c] w fun e w' => e = .returned (.int .i64 (Lib.indexByte s.data.toList c.toNat.toUInt8)) ∧ w' = w := by
  go_enter Try.func31, Try.ntmps31
  go_wp2_with (go_at_call 33; refine (indexByte_in _ _ _).mono ?_; rintro e w' ⟨rfl, rfl⟩)
  go_ret
  exact ⟨rfl, rfl⟩

/-- What IndexByte answers, as a name the walker does not open. -/
def ixOf (s : List UInt8) (x : Int) : Int := Lib.indexByte s x.toNat.toUInt8

set_option maxHeartbeats 1000000 in
theorem skipSpace_any (sb : Nat) (v : Value) (l : List Int) (k : Nat) (w : World) (h : Scan sb v l k w) (hk : k ≤ l.length) (hl : l.length ≤ 4194304) :
    Calls Try.prog 32 #[.pointer (some ⟨sb, 0, none⟩)] w fun e w' => e = .returned (.tuple #[]) ∧ ∃ j, k ≤ j ∧ j ≤ l.length ∧ Scan sb v l j w' ∧ Below sb w w' := by
  have HH : Hid (Scan sb v l k w) := h
  clear h
  go_enter Try.func32, Try.ntmps32
  go_wp2
  go_loopw [] (fun wr => ∃ j, k ≤ j ∧ j ≤ l.length ∧ Scan sb v l j wr ∧ Below sb w wr) (fun wr => l.length + 2 - atOf sb wr)
  case atStart => exact ⟨k, Nat.le_refl _, hk, HH.out, Below.refl _ _⟩
  case round =>
    clear HH
    obtain ⟨j, hj1, hj2, hs, hb⟩ := hrel
    have hao := hs.atOf
    by_cases hlt : j < l.length
    · obtain ⟨g, cap, rfl, hc⟩ := hs.row hlt
      obtain ⟨x, hx⟩ : ∃ x, l.getD j 0 = x := ⟨_, rfl⟩
      rw [hx] at hc
      have ha := hs.at_
      have hsl := hs.sl
      have hf := hs.fz 1
      have HH : Hid (Scan sb (.slice (some ⟨g, 0, none⟩) l.length cap) l j wr) := hs
      have HA : Hid (atOf sb wr = j) := hao
      have i1 : (0 : Int) ≤ (j : Int) := by omega
      have i2 : (j : Int) < (l.length : Int) := by omega
      clear hs hao hx
      go_wp2
      go_quiet ((go_at_call 31; exact Calls.quiet_of_same (indexByte_any _ _ _)))
      go_wp2
      · exact ⟨⟨j + 1, by omega, by omega, (HH.out.drewN _).set (j + 1), Below.at_ (Below.drewN hb _) _⟩, Scan.meas ((HH.out.drewN _).set (j + 1)) HA.out (by omega) (by omega)⟩
      · go_end0
        exact ⟨rfl, j, by omega, by omega, HH.out.drewN _, Below.drewN hb _⟩
    · obtain ⟨ao, cap, rfl⟩ := hs.shape
      have ha := hs.at_
      have hsl := hs.sl
      have i1 : (l.length : Int) ≤ (j : Int) := by omega
      have i3 : decide ((j : Int) < (l.length : Int)) = false := by simp; omega
      have HH : Hid (Scan sb (.slice ao l.length cap) l j wr) := hs
      clear hs hao
      go_wp2
      go_quiet (fail)
      go_wp2
      go_end0
      exact ⟨rfl, j, by omega, by omega, HH.out.drewN _, Below.drewN hb _⟩

theorem peek_any (sb : Nat) (v : Value) (l : List Int) (k : Nat) (x : Int) (w : World) (h : Scan sb v l k w) (hx : l.getD k 0 = x) :
    Calls Try.prog 30 #[.pointer (some ⟨sb, 0, none⟩)] w fun e w' => e = .returned (.int .u8 x) ∧ ∃ n, w' = w.drewN n := by
  by_cases hk : k < l.length
  · exact peek_in sb v l k x w h hk hx
  · have : x = 0 := by rw [← hx, List.getD_eq_getElem?_getD, List.getElem?_eq_none (by omega)]; rfl
    subst this
    exact peek_end sb v l k w h hk

set_option maxHeartbeats 1000000 in
theorem skipValue_str (sb : Nat) (v : Value) (l : List Int) (k : Nat) (w : World) (h : Scan sb v l k w) (hk : k ≤ l.length) (hl : l.length ≤ 4194304) (hx : l.getD k 0 = 34) :
    Calls Try.prog 25 #[.pointer (some ⟨sb, 0, none⟩)] w fun e w' => e = .returned (.tuple #[]) ∧ ∃ j, k < j ∧ j ≤ l.length + 1 ∧ Scan sb v l j w' ∧ Below sb w w' := by
  have HH : Hid (Scan sb v l k w) := h
  have HX : Hid (l.getD k 0 = 34) := hx
  clear h hx
  go_enter Try.func25, Try.ntmps25
  go_wp2_with (go_at_call 30; refine (peek_any sb v l k 34 w HH.out HX.out).mono ?_; rintro e w' ⟨rfl, n, rfl⟩)
  go_wp2_with (go_at_call 22; refine (skipString_any sb v l k _ (HH.out.drewN n) hk hl).mono ?_; rintro e w' ⟨rfl, j, hj1, hj2, hs, hb⟩)
  refine bodyPost_ret (results_none rfl _ _ _) rfl ?_
  exact ⟨rfl, j, hj1, hj2, hs, (Below.drewN (Below.refl _ _) _).trans hb⟩

set_option maxHeartbeats 1000000 in
theorem skipValue_bare (sb : Nat) (v : Value) (l : List Int) (k q : Nat) (w : World) (h : Scan sb v l k w) (hkq : k ≤ q) (hq : q ≤ l.length) (hl : l.length ≤ 4194304) (x0 : Int) (hx : l.getD k 0 = x0) (n1 : (x0 == 34) = false) (n2 : (x0 == 123) = false) (n3 : (x0 == 91) = false)
    (hno : ∀ i, k ≤ i → i < q → ixOf [44, 93, 125, 32, 9, 10, 13] (l.getD i 0) < 0) (hyes : q < l.length → 0 ≤ ixOf [44, 93, 125, 32, 9, 10, 13] (l.getD q 0)) :
    Calls Try.prog 25 #[.pointer (some ⟨sb, 0, none⟩)] w fun e w' => e = .returned (.tuple #[]) ∧ Scan sb v l q w' ∧ Below sb w w' := by
  have HH : Hid (Scan sb v l k w) := h
  have HX : Hid (l.getD k 0 = x0) := hx
  have HN : Hid (∀ i, k ≤ i → i < q → ixOf [44, 93, 125, 32, 9, 10, 13] (l.getD i 0) < 0) := hno
  have HY : Hid (q < l.length → 0 ≤ ixOf [44, 93, 125, 32, 9, 10, 13] (l.getD q 0)) := hyes
  clear h hx hno hyes
  go_enter Try.func25, Try.ntmps25
  go_wp2_with (go_at_call 30; refine (peek_any sb v l k x0 w HH.out HX.out).mono ?_; rintro e w' ⟨rfl, n, rfl⟩)
  go_loopw [] (fun wr => ∃ j, k ≤ j ∧ j ≤ q ∧ Scan sb v l j wr ∧ Below sb w wr) (fun wr => l.length + 2 - atOf sb wr)
  case atStart => exact ⟨k, Nat.le_refl _, hkq, HH.out.drewN _, Below.drewN (Below.refl _ _) _⟩
  case round =>
    clear HH HX n1 n2 n3
    obtain ⟨j, hj1, hj2, hs, hb⟩ := hrel
    have hao := hs.atOf
    by_cases hlt : j < l.length
    · obtain ⟨g, cap, rfl, hc⟩ := hs.row hlt
      obtain ⟨x, hx⟩ : ∃ x, l.getD j 0 = x := ⟨_, rfl⟩
      rw [hx] at hc
      have ha := hs.at_
      have hsl := hs.sl
      have hf := hs.fz 1
      have HH : Hid (Scan sb (.slice (some ⟨g, 0, none⟩) l.length cap) l j wr) := hs
      have HA : Hid (atOf sb wr = j) := hao
      have HX : Hid (l.getD j 0 = x) := hx
      have i1 : (0 : Int) ≤ (j : Int) := by omega
      have i2 : (j : Int) < (l.length : Int) := by omega
      clear hs hao hx
      by_cases hjq : j < q
      · have h0 : ixOf [44, 93, 125, 32, 9, 10, 13] x < 0 := by have := HN.out j hj1 hjq; rwa [HX.out] at this
        clear HN HY HX
        simp only [ixOf, Nat.toUInt8_eq] at h0
        go_wp2
        go_quiet ((go_at_call 31; exact Calls.quiet_of_same (indexByte_any _ _ _)))
        go_wp2
        exact ⟨⟨j + 1, by omega, by omega, (HH.out.drewN _).set (j + 1), Below.at_ (Below.drewN hb _) _⟩, Scan.meas ((HH.out.drewN _).set (j + 1)) HA.out (by omega) (by omega)⟩
      · obtain rfl : j = q := by omega
        have h0 : 0 ≤ ixOf [44, 93, 125, 32, 9, 10, 13] x := by have := HY.out hlt; rwa [HX.out] at this
        clear HN HY HX
        simp only [ixOf, Nat.toUInt8_eq] at h0
        go_wp2
        go_quiet ((go_at_call 31; exact Calls.quiet_of_same (indexByte_any _ _ _)))
        go_wp2
        refine bodyPost_ret (results_none rfl _ _ _) rfl ?_
        exact ⟨rfl, HH.out.drewN _, Below.drewN hb _⟩
    · obtain rfl : j = q := by omega
      obtain ⟨ao, cap, rfl⟩ := hs.shape
      have ha := hs.at_
      have hsl := hs.sl
      have i1 : (l.length : Int) ≤ (j : Int) := by omega
      have i3 : decide ((j : Int) < (l.length : Int)) = false := by simp; omega
      have HH : Hid (Scan sb (.slice ao l.length cap) l j wr) := hs
      clear hs hao HN HY
      go_wp2
      go_quiet (fail)
      go_wp2
      refine bodyPost_ret (results_none rfl _ _ _) rfl ?_
      exact ⟨rfl, HH.out.drewN _, Below.drewN hb _⟩

theorem kinds (x : Int) : x = 34 ∨ x = 123 ∨ x = 91 ∨ x = 125 ∨ x = 93 ∨ ((x == 34) = false ∧ (x == 123) = false ∧ (x == 91) = false ∧ (x == 125) = false ∧ (x == 93) = false) := by
  simp only [beq_eq_false_iff_ne]; omega

set_option maxHeartbeats 2000000 in
theorem skipValue_box (sb : Nat) (v : Value) (l : List Int) (k : Nat) (w : World) (h : Scan sb v l k w) (hk : k < l.length) (hl : l.length ≤ 4194304) (x0 : Int) (hx : l.getD k 0 = x0) (n1 : x0 = 123 ∨ x0 = 91) :
    Calls Try.prog 25 #[.pointer (some ⟨sb, 0, none⟩)] w fun e w' => e = .returned (.tuple #[]) ∧ ∃ j, k < j ∧ j ≤ l.length + 1 ∧ Scan sb v l j w' ∧ Below sb w w' := by
  have HH : Hid (Scan sb v l k w) := h
  have HX : Hid (l.getD k 0 = x0) := hx
  clear h hx
  go_enter Try.func25, Try.ntmps25
  rcases n1 with rfl | rfl
  · go_wp2_with (go_at_call 30; refine (peek_any sb v l k 123 w HH.out HX.out).mono ?_; rintro e w' ⟨rfl, n, rfl⟩)
    go_loopw [2] (fun d wr => ∃ (j : Nat) (z : Int), d = .int .i64 z ∧ k ≤ j ∧ j ≤ l.length + 1 ∧ ((j = k ∧ z = 0) ∨ (k < j ∧ 1 ≤ z ∧ z ≤ j)) ∧ Scan sb v l j wr ∧ Below sb w wr) (fun _ wr => l.length + 2 - atOf sb wr)
    case atStart => exact ⟨k, 0, rfl, Nat.le_refl _, by omega, .inl ⟨rfl, rfl⟩, HH.out.drewN _, Below.drewN (Below.refl _ _) _⟩
    case round =>
      clear HH
      obtain ⟨j, z, rfl, hj1, hj2, hz, hs, hb⟩ := hrel
      have hao := hs.atOf
      by_cases hlt : j < l.length
      · obtain ⟨g, cap, rfl, hc⟩ := hs.row hlt
        obtain ⟨x, hx⟩ : ∃ x, l.getD j 0 = x := ⟨_, rfl⟩
        rw [hx] at hc
        have ha := hs.at_
        have hsl := hs.sl
        have hf := hs.fz 1
        have HH : Hid (Scan sb (.slice (some ⟨g, 0, none⟩) l.length cap) l j wr) := hs
        have HA : Hid (atOf sb wr = j) := hao
        have i1 : (0 : Int) ≤ (j : Int) := by omega
        have i2 : (j : Int) < (l.length : Int) := by omega
        clear hs hao
        rcases hz with ⟨rfl, rfl⟩ | ⟨hjk, hz1, hz2⟩
        · have hx' := HX.out
          rw [hx] at hx'
          subst hx'
          clear HX hx
          go_wp2
          go_quiet (fail)
          go_wp2
          go_quiet (fail)
          go_wp2
          exact ⟨⟨j + 1, 1, rfl, by omega, by omega, .inr ⟨by omega, by omega, by omega⟩, (HH.out.drewN _).set (j + 1), Below.at_ (Below.drewN hb _) _⟩, Scan.meas ((HH.out.drewN _).set (j + 1)) HA.out (by omega) (by omega)⟩
        · clear HX hx
          rcases kinds x with rfl | rfl | rfl | rfl | rfl | ⟨y1, y2, y3, y4, y5⟩
          · go_wp2
            go_quiet (fail)
            go_wp2
            go_quiet (fail)
            go_wp2_with (go_at_call 22; refine (skipString_any sb _ l j _ (HH.out.drewN _) (Nat.le_of_lt hlt) hl).mono ?_; rintro e w' ⟨rfl, j', hq1, hq2, hs', hb'⟩)
            exact ⟨⟨j', z, rfl, by omega, by omega, .inr ⟨by omega, by omega, by omega⟩, hs', (Below.drewN hb _).trans hb'⟩, Scan.meas hs' HA.out (by omega) (by omega)⟩
          · have y0 : (z + 1 == 0) = false := by rw [beq_eq_false_iff_ne]; omega
            go_wp2
            go_quiet (fail)
            go_wp2
            go_quiet (fail)
            go_wp2
            exact ⟨⟨j + 1, z + 1, rfl, by omega, by omega, .inr ⟨by omega, by omega, by omega⟩, (HH.out.drewN _).set (j + 1), Below.at_ (Below.drewN hb _) _⟩, Scan.meas ((HH.out.drewN _).set (j + 1)) HA.out (by omega) (by omega)⟩
          · have y0 : (z + 1 == 0) = false := by rw [beq_eq_false_iff_ne]; omega
            go_wp2
            go_quiet (fail)
            go_wp2
            go_quiet (fail)
            go_wp2
            exact ⟨⟨j + 1, z + 1, rfl, by omega, by omega, .inr ⟨by omega, by omega, by omega⟩, (HH.out.drewN _).set (j + 1), Below.at_ (Below.drewN hb _) _⟩, Scan.meas ((HH.out.drewN _).set (j + 1)) HA.out (by omega) (by omega)⟩
          · by_cases y : z = 1
            · subst y
              go_wp2
              go_quiet (fail)
              go_wp2
              go_quiet (fail)
              go_wp2
              refine bodyPost_ret (results_none rfl _ _ _) rfl ?_
              exact ⟨rfl, j + 1, by omega, by omega, (HH.out.drewN _).set (j + 1), Below.at_ (Below.drewN hb _) _⟩
            · have y0 : (z - 1 == 0) = false := by rw [beq_eq_false_iff_ne]; omega
              go_wp2
              go_quiet (fail)
              go_wp2
              go_quiet (fail)
              go_wp2
              exact ⟨⟨j + 1, z - 1, rfl, by omega, by omega, .inr ⟨by omega, by omega, by omega⟩, (HH.out.drewN _).set (j + 1), Below.at_ (Below.drewN hb _) _⟩, Scan.meas ((HH.out.drewN _).set (j + 1)) HA.out (by omega) (by omega)⟩
          · by_cases y : z = 1
            · subst y
              go_wp2
              go_quiet (fail)
              go_wp2
              go_quiet (fail)
              go_wp2
              refine bodyPost_ret (results_none rfl _ _ _) rfl ?_
              exact ⟨rfl, j + 1, by omega, by omega, (HH.out.drewN _).set (j + 1), Below.at_ (Below.drewN hb _) _⟩
            · have y0 : (z - 1 == 0) = false := by rw [beq_eq_false_iff_ne]; omega
              go_wp2
              go_quiet (fail)
              go_wp2
              go_quiet (fail)
              go_wp2
              exact ⟨⟨j + 1, z - 1, rfl, by omega, by omega, .inr ⟨by omega, by omega, by omega⟩, (HH.out.drewN _).set (j + 1), Below.at_ (Below.drewN hb _) _⟩, Scan.meas ((HH.out.drewN _).set (j + 1)) HA.out (by omega) (by omega)⟩
          · have y0 : (z == 0) = false := by rw [beq_eq_false_iff_ne]; omega
            go_wp2
            go_quiet (fail)
            go_wp2
            go_quiet (fail)
            go_wp2
            exact ⟨⟨j + 1, z, rfl, by omega, by omega, .inr ⟨by omega, by omega, by omega⟩, (HH.out.drewN _).set (j + 1), Below.at_ (Below.drewN hb _) _⟩, Scan.meas ((HH.out.drewN _).set (j + 1)) HA.out (by omega) (by omega)⟩
      · obtain ⟨ao, cap, rfl⟩ := hs.shape
        have ha := hs.at_
        have hsl := hs.sl
        have i1 : (l.length : Int) ≤ (j : Int) := by omega
        have HH : Hid (Scan sb (.slice ao l.length cap) l j wr) := hs
        clear hs hao HX
        go_wp2
        go_quiet (fail)
        go_wp2
        go_end0
        exact ⟨rfl, j, by omega, by omega, HH.out.drewN _, Below.drewN hb _⟩
  · go_wp2_with (go_at_call 30; refine (peek_any sb v l k 91 w HH.out HX.out).mono ?_; rintro e w' ⟨rfl, n, rfl⟩)
    go_loopw [2] (fun d wr => ∃ (j : Nat) (z : Int), d = .int .i64 z ∧ k ≤ j ∧ j ≤ l.length + 1 ∧ ((j = k ∧ z = 0) ∨ (k < j ∧ 1 ≤ z ∧ z ≤ j)) ∧ Scan sb v l j wr ∧ Below sb w wr) (fun _ wr => l.length + 2 - atOf sb wr)
    case atStart => exact ⟨k, 0, rfl, Nat.le_refl _, by omega, .inl ⟨rfl, rfl⟩, HH.out.drewN _, Below.drewN (Below.refl _ _) _⟩
    case round =>
      clear HH
      obtain ⟨j, z, rfl, hj1, hj2, hz, hs, hb⟩ := hrel
      have hao := hs.atOf
      by_cases hlt : j < l.length
      · obtain ⟨g, cap, rfl, hc⟩ := hs.row hlt
        obtain ⟨x, hx⟩ : ∃ x, l.getD j 0 = x := ⟨_, rfl⟩
        rw [hx] at hc
        have ha := hs.at_
        have hsl := hs.sl
        have hf := hs.fz 1
        have HH : Hid (Scan sb (.slice (some ⟨g, 0, none⟩) l.length cap) l j wr) := hs
        have HA : Hid (atOf sb wr = j) := hao
        have i1 : (0 : Int) ≤ (j : Int) := by omega
        have i2 : (j : Int) < (l.length : Int) := by omega
        clear hs hao
        rcases hz with ⟨rfl, rfl⟩ | ⟨hjk, hz1, hz2⟩
        · have hx' := HX.out
          rw [hx] at hx'
          subst hx'
          clear HX hx
          go_wp2
          go_quiet (fail)
          go_wp2
          go_quiet (fail)
          go_wp2
          exact ⟨⟨j + 1, 1, rfl, by omega, by omega, .inr ⟨by omega, by omega, by omega⟩, (HH.out.drewN _).set (j + 1), Below.at_ (Below.drewN hb _) _⟩, Scan.meas ((HH.out.drewN _).set (j + 1)) HA.out (by omega) (by omega)⟩
        · clear HX hx
          rcases kinds x with rfl | rfl | rfl | rfl | rfl | ⟨y1, y2, y3, y4, y5⟩
          · go_wp2
            go_quiet (fail)
            go_wp2
            go_quiet (fail)
            go_wp2_with (go_at_call 22; refine (skipString_any sb _ l j _ (HH.out.drewN _) (Nat.le_of_lt hlt) hl).mono ?_; rintro e w' ⟨rfl, j', hq1, hq2, hs', hb'⟩)
            exact ⟨⟨j', z, rfl, by omega, by omega, .inr ⟨by omega, by omega, by omega⟩, hs', (Below.drewN hb _).trans hb'⟩, Scan.meas hs' HA.out (by omega) (by omega)⟩
          · have y0 : (z + 1 == 0) = false := by rw [beq_eq_false_iff_ne]; omega
            go_wp2
            go_quiet (fail)
            go_wp2
            go_quiet (fail)
            go_wp2
            exact ⟨⟨j + 1, z + 1, rfl, by omega, by omega, .inr ⟨by omega, by omega, by omega⟩, (HH.out.drewN _).set (j + 1), Below.at_ (Below.drewN hb _) _⟩, Scan.meas ((HH.out.drewN _).set (j + 1)) HA.out (by omega) (by omega)⟩
          · have y0 : (z + 1 == 0) = false := by rw [beq_eq_false_iff_ne]; omega
            go_wp2
            go_quiet (fail)
            go_wp2
            go_quiet (fail)
            go_wp2
            exact ⟨⟨j + 1, z + 1, rfl, by omega, by omega, .inr ⟨by omega, by omega, by omega⟩, (HH.out.drewN _).set (j + 1), Below.at_ (Below.drewN hb _) _⟩, Scan.meas ((HH.out.drewN _).set (j + 1)) HA.out (by omega) (by omega)⟩
          · by_cases y : z = 1
            · subst y
              go_wp2
              go_quiet (fail)
              go_wp2
              go_quiet (fail)
              go_wp2
              refine bodyPost_ret (results_none rfl _ _ _) rfl ?_
              exact ⟨rfl, j + 1, by omega, by omega, (HH.out.drewN _).set (j + 1), Below.at_ (Below.drewN hb _) _⟩
            · have y0 : (z - 1 == 0) = false := by rw [beq_eq_false_iff_ne]; omega
              go_wp2
              go_quiet (fail)
              go_wp2
              go_quiet (fail)
              go_wp2
              exact ⟨⟨j + 1, z - 1, rfl, by omega, by omega, .inr ⟨by omega, by omega, by omega⟩, (HH.out.drewN _).set (j + 1), Below.at_ (Below.drewN hb _) _⟩, Scan.meas ((HH.out.drewN _).set (j + 1)) HA.out (by omega) (by omega)⟩
          · by_cases y : z = 1
            · subst y
              go_wp2
              go_quiet (fail)
              go_wp2
              go_quiet (fail)
              go_wp2
              refine bodyPost_ret (results_none rfl _ _ _) rfl ?_
              exact ⟨rfl, j + 1, by omega, by omega, (HH.out.drewN _).set (j + 1), Below.at_ (Below.drewN hb _) _⟩
            · have y0 : (z - 1 == 0) = false := by rw [beq_eq_false_iff_ne]; omega
              go_wp2
              go_quiet (fail)
              go_wp2
              go_quiet (fail)
              go_wp2
              exact ⟨⟨j + 1, z - 1, rfl, by omega, by omega, .inr ⟨by omega, by omega, by omega⟩, (HH.out.drewN _).set (j + 1), Below.at_ (Below.drewN hb _) _⟩, Scan.meas ((HH.out.drewN _).set (j + 1)) HA.out (by omega) (by omega)⟩
          · have y0 : (z == 0) = false := by rw [beq_eq_false_iff_ne]; omega
            go_wp2
            go_quiet (fail)
            go_wp2
            go_quiet (fail)
            go_wp2
            exact ⟨⟨j + 1, z, rfl, by omega, by omega, .inr ⟨by omega, by omega, by omega⟩, (HH.out.drewN _).set (j + 1), Below.at_ (Below.drewN hb _) _⟩, Scan.meas ((HH.out.drewN _).set (j + 1)) HA.out (by omega) (by omega)⟩
      · obtain ⟨ao, cap, rfl⟩ := hs.shape
        have ha := hs.at_
        have hsl := hs.sl
        have i1 : (l.length : Int) ≤ (j : Int) := by omega
        have HH : Hid (Scan sb (.slice ao l.length cap) l j wr) := hs
        clear hs hao HX
        go_wp2
        go_quiet (fail)
        go_wp2
        go_end0
        exact ⟨rfl, j, by omega, by omega, HH.out.drewN _, Below.drewN hb _⟩
end Go.Proofs.Qxb6001517a
