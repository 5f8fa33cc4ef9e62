import Derived.Test.Qxb6001517aSkip
namespace Go.Proofs.Qxb6001517a
open Go.RowKit

theorem kinds4 (x : Int) : x = 44 ∨ x = 125 ∨ x = 93 ∨ x = 0 ∨ ((x == 44) = false ∧ (x == 125) = false ∧ (x == 93) = false ∧ (x == 0) = false) := by
  simp only [beq_eq_false_iff_ne]; omega

theorem in_of_ne {l : List Int} {k : Nat} {x : Int} (h : l.getD k 0 = x) (h0 : x ≠ 0) : k < l.length := by
  by_cases hk : k < l.length
  · exact hk
  · exact absurd (by rw [← h, List.getD_eq_getElem?_getD, List.getElem?_eq_none (by omega)]; rfl) h0

/-- What a call of more leaves behind. -/
def MoreLeft (sb : Nat) (v : Value) (l : List Int) (k : Nat) (w w' : World) (b : Bool) : Prop :=
  ∃ j, k ≤ j ∧ j ≤ l.length + 1 ∧ (b = true → j ≤ l.length) ∧ (b = false → k < j) ∧ Scan sb v l j w' ∧ Below sb w w'

set_option maxHeartbeats 1000000 in
theorem more_any (sb : Nat) (v : Value) (l : List Int) (k : Nat) (w : World) (h : Scan sb v l k w) (hk : k ≤ l.length) (hl : l.length ≤ 4194304) :
    Calls Try.prog 29 #[.pointer (some ⟨sb, 0, none⟩)] w fun e w' => ∃ b, e = .returned (.bool b) ∧ MoreLeft sb v l k w w' b := by
  have HH : Hid (Scan sb v l k w) := h
  clear h
  go_enter Try.func29, Try.ntmps29
  go_wp2_with (go_at_call 32; refine (skipSpace_any sb v l k w HH.out hk hl).mono ?_; rintro e w1 ⟨rfl, j, hj1, hj2, hs, hb⟩)
  clear HH
  obtain ⟨x, hx⟩ : ∃ x, l.getD j 0 = x := ⟨_, rfl⟩
  have H1 : Hid (Scan sb v l j w1) := hs
  have HX : Hid (l.getD j 0 = x) := hx
  have ha := hs.at_
  have hf := hs.fz 1
  clear hs hx
  rcases kinds4 x with rfl | rfl | rfl | rfl | ⟨n1, n2, n3, n4⟩
  · have hin : j < l.length := in_of_ne HX.out (by decide)
    go_wp2_with (go_at_call 30; refine (peek_any sb v l j _ w1 H1.out HX.out).mono ?_; rintro e w' ⟨rfl, n, rfl⟩)
    go_wp2_with (go_at_call 32; refine (skipSpace_any sb v l (j + 1) _ ((H1.out.drewN n).set (j + 1)) hin hl).mono ?_; rintro e w2 ⟨rfl, j', hq1, hq2, hs', hb'⟩)
    go_ret
    exact ⟨true, rfl, j', by omega, by omega, fun _ => hq2, (fun h => by cases h), hs', (Below.at_ (Below.drewN hb _) _).trans hb'⟩
  · go_wp2_with (go_at_call 30; refine (peek_any sb v l j _ w1 H1.out HX.out).mono ?_; rintro e w' ⟨rfl, n, rfl⟩)
    go_wp2
    go_ret
    exact ⟨false, rfl, j + 1, by omega, by omega, (fun h => by cases h), (fun _ => by omega), (H1.out.drewN n).set (j + 1), Below.at_ (Below.drewN hb _) _⟩
  · go_wp2_with (go_at_call 30; refine (peek_any sb v l j _ w1 H1.out HX.out).mono ?_; rintro e w' ⟨rfl, n, rfl⟩)
    go_wp2
    go_ret
    exact ⟨false, rfl, j + 1, by omega, by omega, (fun h => by cases h), (fun _ => by omega), (H1.out.drewN n).set (j + 1), Below.at_ (Below.drewN hb _) _⟩
  · go_wp2_with (go_at_call 30; refine (peek_any sb v l j _ w1 H1.out HX.out).mono ?_; rintro e w' ⟨rfl, n, rfl⟩)
    go_wp2
    go_ret
    exact ⟨false, rfl, j + 1, by omega, by omega, (fun h => by cases h), (fun _ => by omega), (H1.out.drewN n).set (j + 1), Below.at_ (Below.drewN hb _) _⟩
  · go_wp2_with (go_at_call 30; refine (peek_any sb v l j _ w1 H1.out HX.out).mono ?_; rintro e w' ⟨rfl, n, rfl⟩)
    go_wp2
    go_ret
    exact ⟨true, rfl, j, by omega, by omega, fun _ => hj2, (fun h => by cases h), H1.out.drewN n, Below.drewN hb _⟩

/-- Bytes that lie in the world as it is. -/
def Bytes (W : World) (v : Value) (l : List Int) : Prop := Data W.heap.size W v l

theorem boxed {W : World} {v : Value} {l : List Int} (k : Nat) (h : Bytes W v l) : Scan W.heap.size v l k (W.alloc (.cells #[v, .int .i64 k] 34 (0, 0))) := by
  refine ⟨by show (W.heap.push _)[W.heap.size]? = _; simp, Data.below h ((Below.refl _ _).alloc (Nat.le_refl _) _)⟩

theorem Bytes.below {W W' : World} {v : Value} {l : List Int} (h : Bytes W v l) (hb : Below W.heap.size W W') : Bytes W' v l := by
  have h1 := Data.below h hb
  rcases h1 with h1 | ⟨g, cap, hv, hg, hc⟩
  · exact .inl h1
  · exact .inr ⟨g, cap, hv, Nat.lt_of_lt_of_le hg hb.size, hc⟩

theorem Bytes.shape {W : World} {v : Value} {l : List Int} (h : Bytes W v l) : ∃ ao cap, v = .slice ao l.length cap := by
  rcases h with ⟨rfl, ao, cap, rfl⟩ | ⟨g, cap, rfl, _, _⟩
  · exact ⟨ao, cap, rfl⟩
  · exact ⟨_, cap, rfl⟩

set_option maxHeartbeats 400000 in
theorem zzSkipString_any (v : Value) (l : List Int) (k : Nat) (w : World) (h : Bytes w v l) (hk : k ≤ l.length) (hl : l.length ≤ 4194304) :
    Calls Try.prog 12 #[v, .int .i64 k] w fun e w' => ∃ j : Nat, k < j ∧ j ≤ l.length + 1 ∧ e = .returned (.int .i64 j) ∧ Below w.heap.size w w' := by
  obtain ⟨ao, cap, rfl⟩ := h.shape
  have HH : Hid (Bytes w (.slice ao l.length cap) l) := h
  have hb0 : Hid (Below w.heap.size w (w.alloc (.cells #[.slice ao l.length cap, .int .i64 k] 34 (0, 0)))) := (Below.refl _ _).alloc (Nat.le_refl _) _
  clear h
  go_enter Try.func12, Try.ntmps12
  go_wp2_with (go_at_call 22; refine (skipString_any w.heap.size _ l k _ (boxed k HH.out) hk hl).mono ?_; rintro e w1 ⟨rfl, j, hj1, hj2, hs, hb⟩; have ha := hs.at_)
  go_ret
  exact ⟨j, hj1, hj2, rfl, hb0.out.trans hb⟩

/-- How far a bare token goes. -/
theorem bare_end (l : List Int) (k : Nat) (hk : k ≤ l.length) : ∃ q, k ≤ q ∧ q ≤ l.length ∧ (∀ i, k ≤ i → i < q → ixOf [44, 93, 125, 32, 9, 10, 13] (l.getD i 0) < 0) ∧ (q < l.length → 0 ≤ ixOf [44, 93, 125, 32, 9, 10, 13] (l.getD q 0)) := by
  generalize hd : l.length - k = d
  induction d generalizing k with
  | zero => exact ⟨k, Nat.le_refl _, hk, fun i h1 h2 => by omega, fun h => by omega⟩
  | succ d ih =>
    by_cases h0 : 0 ≤ ixOf [44, 93, 125, 32, 9, 10, 13] (l.getD k 0)
    · exact ⟨k, Nat.le_refl _, hk, fun i h1 h2 => by omega, fun _ => h0⟩
    · obtain ⟨q, q1, q2, q3, q4⟩ := ih (k + 1) (by omega) (by omega)
      refine ⟨q, by omega, q2, fun i h1 h2 => ?_, q4⟩
      by_cases hi : i = k
      · subst hi; omega
      · exact q3 i (by omega) h2

/-- What a call of skipValue leaves behind, on any bytes. -/
theorem skipValue_any (sb : Nat) (v : Value) (l : List Int) (k : Nat) (w : World) (h : Scan sb v l k w) (hk : k ≤ l.length) (hl : l.length ≤ 4194304) :
    Calls Try.prog 25 #[.pointer (some ⟨sb, 0, none⟩)] w fun e w' => e = .returned (.tuple #[]) ∧ ∃ j, k ≤ j ∧ j ≤ l.length + 1 ∧ (l.getD k 0 = 34 ∨ l.getD k 0 = 123 ∨ l.getD k 0 = 91 → k < j) ∧ Scan sb v l j w' ∧ Below sb w w' := by
  by_cases h1 : l.getD k 0 = 34
  · refine (skipValue_str sb v l k w h hk hl h1).mono ?_
    rintro e w' ⟨rfl, j, j1, j2, hs, hb⟩
    exact ⟨rfl, j, by omega, j2, fun _ => j1, hs, hb⟩
  by_cases h2 : l.getD k 0 = 123 ∨ l.getD k 0 = 91
  · refine (skipValue_box sb v l k w h (in_of_ne rfl (by omega)) hl _ rfl h2).mono ?_
    rintro e w' ⟨rfl, j, j1, j2, hs, hb⟩
    exact ⟨rfl, j, by omega, j2, fun _ => j1, hs, hb⟩
  obtain ⟨q, q1, q2, q3, q4⟩ := bare_end l k hk
  refine (skipValue_bare sb v l k q w h q1 q2 hl _ rfl (by rw [beq_eq_false_iff_ne]; omega) (by rw [beq_eq_false_iff_ne]; omega) (by rw [beq_eq_false_iff_ne]; omega) q3 q4).mono ?_
  rintro e w' ⟨rfl, hs, hb⟩
  exact ⟨rfl, q, q1, by omega, fun h => absurd h (by omega), hs, hb⟩

set_option maxHeartbeats 400000 in
theorem zzSkipValue_any (v : Value) (l : List Int) (k : Nat) (w : World) (h : Bytes w v l) (hk : k ≤ l.length) (hl : l.length ≤ 4194304) :
    Calls Try.prog 15 #[v, .int .i64 k] w fun e w' => ∃ j : Nat, k ≤ j ∧ j ≤ l.length + 1 ∧ (l.getD k 0 = 34 ∨ l.getD k 0 = 123 ∨ l.getD k 0 = 91 → k < j) ∧ e = .returned (.int .i64 j) ∧ Below w.heap.size w w' := by
  obtain ⟨ao, cap, rfl⟩ := h.shape
  have HH : Hid (Bytes w (.slice ao l.length cap) l) := h
  have hb0 : Hid (Below w.heap.size w (w.alloc (.cells #[.slice ao l.length cap, .int .i64 k] 34 (0, 0)))) := (Below.refl _ _).alloc (Nat.le_refl _) _
  clear h
  go_enter Try.func15, Try.ntmps15
  go_wp2_with (go_at_call 25; refine (skipValue_any w.heap.size _ l k _ (boxed k HH.out) hk hl).mono ?_; rintro e w1 ⟨rfl, j, hj1, hj2, hj3, hs, hb⟩; have ha := hs.at_)
  go_ret
  exact ⟨j, hj1, hj2, hj3, rfl, hb0.out.trans hb⟩

set_option maxHeartbeats 400000 in
theorem zzSkipValue_bare (v : Value) (l : List Int) (k q : Nat) (w : World) (h : Bytes w v l) (hkq : k ≤ q) (hq : q ≤ l.length) (hl : l.length ≤ 4194304) (x0 : Int) (hx : l.getD k 0 = x0) (n1 : (x0 == 34) = false) (n2 : (x0 == 123) = false) (n3 : (x0 == 91) = false)
    (hno : ∀ i, k ≤ i → i < q → ixOf [44, 93, 125, 32, 9, 10, 13] (l.getD i 0) < 0) (hyes : q < l.length → 0 ≤ ixOf [44, 93, 125, 32, 9, 10, 13] (l.getD q 0)) :
    Calls Try.prog 15 #[v, .int .i64 k] w fun e w' => e = .returned (.int .i64 q) ∧ Below w.heap.size w w' := by
  obtain ⟨ao, cap, rfl⟩ := h.shape
  have HH : Hid (Bytes w (.slice ao l.length cap) l) := h
  have hb0 : Hid (Below w.heap.size w (w.alloc (.cells #[.slice ao l.length cap, .int .i64 k] 34 (0, 0)))) := (Below.refl _ _).alloc (Nat.le_refl _) _
  have HN : Hid (∀ i, k ≤ i → i < q → ixOf [44, 93, 125, 32, 9, 10, 13] (l.getD i 0) < 0) := hno
  have HY : Hid (q < l.length → 0 ≤ ixOf [44, 93, 125, 32, 9, 10, 13] (l.getD q 0)) := hyes
  have HX : Hid (l.getD k 0 = x0) := hx
  clear h hno hyes hx
  go_enter Try.func15, Try.ntmps15
  go_wp2_with (go_at_call 25; refine (skipValue_bare w.heap.size _ l k q _ (boxed k HH.out) hkq hq hl x0 HX.out n1 n2 n3 HN.out HY.out).mono ?_; rintro e w1 ⟨rfl, hs, hb⟩; have ha := hs.at_)
  go_ret
  exact ⟨rfl, hb0.out.trans hb⟩

/-- What ZZMore answers. -/
def MoreSaid (l : List Int) (k : Nat) (w w' : World) (e : Ending) : Prop :=
  ∃ (b : Bool) (j : Nat), k ≤ j ∧ j ≤ l.length + 1 ∧ (b = true → j ≤ l.length) ∧ (b = false → k < j) ∧ e = .returned (.tuple #[.bool b, .int .i64 j]) ∧ Below w.heap.size w w'

set_option maxHeartbeats 400000 in
theorem zzMore_any (v : Value) (l : List Int) (k : Nat) (w : World) (h : Bytes w v l) (hk : k ≤ l.length) (hl : l.length ≤ 4194304) :
    Calls Try.prog 20 #[v, .int .i64 k] w fun e w' => MoreSaid l k w w' e := by
  obtain ⟨ao, cap, rfl⟩ := h.shape
  have HH : Hid (Bytes w (.slice ao l.length cap) l) := h
  have hb0 : Hid (Below w.heap.size w (w.alloc (.cells #[.slice ao l.length cap, .int .i64 k] 34 (0, 0)))) := (Below.refl _ _).alloc (Nat.le_refl _) _
  clear h
  go_enter Try.func20, Try.ntmps20
  go_wp2_with (go_at_call 29; refine (more_any w.heap.size _ l k _ (boxed k HH.out) hk hl).mono ?_; rintro e w1 ⟨b, rfl, j, hj1, hj2, hj3, hj4, hs, hb⟩; have ha := hs.at_)
  go_quiet (fail)
  go_wp2
  go_ret2
  exact ⟨b, j, hj1, hj2, hj3, hj4, rfl, Below.drewN (hb0.out.trans hb) _⟩
end Go.Proofs.Qxb6001517a
