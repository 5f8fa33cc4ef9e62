import Derived.Test.Qxb6000743aRender
import Derived.Test.Qxb6000743aParse
namespace Go.Proofs.Qxb6000743a
open Go.RowKit

set_option maxHeartbeats 400000 in
theorem pow3 (w : World) : Calls Try.prog 6 #[.int .i64 3] w fun e w' => e = .returned (.int .i64 1000) ∧ w' = w := by
  go_enter Try.func6, Try.ntmps6
  go_wp2
  refine wp_loop_rounds 4 ?_
  repeat any_goals (rw [rounds_succ]; go_wp2)
  go_ret
  exact ⟨rfl, rfl⟩
set_option maxHeartbeats 400000 in
theorem pow2 (w : World) : Calls Try.prog 6 #[.int .i64 2] w fun e w' => e = .returned (.int .i64 100) ∧ w' = w := by
  go_enter Try.func6, Try.ntmps6
  go_wp2
  refine wp_loop_rounds 3 ?_
  repeat any_goals (rw [rounds_succ]; go_wp2)
  go_ret
  exact ⟨rfl, rfl⟩
set_option maxHeartbeats 400000 in
theorem pow1 (w : World) : Calls Try.prog 6 #[.int .i64 1] w fun e w' => e = .returned (.int .i64 10) ∧ w' = w := by
  go_enter Try.func6, Try.ntmps6
  go_wp2
  refine wp_loop_rounds 2 ?_
  repeat any_goals (rw [rounds_succ]; go_wp2)
  go_ret
  exact ⟨rfl, rfl⟩
set_option maxHeartbeats 400000 in
theorem pow0 (w : World) : Calls Try.prog 6 #[.int .i64 0] w fun e w' => e = .returned (.int .i64 1) ∧ w' = w := by
  go_enter Try.func6, Try.ntmps6
  go_wp2
  refine wp_loop_rounds 1 ?_
  repeat any_goals (rw [rounds_succ]; go_wp2)
  go_ret
  exact ⟨rfl, rfl⟩

set_option maxHeartbeats 400000 in
/-- Outside the law's domain it answers true at once. -/
theorem early1 (n d : Int) (dot : Bool) (h : n < 0 ∨ 1000 < n ∨ d < 0 ∨ 3 < d) (w : World) :
    Calls Try.prog 3 #[.int .i64 n, .bool dot, .int .i64 d] w fun e w' => e = .returned (.bool true) ∧ w' = w := by
  by_cases h1 : n < 0
  · go_enter Try.func3, Try.ntmps3
    go_wp2_with fail
    go_ret
    exact ⟨rfl, rfl⟩
  by_cases h2 : 1000 < n
  · go_enter Try.func3, Try.ntmps3
    go_wp2_with fail
    go_ret
    exact ⟨rfl, rfl⟩
  by_cases h3 : d < 0
  · go_enter Try.func3, Try.ntmps3
    go_wp2_with fail
    go_ret
    exact ⟨rfl, rfl⟩
  have h4 : 3 < d := by omega
  clear h
  go_enter Try.func3, Try.ntmps3
  go_wp2_with fail
  go_ret
  exact ⟨rfl, rfl⟩

set_option maxHeartbeats 400000 in
theorem early2 (n d : Int) (h0 : 0 ≤ n) (h1 : n ≤ 1000) (h2 : 0 < d) (h3 : d ≤ 3) (w : World) :
    Calls Try.prog 3 #[.int .i64 n, .bool false, .int .i64 d] w fun e w' => e = .returned (.bool true) ∧ w' = w := by
  go_enter Try.func3, Try.ntmps3
  go_wp2_with fail
  go_ret
  exact ⟨rfl, rfl⟩

set_option maxHeartbeats 400000 in
theorem zz (s : ByteArray) (n : Int) (W : World) (w : World) (h : Calls Try.prog 12 #[.string s] w fun r w' => r = .returned (.tuple #[.int .i64 n, .bool true]) ∧ Below W.heap.size W w') :
    Calls Try.prog 7 #[.string s] w fun r w' => r = .returned (.tuple #[.int .i64 n, .bool true]) ∧ Below W.heap.size W w' := by
  have H : Hid _ := h
  clear h
  go_enter Try.func7, Try.ntmps7
  go_wp2_with (go_at_call 12; refine Calls.mono H.out ?_; rintro e w' ⟨rfl, hb⟩)
  go_ret2
  exact ⟨rfl, hb⟩

set_option maxHeartbeats 400000 in
theorem earlyT (n p : Int) (d : Int) (h2 : 0 ≤ d) (h3 : d ≤ 3) (h0 : 0 ≤ n) (h1 : n ≤ 1000) (hp : ∀ w, Calls Try.prog 6 #[.int .i64 (3 - d)] w fun e w' => e = .returned (.int .i64 p) ∧ w' = w) (p0 : 1 ≤ p) (hm : (n % p == 0) = false) (w : World) :
    Calls Try.prog 3 #[.int .i64 n, .bool true, .int .i64 d] w fun e w' => e = .returned (.bool true) ∧ w' = w := by
  have HP : Hid (∀ w, Calls Try.prog 6 #[.int .i64 (3 - d)] w fun e w' => e = .returned (.int .i64 p) ∧ w' = w) := hp
  clear hp
  go_enter Try.func3, Try.ntmps3
  go_wp2_with (go_at_call 6; refine Calls.mono (HP.out _) ?_; rintro e w' ⟨rfl, rfl⟩)
  go_ret
  exact ⟨rfl, rfl⟩

set_option maxHeartbeats 400000 in
theorem coreT (n p : Int) (d : Int) (h2 : 0 ≤ d) (h3 : d ≤ 3) (s : ByteArray) (h0 : 0 ≤ n) (h1 : n ≤ 1000) (hp : ∀ w, Calls Try.prog 6 #[.int .i64 (3 - d)] w fun e w' => e = .returned (.int .i64 p) ∧ w' = w) (p0 : 1 ≤ p) (hm : (n % p == 0) = true)
    (hr : ∀ w, Calls Try.prog 8 #[.int .i64 n, .bool true, .int .i64 d] w fun e w' => e = .returned (.string s) ∧ Below w.heap.size w w') (hq : ∀ w, Calls Try.prog 12 #[.string s] w fun e w' => e = .returned (.tuple #[.int .i64 n, .bool true]) ∧ Below w.heap.size w w') (w : World) :
    Calls Try.prog 3 #[.int .i64 n, .bool true, .int .i64 d] w fun e w' => e = .returned (.bool true) ∧ Below w.heap.size w w' := by
  have HP : Hid (∀ w, Calls Try.prog 6 #[.int .i64 (3 - d)] w fun e w' => e = .returned (.int .i64 p) ∧ w' = w) := hp
  have HR : Hid (∀ w, Calls Try.prog 8 #[.int .i64 n, .bool true, .int .i64 d] w fun e w' => e = .returned (.string s) ∧ Below w.heap.size w w') := hr
  have HQ : Hid (∀ w, Calls Try.prog 12 #[.string s] w fun e w' => e = .returned (.tuple #[.int .i64 n, .bool true]) ∧ Below w.heap.size w w') := hq
  clear hp hr hq
  have hm' : (n % p != 0) = false := by rw [bne, hm]; rfl
  go_enter Try.func3, Try.ntmps3
  go_wp2_with (first | (go_at_call 6; refine Calls.mono (HP.out _) ?_; rintro e w' ⟨rfl, rfl⟩) | (go_at_call 8; refine Calls.mono (HR.out _) ?_; rintro e w1 ⟨rfl, hb1⟩) | (go_at_call 7; refine Calls.mono (zz s n w1 w1 (HQ.out w1)) ?_; rintro e w2 ⟨rfl, hb2⟩))
  go_ret
  exact ⟨rfl, hb1.trans (hb2.mono hb1.size)⟩

set_option maxHeartbeats 400000 in
theorem earlyF (n p : Int) (h0 : 0 ≤ n) (h1 : n ≤ 1000) (hp : ∀ w, Calls Try.prog 6 #[.int .i64 3] w fun e w' => e = .returned (.int .i64 p) ∧ w' = w) (p0 : 1 ≤ p) (hm : (n % p == 0) = false) (w : World) :
    Calls Try.prog 3 #[.int .i64 n, .bool false, .int .i64 0] w fun e w' => e = .returned (.bool true) ∧ w' = w := by
  have HP : Hid (∀ w, Calls Try.prog 6 #[.int .i64 3] w fun e w' => e = .returned (.int .i64 p) ∧ w' = w) := hp
  clear hp
  go_enter Try.func3, Try.ntmps3
  go_wp2_with (go_at_call 6; refine Calls.mono (HP.out _) ?_; rintro e w' ⟨rfl, rfl⟩)
  go_ret
  exact ⟨rfl, rfl⟩

set_option maxHeartbeats 400000 in
theorem coreF (n p : Int) (s : ByteArray) (h0 : 0 ≤ n) (h1 : n ≤ 1000) (hp : ∀ w, Calls Try.prog 6 #[.int .i64 3] w fun e w' => e = .returned (.int .i64 p) ∧ w' = w) (p0 : 1 ≤ p) (hm : (n % p == 0) = true)
    (hr : ∀ w, Calls Try.prog 8 #[.int .i64 n, .bool false, .int .i64 0] w fun e w' => e = .returned (.string s) ∧ Below w.heap.size w w') (hq : ∀ w, Calls Try.prog 12 #[.string s] w fun e w' => e = .returned (.tuple #[.int .i64 n, .bool true]) ∧ Below w.heap.size w w') (w : World) :
    Calls Try.prog 3 #[.int .i64 n, .bool false, .int .i64 0] w fun e w' => e = .returned (.bool true) ∧ Below w.heap.size w w' := by
  have HP : Hid (∀ w, Calls Try.prog 6 #[.int .i64 3] w fun e w' => e = .returned (.int .i64 p) ∧ w' = w) := hp
  have HR : Hid (∀ w, Calls Try.prog 8 #[.int .i64 n, .bool false, .int .i64 0] w fun e w' => e = .returned (.string s) ∧ Below w.heap.size w w') := hr
  have HQ : Hid (∀ w, Calls Try.prog 12 #[.string s] w fun e w' => e = .returned (.tuple #[.int .i64 n, .bool true]) ∧ Below w.heap.size w w') := hq
  clear hp hr hq
  have hm' : (n % p != 0) = false := by rw [bne, hm]; rfl
  go_enter Try.func3, Try.ntmps3
  go_wp2_with (first | (go_at_call 6; refine Calls.mono (HP.out _) ?_; rintro e w' ⟨rfl, rfl⟩) | (go_at_call 8; refine Calls.mono (HR.out _) ?_; rintro e w1 ⟨rfl, hb1⟩) | (go_at_call 7; refine Calls.mono (zz s n w1 w1 (HQ.out w1)) ?_; rintro e w2 ⟨rfl, hb2⟩))
  go_ret
  exact ⟨rfl, hb1.trans (hb2.mono hb1.size)⟩

end Go.Proofs.Qxb6000743a
