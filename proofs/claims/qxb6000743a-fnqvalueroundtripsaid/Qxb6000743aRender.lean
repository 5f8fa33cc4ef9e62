import Derived.Test.Qxb6000743aRows
import Derived.WalkKit
import Derived.WalkSpells
import Derived.WalkLawsBesides
import Derived.Laws.BytesArg
namespace Go.Proofs.Qxb6000743a
open Go.RowKit

theorem make5 (w : World) : (Instr.makeSlice 29 (.int .i64 0) (.int .i64 5)).run Try.prog w = .ok (.slice (some ⟨w.heap.size, 0, none⟩) 0 5) (w.alloc (.cells #[.int .u8 0, .int .u8 0, .int .u8 0, .int .u8 0, .int .u8 0] 5)) := by kernel_rfl

/-- The conversion back of a row of five cells at block b, its first k cells the numbers xs, in whatever world bears them. -/
theorem conv (W : World) (b k : Nat) (xs : List Int) (hk : xs.length = k) (hc : ∀ i, i < k → W.cell? ⟨b, i, none⟩ = some (.int .u8 (xs.getD i 0))) :
    (convert 29 9 (.slice (some ⟨b, 0, none⟩) k 5)).run Try.prog W = .ok (.string (strOfNums xs)) W :=
  run_convert_bytes_arg W 29 5 Try.underlying29 Try.underlying5 b 0 k 5 xs hk (by intro i hi; rw [Nat.zero_add]; exact hc i hi) 9 Try.underlying9

set_option maxHeartbeats 400000 in
theorem render0 (n : Int) (h0 : 0 ≤ n) (h1 : n ≤ 1000) (d : Int) (w : World) :
    Calls Try.prog 8 #[.int .i64 n, .bool false, .int .i64 d] w fun e w' => e = .returned (.string (strOfNums [48 + n / 1000])) ∧ Below w.heap.size w w' := by
  have mk := make5
  have cv := fun a b c d o => conv ((w.alloc (.cells #[.int .u8 (48 + n / 1000), a, b, c, d] 5)).alloc o) w.heap.size 1 [48 + n / 1000] rfl (by
    intro i hi
    obtain rfl : i = 0 := by omega
    simp)
  go_enter Try.func8, Try.ntmps8
  go_wp2
  go_ret
  exact ⟨rfl, ((Below.refl _ _).alloc (Nat.le_refl _) _).alloc (by simp) _⟩

set_option maxHeartbeats 1000000 in
theorem render1 (n : Int) (h0 : 0 ≤ n) (h1 : n ≤ 1000) (w : World) :
    Calls Try.prog 8 #[.int .i64 n, .bool true, .int .i64 0] w fun e w' => e = .returned (.string (strOfNums [48 + n / 1000, 46])) ∧ Below w.heap.size w w' := by
  have mk := make5
  have cv := fun v0 v1 v2 o0 o1 => conv (((w.alloc (.cells #[.int .u8 (48 + n / 1000), .int .u8 (46), v0, v1, v2] 5)).alloc o0).alloc o1) w.heap.size 2 [48 + n / 1000, 46] rfl (by
    intro i hi
    have hi' : i = 0 ∨ i = 1 := by omega
    rcases hi' with rfl | rfl <;> go_simp)
  go_enter Try.func8, Try.ntmps8
  go_wp2
  refine wp_loop_rounds 1 ?_
  repeat any_goals (rw [rounds_succ]; go_wp2)
  go_ret
  exact ⟨rfl, (((Below.refl _ _).alloc (Nat.le_refl _) _).alloc (by simp; try omega) _).alloc (by simp; try omega) _⟩

set_option maxHeartbeats 1000000 in
theorem render2 (n : Int) (h0 : 0 ≤ n) (h1 : n ≤ 1000) (w : World) :
    Calls Try.prog 8 #[.int .i64 n, .bool true, .int .i64 1] w fun e w' => e = .returned (.string (strOfNums [48 + n / 1000, 46, 48 + n % 1000 / 100 % 10])) ∧ Below w.heap.size w w' := by
  have mk := make5
  have cv := fun v0 v1 o0 o1 o2 => conv ((((w.alloc (.cells #[.int .u8 (48 + n / 1000), .int .u8 (46), .int .u8 (48 + n % 1000 / 100 % 10), v0, v1] 5)).alloc o0).alloc o1).alloc o2) w.heap.size 3 [48 + n / 1000, 46, 48 + n % 1000 / 100 % 10] rfl (by
    intro i hi
    have hi' : i = 0 ∨ i = 1 ∨ i = 2 := by omega
    rcases hi' with rfl | rfl | rfl <;> go_simp)
  go_enter Try.func8, Try.ntmps8
  go_wp2
  refine wp_loop_rounds 2 ?_
  repeat any_goals (rw [rounds_succ]; go_wp2)
  go_ret
  exact ⟨rfl, ((((Below.refl _ _).alloc (Nat.le_refl _) _).alloc (by simp; try omega) _).alloc (by simp; try omega) _).alloc (by simp; try omega) _⟩

set_option maxHeartbeats 1000000 in
theorem render3 (n : Int) (h0 : 0 ≤ n) (h1 : n ≤ 1000) (w : World) :
    Calls Try.prog 8 #[.int .i64 n, .bool true, .int .i64 2] w fun e w' => e = .returned (.string (strOfNums [48 + n / 1000, 46, 48 + n % 1000 / 100 % 10, 48 + n % 1000 / 10 % 10])) ∧ Below w.heap.size w w' := by
  have mk := make5
  have cv := fun v0 o0 o1 o2 o3 => conv (((((w.alloc (.cells #[.int .u8 (48 + n / 1000), .int .u8 (46), .int .u8 (48 + n % 1000 / 100 % 10), .int .u8 (48 + n % 1000 / 10 % 10), v0] 5)).alloc o0).alloc o1).alloc o2).alloc o3) w.heap.size 4 [48 + n / 1000, 46, 48 + n % 1000 / 100 % 10, 48 + n % 1000 / 10 % 10] rfl (by
    intro i hi
    have hi' : i = 0 ∨ i = 1 ∨ i = 2 ∨ i = 3 := by omega
    rcases hi' with rfl | rfl | rfl | rfl <;> go_simp)
  go_enter Try.func8, Try.ntmps8
  go_wp2
  refine wp_loop_rounds 3 ?_
  repeat any_goals (rw [rounds_succ]; go_wp2)
  go_ret
  exact ⟨rfl, (((((Below.refl _ _).alloc (Nat.le_refl _) _).alloc (by simp; try omega) _).alloc (by simp; try omega) _).alloc (by simp; try omega) _).alloc (by simp; try omega) _⟩

set_option maxHeartbeats 1000000 in
theorem render4 (n : Int) (h0 : 0 ≤ n) (h1 : n ≤ 1000) (w : World) :
    Calls Try.prog 8 #[.int .i64 n, .bool true, .int .i64 3] w fun e w' => e = .returned (.string (strOfNums [48 + n / 1000, 46, 48 + n % 1000 / 100 % 10, 48 + n % 1000 / 10 % 10, 48 + n % 10])) ∧ Below w.heap.size w w' := by
  have mk := make5
  have cv := fun o0 o1 o2 o3 o4 => conv ((((((w.alloc (.cells #[.int .u8 (48 + n / 1000), .int .u8 (46), .int .u8 (48 + n % 1000 / 100 % 10), .int .u8 (48 + n % 1000 / 10 % 10), .int .u8 (48 + n % 10)] 5)).alloc o0).alloc o1).alloc o2).alloc o3).alloc o4) w.heap.size 5 [48 + n / 1000, 46, 48 + n % 1000 / 100 % 10, 48 + n % 1000 / 10 % 10, 48 + n % 10] rfl (by
    intro i hi
    have hi' : i = 0 ∨ i = 1 ∨ i = 2 ∨ i = 3 ∨ i = 4 := by omega
    rcases hi' with rfl | rfl | rfl | rfl | rfl <;> go_simp)
  go_enter Try.func8, Try.ntmps8
  go_wp2
  refine wp_loop_rounds 4 ?_
  repeat any_goals (rw [rounds_succ]; go_wp2)
  go_ret
  exact ⟨rfl, ((((((Below.refl _ _).alloc (Nat.le_refl _) _).alloc (by simp; try omega) _).alloc (by simp; try omega) _).alloc (by simp; try omega) _).alloc (by simp; try omega) _).alloc (by simp; try omega) _⟩

end Go.Proofs.Qxb6000743a
