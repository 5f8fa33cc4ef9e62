import Derived.Test.Qxb6000929aDoorReads
namespace Go.Proofs.Qxb6000929aDoor
open Go.RowKit

set_option maxHeartbeats 1000000 in
theorem stockOf_any (t0 t1 t2 t3 t4 t5 t6 t7 t8 t9 t10 : ByteArray) (n0 n1 n2 n3 : Int) (w : World) :
    Calls Tryd.prog 17 #[.agg #[.string t0, .string t1, .string t2, .string t3, .string t4, .string t5, .string t6, .string t7, .string t8, .string t9, .string t10], .agg #[.int .i64 n0, .int .i64 n1, .int .i64 n2, .int .i64 n3]] w fun e w' => e = .returned (.agg #[.int .i64 n0, .string t0, .string t1, .string t2, .string t3, .string t4, .string t5, .string t6, .string t7, .string t8, .string t9, .int .i64 n1, .int .i64 n2, .int .i64 n3, .string t10]) ∧ Below w.heap.size w w' := by
  go_enter Tryd.func17, Tryd.ntmps17
  go_wp2
  refine wp_loop_rounds 11 ?_
  repeat any_goals (rw [rounds_succ]; go_wp2)
  exact bodyPost_ret (v := .agg #[.int .i64 n0, .string t0, .string t1, .string t2, .string t3, .string t4, .string t5, .string t6, .string t7, .string t8, .string t9, .int .i64 n1, .int .i64 n2, .int .i64 n3, .string t10]) (by simp [results, Tryd.results17, go_sem]) rfl ⟨rfl, ((((Below.refl _ _).alloc (Nat.le_refl _) _).alloc (by simp) _).alloc (by simp; omega) _).alloc (by simp; omega) _⟩
end Go.Proofs.Qxb6000929aDoor
