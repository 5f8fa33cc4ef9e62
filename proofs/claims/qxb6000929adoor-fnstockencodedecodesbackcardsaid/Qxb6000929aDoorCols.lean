import Derived.Test.Qxb6000929aDoorReads
namespace Go.Proofs.Qxb6000929aDoor
open Go.RowKit

set_option maxHeartbeats 2000000 in
theorem stockColumns_any (t0 t1 t2 t3 t4 t5 t6 t7 t8 t9 t10 : ByteArray) (n0 n1 n2 n3 : Int) (l0 : -9223372036854775808 ≤ n0) (u0 : n0 ≤ 9223372036854775807) (l1 : -9223372036854775808 ≤ n1) (u1 : n1 ≤ 9223372036854775807) (l2 : -9223372036854775808 ≤ n2) (u2 : n2 ≤ 9223372036854775807) (l3 : -9223372036854775808 ≤ n3) (u3 : n3 ≤ 9223372036854775807) (w : World) :
    Calls Tryd.prog 19 #[.agg #[.string t0, .string t1, .string t2, .string t3, .string t4, .string t5, .string t6, .string t7, .string t8, .string t9, .string t10], .agg #[.int .i64 n0, .int .i64 n1, .int .i64 n2, .int .i64 n3]] w fun e w' => e = .returned (.agg #[.string ⟨(Lib.itoa n0).toArray⟩, .string t0, .string t1, .string t2, .string t3, .string t4, .string t5, .string t6, .string t7, .string t8, .string t9, .string ⟨(Lib.itoa n1).toArray⟩, .string ⟨(Lib.itoa n2).toArray⟩, .string ⟨(Lib.itoa n3).toArray⟩, .string t10]) ∧ Below w.heap.size w w' := by
  go_enter Tryd.func19, Tryd.ntmps19
  go_wp2_with (go_at_call 15; refine (fmtInt_any _ (by assumption) (by assumption) _).mono ?_; rintro e w1 ⟨rfl, C0, rfl⟩)
  refine wp_loop_rounds 11 ?_
  repeat any_goals (rw [rounds_succ]; go_wp2_with (go_at_call 15; refine (fmtInt_any _ (by assumption) (by assumption) _).mono ?_; rintro e w1 ⟨rfl, C0, rfl⟩))
  exact bodyPost_ret (v := .agg #[.string ⟨(Lib.itoa n0).toArray⟩, .string t0, .string t1, .string t2, .string t3, .string t4, .string t5, .string t6, .string t7, .string t8, .string t9, .string ⟨(Lib.itoa n1).toArray⟩, .string ⟨(Lib.itoa n2).toArray⟩, .string ⟨(Lib.itoa n3).toArray⟩, .string t10]) (by simp [results, Tryd.results19, go_sem]) rfl ⟨rfl, (((((((((Below.refl _ _).alloc (Nat.le_refl _) _).alloc (by simp) _).alloc (by simp; omega) _).alloc (by simp; omega) _).alloc (by simp; omega) _).alloc (by simp; omega) _).alloc (by simp; omega) _).alloc (by simp; omega) _)⟩
end Go.Proofs.Qxb6000929aDoor
