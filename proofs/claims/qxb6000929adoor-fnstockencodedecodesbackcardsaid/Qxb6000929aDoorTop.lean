import Derived.Test.Qxb6000929aDoorBytes
import Derived.Test.Qxb6000929aDoorStock
import Derived.Test.Qxb6000929aDoorCols
import Derived.Test.Qxb6000929aDoorEncode
namespace Go.Proofs.Qxb6000929aDoor
open Go.RowKit

set_option maxHeartbeats 400000 in
theorem newDecoder_any (s : ByteArray) (w : World) :
    Calls Tryd.prog 13 #[.string s] w fun e w' => e = .returned (.pointer (some ⟨w.heap.size, 0, none⟩)) ∧ w' = w.alloc (.cells #[.string s, .bool false, .bool false] 60) := by
  go_enter Tryd.func13, Tryd.ntmps13
  go_wp2
  go_ret
  exact ⟨rfl, rfl⟩

theorem dec_no : ∀ (u : Nat), ∀ x ∈ Lib.decDigits u, x ≠ 124 := by
  intro u
  rw [Lib.decDigits_eq]
  intro x hx
  obtain ⟨t, _, rfl⟩ := List.mem_map.1 hx
  unfold Lib.dg
  intro h
  have := congrArg UInt8.toNat h
  rw [UInt8.toNat_ofNat'] at this
  have e : UInt8.toNat 124 = 124 := rfl
  omega

theorem itoa_no (n : Int) : ∀ x ∈ Lib.itoa n, x ≠ 124 := by
  unfold Lib.itoa
  split
  · intro x hx
    rcases List.mem_cons.1 hx with rfl | hx
    · decide
    · exact dec_no _ x hx
  · exact dec_no _

theorem readsAll (t0 t1 t2 t3 t4 t5 t6 t7 t8 t9 t10 : ByteArray) (n0 n1 n2 n3 : Int) (hall : ∀ g ∈ Lib.itoa n0 :: [t0.data.toList, t1.data.toList, t2.data.toList, t3.data.toList, t4.data.toList, t5.data.toList, t6.data.toList, t7.data.toList, t8.data.toList, t9.data.toList, Lib.itoa n1, Lib.itoa n2, Lib.itoa n3, t10.data.toList], ∀ x ∈ g, x ≠ 124) (db wb : Nat) (hwb : wb < db) (W : World)
    (h1 : W.heap[wb]? = some (.cells #[.string ⟨(Lib.itoa n0).toArray⟩, .string t0, .string t1, .string t2, .string t3, .string t4, .string t5, .string t6, .string t7, .string t8, .string t9, .string ⟨(Lib.itoa n1).toArray⟩, .string ⟨(Lib.itoa n2).toArray⟩, .string ⟨(Lib.itoa n3).toArray⟩, .string t10] 46 (0, 0))) (h2 : W.heap[db]? = some (.cells #[.string ⟨(Lib.itoa n0 ++ tj [t0.data.toList, t1.data.toList, t2.data.toList, t3.data.toList, t4.data.toList, t5.data.toList, t6.data.toList, t7.data.toList, t8.data.toList, t9.data.toList, Lib.itoa n1, Lib.itoa n2, Lib.itoa n3, t10.data.toList]).toArray⟩, .bool false, .bool false] 60 (0, 0))) :
    Calls Tryd.prog 12 #[.pointer (some ⟨db, 0, none⟩), .slice (some ⟨wb, 0, none⟩) 15 15] W fun e w' => e = .returned (.bool true) ∧ Below db W w' := by
  refine reads db wb hwb (Lib.itoa n0) [t0.data.toList, t1.data.toList, t2.data.toList, t3.data.toList, t4.data.toList, t5.data.toList, t6.data.toList, t7.data.toList, t8.data.toList, t9.data.toList, Lib.itoa n1, Lib.itoa n2, Lib.itoa n3, t10.data.toList] 15 rfl (by omega) (by simp) hall W ?_ (.inl ⟨rfl, h2⟩)
  intro k hk
  rw [Lib.cell_of_heap h1]
  have h : k = 0 ∨ k = 1 ∨ k = 2 ∨ k = 3 ∨ k = 4 ∨ k = 5 ∨ k = 6 ∨ k = 7 ∨ k = 8 ∨ k = 9 ∨ k = 10 ∨ k = 11 ∨ k = 12 ∨ k = 13 ∨ k = 14 := by simp at hk; omega
  rcases h with rfl | rfl | rfl | rfl | rfl | rfl | rfl | rfl | rfl | rfl | rfl | rfl | rfl | rfl | rfl <;> rfl

set_option maxHeartbeats 2000000 in
theorem top (t0 t1 t2 t3 t4 t5 t6 t7 t8 t9 t10 : ByteArray) (n0 n1 n2 n3 : Int) (l0 : -9223372036854775808 ≤ n0) (u0 : n0 ≤ 9223372036854775807) (l1 : -9223372036854775808 ≤ n1) (u1 : n1 ≤ 9223372036854775807) (l2 : -9223372036854775808 ≤ n2) (u2 : n2 ≤ 9223372036854775807) (l3 : -9223372036854775808 ≤ n3) (u3 : n3 ≤ 9223372036854775807) (s0 : t0.size ≤ maxLen) (s1 : t1.size ≤ maxLen) (s2 : t2.size ≤ maxLen) (s3 : t3.size ≤ maxLen) (s4 : t4.size ≤ maxLen) (s5 : t5.size ≤ maxLen) (s6 : t6.size ≤ maxLen) (s7 : t7.size ≤ maxLen) (s8 : t8.size ≤ maxLen) (s9 : t9.size ≤ maxLen) (s10 : t10.size ≤ maxLen) (w : World) (ht : Lib.TabIs Tryd.prog w powName .u64 Lib.pow10Tab) (hB : ∀ g, Tryd.prog.globalNamed powName = some g → g < w.heap.size) :
    Calls Tryd.prog 5 #[.agg #[.string t0, .string t1, .string t2, .string t3, .string t4, .string t5, .string t6, .string t7, .string t8, .string t9, .string t10], .agg #[.int .i64 n0, .int .i64 n1, .int .i64 n2, .int .i64 n3]] w fun e w' => e = .returned (.bool true) ∧ Below w.heap.size w w' := by
  have HM : Hid (∀ k, ([t0, t1, t2, t3, t4, t5, t6, t7, t8, t9, t10].getD k ⟨#[]⟩).size ≤ maxLen) := by
    intro k
    by_cases hk : k < 11
    · have h : k = 0 ∨ k = 1 ∨ k = 2 ∨ k = 3 ∨ k = 4 ∨ k = 5 ∨ k = 6 ∨ k = 7 ∨ k = 8 ∨ k = 9 ∨ k = 10 := by omega
      rcases h with rfl | rfl | rfl | rfl | rfl | rfl | rfl | rfl | rfl | rfl | rfl <;> assumption
    · rw [List.getD, List.getElem?_eq_none (by simp; omega)]; decide
  have HTab : Hid (∀ w', Below w.heap.size w w' → Lib.TabIs Tryd.prog w' powName .u64 Lib.pow10Tab ∧ ∀ g, Tryd.prog.globalNamed powName = some g → g < w'.heap.size) := fun w' h' => ⟨tab_below h' ht hB, fun g hg => Nat.lt_of_lt_of_le (hB g hg) h'.size⟩
  clear ht hB
  go_enter Tryd.func5, Tryd.ntmps5
  go_wp2_with (go_at_call 16; refine (zzBytes_any _ _ [t0, t1, t2, t3, t4, t5, t6, t7, t8, t9, t10] rfl (cellT t0 t1 t2 t3 t4 t5 t6 t7 t8 t9 t10) HM.out _).mono ?_; rintro e w1 ⟨b, rfl, hb, rfl⟩)
  · go_ret
    exact ⟨rfl, ((((Below.refl _ _).alloc (Nat.le_refl _) _).alloc (by simp) _).alloc (by simp; omega) _).alloc (by simp; omega) _⟩
  · have hbt : b = true := by simpa using (by assumption : (!b) = false)
    have hsum := hb hbt
    have hsum' : t0.size + t1.size + t2.size + t3.size + t4.size + t5.size + t6.size + t7.size + t8.size + t9.size + t10.size ≤ 1048576 := by
      simpa [sumTo, Nat.add_assoc] using hsum
    clear hb hbt hsum
    unfold maxLen at s0 s1 s2 s3 s4 s5 s6 s7 s8 s9 s10
    refine wp_loop_rounds 12 ?_
    repeat any_goals (rw [rounds_succ]; go_wp2_with fail)
    refine wp_loop_rounds 12 ?_
    repeat any_goals (rw [rounds_succ]; go_wp2_with (go_at_call 8; refine (countPipes_any _ _ (by unfold maxLen; omega)).mono ?_; rintro e w1 ⟨rfl, rfl⟩))
    any_goals (go_ret; exact ⟨rfl, ((((Below.refl _ _).alloc (Nat.le_refl _) _).alloc (by simp) _).alloc (by simp; omega) _).alloc (by simp; omega) _⟩)
    obtain ⟨hall⟩ : Nonempty (Hid (∀ g ∈ Lib.itoa n0 :: [t0.data.toList, t1.data.toList, t2.data.toList, t3.data.toList, t4.data.toList, t5.data.toList, t6.data.toList, t7.data.toList, t8.data.toList, t9.data.toList, Lib.itoa n1, Lib.itoa n2, Lib.itoa n3, t10.data.toList], ∀ x ∈ g, x ≠ 124)) := by
      refine ⟨?_⟩
      intro g hg
      simp only [List.mem_cons, List.not_mem_nil, or_false] at hg
      rcases hg with rfl | rfl | rfl | rfl | rfl | rfl | rfl | rfl | rfl | rfl | rfl | rfl | rfl | rfl | rfl
      all_goals first | exact itoa_no _ | exact pipes_zero _ (by simpa using (by assumption : (_ != (0 : Int)) = false))
    have hb0 : Below w.heap.size w ((((w.alloc (.cells #[.string t0, .string t1, .string t2, .string t3, .string t4, .string t5, .string t6, .string t7, .string t8, .string t9, .string t10] 39)).alloc (.cells #[.int .i64 n0, .int .i64 n1, .int .i64 n2, .int .i64 n3] 40)).alloc (.cells #[.string t0, .string t1, .string t2, .string t3, .string t4, .string t5, .string t6, .string t7, .string t8, .string t9, .string t10] 39)).alloc (.cells #[.int .i64 n0, .int .i64 n1, .int .i64 n2, .int .i64 n3] 40)) := ((((Below.refl _ _).alloc (Nat.le_refl _) _).alloc (by simp) _).alloc (by simp; omega) _).alloc (by simp; omega) _
    refine (stockOf_any t0 t1 t2 t3 t4 t5 t6 t7 t8 t9 t10 n0 n1 n2 n3 _).mono ?_
    rintro e w1 ⟨rfl, hb1⟩
    have hz1 : w.heap.size + 4 ≤ w1.heap.size := by have := hb1.size; simp at this; omega
    have h01 : Below w.heap.size w w1 := hb0.trans (hb1.mono (by simp; omega))
    go_wp2_with fail
    refine (encode_any t0 t1 t2 t3 t4 t5 t6 t7 t8 t9 t10 n0 n1 n2 n3 l0 u0 l1 u1 l2 u2 l3 u3 (by omega) (by omega) (by omega) (by omega) (by omega) (by omega) (by omega) (by omega) (by omega) (by omega) (by omega) w1 (HTab.out w1 h01).1 (HTab.out w1 h01).2).mono ?_
    rintro e w2 ⟨rfl, hb2⟩
    have hz2 : w.heap.size + 4 ≤ w2.heap.size := Nat.le_trans hz1 hb2.size
    have h02 : Below w.heap.size w w2 := h01.trans (hb2.mono (by omega))
    have hcA : ∀ o, w2.cell? ⟨w.heap.size, o, none⟩ = (#[.string t0, .string t1, .string t2, .string t3, .string t4, .string t5, .string t6, .string t7, .string t8, .string t9, .string t10] : Array Value)[o]? := by
      intro o
      rw [hb2.cell (p := ⟨w.heap.size, o, none⟩) (show w.heap.size < w1.heap.size by omega), hb1.cell (p := ⟨w.heap.size, o, none⟩) (by simp; omega)]
      go_simp
    have hcB : ∀ o, w2.cell? ⟨w.heap.size + 1, o, none⟩ = (#[.int .i64 n0, .int .i64 n1, .int .i64 n2, .int .i64 n3] : Array Value)[o]? := by
      intro o
      rw [hb2.cell (p := ⟨w.heap.size + 1, o, none⟩) (show w.heap.size + 1 < w1.heap.size by omega), hb1.cell (p := ⟨w.heap.size + 1, o, none⟩) (by simp)]
      go_simp
    go_wp2_with fail
    refine (stockColumns_any t0 t1 t2 t3 t4 t5 t6 t7 t8 t9 t10 n0 n1 n2 n3 l0 u0 l1 u1 l2 u2 l3 u3 w2).mono ?_
    rintro e w3 ⟨rfl, hb3⟩
    have h03 : Below w.heap.size w w3 := h02.trans (hb3.mono (by omega))
    clear hcA hcB hsum' hz1 hz2 h01 h02 hb0 hb1 hb2 hb3
    have H1 : Hid (∀ o, ((w3.alloc (.cells #[.string ⟨(Lib.itoa n0).toArray⟩, .string t0, .string t1, .string t2, .string t3, .string t4, .string t5, .string t6, .string t7, .string t8, .string t9, .string ⟨(Lib.itoa n1).toArray⟩, .string ⟨(Lib.itoa n2).toArray⟩, .string ⟨(Lib.itoa n3).toArray⟩, .string t10] 46)).alloc o).drew.heap[w3.heap.size]? = some (.cells #[.string ⟨(Lib.itoa n0).toArray⟩, .string t0, .string t1, .string t2, .string t3, .string t4, .string t5, .string t6, .string t7, .string t8, .string t9, .string ⟨(Lib.itoa n1).toArray⟩, .string ⟨(Lib.itoa n2).toArray⟩, .string ⟨(Lib.itoa n3).toArray⟩, .string t10] 46 (0, 0))) := by
      intro o
      show ((w3.alloc (.cells #[.string ⟨(Lib.itoa n0).toArray⟩, .string t0, .string t1, .string t2, .string t3, .string t4, .string t5, .string t6, .string t7, .string t8, .string t9, .string ⟨(Lib.itoa n1).toArray⟩, .string ⟨(Lib.itoa n2).toArray⟩, .string ⟨(Lib.itoa n3).toArray⟩, .string t10] 46)).alloc o).heap[w3.heap.size]? = _
      rw [heap_alloc_old _ _ (by simp)]
      exact heap_alloc_new _ _
    have H2 : Hid (∀ o1 o, ((w3.alloc o1).alloc o).drew.heap[w3.heap.size + 1]? = some o) := by
      intro o1 o
      show ((w3.alloc o1).alloc o).heap[w3.heap.size + 1]? = some o
      have e : (w3.alloc o1).heap.size = w3.heap.size + 1 := by simp
      rw [← e]
      exact heap_alloc_new _ _
    go_wp2_with fail
    go_region_with (first | (go_at_call 13; refine (newDecoder_any _ _).mono ?_; rintro e w4 ⟨rfl, rfl⟩) | (go_at_call 12; refine (readsAll t0 t1 t2 t3 t4 t5 t6 t7 t8 t9 t10 n0 n1 n2 n3 hall.out (w3.heap.size + 1) w3.heap.size (by omega) _ (H1.out _) (H2.out _ _)).mono ?_; rintro e w5 ⟨rfl, hb5⟩))
    all_goals
      go_wp2
      go_ret
      have hz3 : w.heap.size ≤ w3.heap.size := h03.size
      exact ⟨rfl, (((h03.alloc hz3 _).alloc (by simp; omega) _).drew).trans (hb5.mono (Nat.le_succ_of_le hz3))⟩
end Go.Proofs.Qxb6000929aDoor
