import Derived.Test.Qxb6000929aDoorReads
namespace Go.Proofs.Qxb6000929aDoor
open Go.RowKit

theorem ret_str {a b : List UInt8} (h : a = b) : Ending.returned (.string ⟨a.toArray⟩) = .returned (.string ⟨b.toArray⟩) := by rw [h]

/-- The encoder, begun, behind i + 1 columns; what lay below B stands as it stood in W. -/
def EncL (W : World) (B : Nat) (i : Nat) (l : List UInt8) (w : World) : Prop :=
  EncAt B B (.pointer (some ⟨B, 0, none⟩)) true (Lib.byteCells l) w ∧ l.length ≤ (i + 1) * 2000000 ∧ Below B W w ∧ B ≤ W.heap.size ∧ Lib.TabIs Tryd.prog w powName .u64 Lib.pow10Tab

theorem EncL.cell {W w : World} {B i : Nat} {l : List UInt8} (h : EncL W B i l w) (b : Nat) (hb : b < B) (o : Nat) : w.cell? ⟨b, o, none⟩ = W.cell? ⟨b, o, none⟩ := h.2.2.1.cell (p := ⟨b, o, none⟩) hb

theorem powAt : ∃ g, Tryd.prog.globalNamed powName = some g := by
  have h : (Tryd.prog.globalNamed powName).isSome = true := by kernel_rfl
  exact Option.isSome_iff_exists.1 h

theorem tab_below {B : Nat} {W W' : World} (h : Below B W W') (ht : Lib.TabIs Tryd.prog W powName .u64 Lib.pow10Tab) (hB : ∀ g, Tryd.prog.globalNamed powName = some g → g < B) : Lib.TabIs Tryd.prog W' powName .u64 Lib.pow10Tab := by
  obtain ⟨g, hg⟩ := powAt
  exact var?_below h hg (hB g hg) ht

theorem text_step (W : World) (B i : Nat) (l : List UInt8) (s : ByteArray) (w : World) (hB : ∀ g, Tryd.prog.globalNamed powName = some g → g < B) (h : EncL W B i l w) (hi : i ≤ 20) (hs : s.size ≤ 1048576) :
    Calls Tryd.prog 21 #[.pointer (some ⟨B, 0, none⟩), .string s] w fun e w' => e = .returned (.tuple #[]) ∧ EncL W B (i + 1) (l ++ 124 :: s.data.toList) w' := by
  obtain ⟨h1, h2, h3, h4, h5⟩ := h
  refine (text_next B B l s w h1 (by omega) (by omega) (Nat.le_trans h4 h3.size)).mono ?_
  rintro e w' ⟨rfl, h6, h7⟩
  exact ⟨rfl, h6, by simp; omega, h3.trans h7, h4, tab_below h7 h5 hB⟩

theorem int_step (W : World) (B i : Nat) (l : List UInt8) (n : Int) (h0 : -9223372036854775808 ≤ n) (h1 : n ≤ 9223372036854775807) (w : World) (hB : ∀ g, Tryd.prog.globalNamed powName = some g → g < B) (h : EncL W B i l w) (hi : i ≤ 20) :
    Calls Tryd.prog 23 #[.pointer (some ⟨B, 0, none⟩), .int .i64 n] w fun e w' => e = .returned (.tuple #[]) ∧ EncL W B (i + 1) (l ++ 124 :: Lib.itoa n) w' := by
  obtain ⟨g1, h2, h3, h4, h5⟩ := h
  have hl := itoa_len n h0 h1
  refine (int_next B B l n h0 h1 w g1 (by omega) (Nat.le_trans h4 h3.size) h5).mono ?_
  rintro e w' ⟨rfl, h6, h7⟩
  exact ⟨rfl, h6, by simp; omega, h3.trans h7, h4, tab_below h7 h5 hB⟩

theorem int_begin (W : World) (B : Nat) (n : Int) (h0 : -9223372036854775808 ≤ n) (h1 : n ≤ 9223372036854775807) (hB : ∀ g, Tryd.prog.globalNamed powName = some g → g < B) (h : EncAt B B (.pointer none) false (Lib.byteCells []) W) (ht : Lib.TabIs Tryd.prog W powName .u64 Lib.pow10Tab) :
    Calls Tryd.prog 23 #[.pointer (some ⟨B, 0, none⟩), .int .i64 n] W fun e w' => e = .returned (.tuple #[]) ∧ EncL W B 0 (Lib.itoa n) w' := by
  have hl := itoa_len n h0 h1
  have hlt := h.lt
  refine (int_first B B n h0 h1 W h (by omega) ht).mono ?_
  rintro e w' ⟨rfl, h6, h7⟩
  exact ⟨rfl, h6, by omega, h7, by omega, tab_below h7 ht hB⟩

set_option maxHeartbeats 2000000 in
theorem encode_any (t0 t1 t2 t3 t4 t5 t6 t7 t8 t9 t10 : ByteArray) (n0 n1 n2 n3 : Int) (l0 : -9223372036854775808 ≤ n0) (u0 : n0 ≤ 9223372036854775807) (l1 : -9223372036854775808 ≤ n1) (u1 : n1 ≤ 9223372036854775807) (l2 : -9223372036854775808 ≤ n2) (u2 : n2 ≤ 9223372036854775807) (l3 : -9223372036854775808 ≤ n3) (u3 : n3 ≤ 9223372036854775807) (s0 : t0.size ≤ 1048576) (s1 : t1.size ≤ 1048576) (s2 : t2.size ≤ 1048576) (s3 : t3.size ≤ 1048576) (s4 : t4.size ≤ 1048576) (s5 : t5.size ≤ 1048576) (s6 : t6.size ≤ 1048576) (s7 : t7.size ≤ 1048576) (s8 : t8.size ≤ 1048576) (s9 : t9.size ≤ 1048576) (s10 : t10.size ≤ 1048576) (w : World) (ht : Lib.TabIs Tryd.prog w powName .u64 Lib.pow10Tab) (hB : ∀ g, Tryd.prog.globalNamed powName = some g → g < w.heap.size) :
    Calls Tryd.prog 18 #[.agg #[.int .i64 n0, .string t0, .string t1, .string t2, .string t3, .string t4, .string t5, .string t6, .string t7, .string t8, .string t9, .int .i64 n1, .int .i64 n2, .int .i64 n3, .string t10]] w fun e w' => e = .returned (.string ⟨(Lib.itoa n0 ++ tj [t0.data.toList, t1.data.toList, t2.data.toList, t3.data.toList, t4.data.toList, t5.data.toList, t6.data.toList, t7.data.toList, t8.data.toList, t9.data.toList, Lib.itoa n1, Lib.itoa n2, Lib.itoa n3, t10.data.toList]).toArray⟩) ∧ Below w.heap.size w w' := by
  have hB' : ∀ g, Tryd.prog.globalNamed powName = some g → g < w.heap.size + 1 := fun g hg => Nat.lt_succ_of_lt (hB g hg)
  have HB : Hid (∀ g, Tryd.prog.globalNamed powName = some g → g < w.heap.size + 1) := hB'
  have HT : Hid (∀ o1 o2, Lib.TabIs Tryd.prog ((w.alloc o1).alloc o2) powName .u64 Lib.pow10Tab) := fun o1 o2 =>
    tab_below (((Below.refl w.heap.size w).alloc (Nat.le_refl _) _).alloc (by simp) _) ht hB
  have HE : Hid (∀ o1, EncAt (w.heap.size + 1) (w.heap.size + 1) (.pointer none) false (Lib.byteCells []) ((w.alloc o1).alloc (.cells #[.pointer none, .slice none 0 0, .bool false] 53))) := by
    intro o1
    have e : (w.alloc o1).heap.size = w.heap.size + 1 := by simp
    refine ⟨Nat.le_refl _, .slice none 0 0, ?_, World.ownsRow_nil _ _ _ _, by simp [Value.ownBlock]⟩
    rw [← e]; exact heap_alloc_new _ _
  clear hB hB' ht
  have ix0 : ∀ W, (Instr.index 42 (.agg #[.string t0, .string t1, .string t2, .string t3, .string t4, .string t5, .string t6, .string t7, .string t8, .string t9]) (.int .i64 0)).run Tryd.prog W = .ok (.string t0) W := fun _ => by kernel_rfl
  have ix1 : ∀ W, (Instr.index 42 (.agg #[.string t0, .string t1, .string t2, .string t3, .string t4, .string t5, .string t6, .string t7, .string t8, .string t9]) (.int .i64 1)).run Tryd.prog W = .ok (.string t1) W := fun _ => by kernel_rfl
  have ix2 : ∀ W, (Instr.index 42 (.agg #[.string t0, .string t1, .string t2, .string t3, .string t4, .string t5, .string t6, .string t7, .string t8, .string t9]) (.int .i64 2)).run Tryd.prog W = .ok (.string t2) W := fun _ => by kernel_rfl
  have ix3 : ∀ W, (Instr.index 42 (.agg #[.string t0, .string t1, .string t2, .string t3, .string t4, .string t5, .string t6, .string t7, .string t8, .string t9]) (.int .i64 3)).run Tryd.prog W = .ok (.string t3) W := fun _ => by kernel_rfl
  have ix4 : ∀ W, (Instr.index 42 (.agg #[.string t0, .string t1, .string t2, .string t3, .string t4, .string t5, .string t6, .string t7, .string t8, .string t9]) (.int .i64 4)).run Tryd.prog W = .ok (.string t4) W := fun _ => by kernel_rfl
  have ix5 : ∀ W, (Instr.index 42 (.agg #[.string t0, .string t1, .string t2, .string t3, .string t4, .string t5, .string t6, .string t7, .string t8, .string t9]) (.int .i64 5)).run Tryd.prog W = .ok (.string t5) W := fun _ => by kernel_rfl
  have ix6 : ∀ W, (Instr.index 42 (.agg #[.string t0, .string t1, .string t2, .string t3, .string t4, .string t5, .string t6, .string t7, .string t8, .string t9]) (.int .i64 6)).run Tryd.prog W = .ok (.string t6) W := fun _ => by kernel_rfl
  have ix7 : ∀ W, (Instr.index 42 (.agg #[.string t0, .string t1, .string t2, .string t3, .string t4, .string t5, .string t6, .string t7, .string t8, .string t9]) (.int .i64 7)).run Tryd.prog W = .ok (.string t7) W := fun _ => by kernel_rfl
  have ix8 : ∀ W, (Instr.index 42 (.agg #[.string t0, .string t1, .string t2, .string t3, .string t4, .string t5, .string t6, .string t7, .string t8, .string t9]) (.int .i64 8)).run Tryd.prog W = .ok (.string t8) W := fun _ => by kernel_rfl
  have ix9 : ∀ W, (Instr.index 42 (.agg #[.string t0, .string t1, .string t2, .string t3, .string t4, .string t5, .string t6, .string t7, .string t8, .string t9]) (.int .i64 9)).run Tryd.prog W = .ok (.string t9) W := fun _ => by kernel_rfl
  go_enter Tryd.func18, Tryd.ntmps18
  go_wp2_with (go_at_call 23; refine (int_begin _ (w.heap.size + 1) n0 l0 u0 HB.out (HE.out _) (HT.out _ _)).mono ?_; rintro e w1 ⟨rfl, h1⟩; have c1 := h1.cell w.heap.size (by omega))
  refine wp_loop_rounds 11 ?_
  repeat any_goals (rw [rounds_succ]; go_wp2_with (first | (go_at_call 21; refine (text_step _ (w.heap.size + 1) _ _ _ _ HB.out (by assumption) (by decide) (by assumption)).mono ?_; rintro e w2 ⟨rfl, h2⟩; have c2 := h2.cell w.heap.size (by omega)) | (go_at_call 23; refine (int_step _ (w.heap.size + 1) _ _ _ (by assumption) (by assumption) _ HB.out (by assumption) (by decide)).mono ?_; rintro e w2 ⟨rfl, h2⟩; have c2 := h2.cell w.heap.size (by omega))))
  refine (string_any (w.heap.size + 1) (w.heap.size + 1) _ _ _ _ h2.1 (by simp)).mono ?_
  rintro e w3 ⟨rfl, hb3⟩
  go_wp2
  go_ret
  refine ⟨ret_str (by simp [tj]), ?_⟩
  exact (((Below.refl w.heap.size w).alloc (Nat.le_refl _) _).alloc (by simp) _).trans ((h2.2.2.1.trans hb3).mono (Nat.le_succ _))
end Go.Proofs.Qxb6000929aDoor
