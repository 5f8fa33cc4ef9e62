import Derived.Test.Qxb6000929aDoorReads
namespace Go.Proofs.Qxb6000929aDoor
open Go.RowKit

theorem cellT (t0 t1 t2 t3 t4 t5 t6 t7 t8 t9 t10 : ByteArray) (k : Nat) (hk : k < 11) : (#[.string t0, .string t1, .string t2, .string t3, .string t4, .string t5, .string t6, .string t7, .string t8, .string t9, .string t10] : Array Value)[k]? = some (.string ([t0, t1, t2, t3, t4, t5, t6, t7, t8, t9, t10].getD k ⟨#[]⟩)) := by
  have h : k = 0 ∨ k = 1 ∨ k = 2 ∨ k = 3 ∨ k = 4 ∨ k = 5 ∨ k = 6 ∨ k = 7 ∨ k = 8 ∨ k = 9 ∨ k = 10 := by omega
  rcases h with rfl | rfl | rfl | rfl | rfl | rfl | rfl | rfl | rfl | rfl | rfl <;> rfl

def sumTo (T : List ByteArray) (k : Nat) : Nat := ((T.take k).map ByteArray.size).sum

theorem sumTo_succ (T : List ByteArray) (k : Nat) (hk : k < T.length) : sumTo T (k + 1) = sumTo T k + (T.getD k ⟨#[]⟩).size := by
  unfold sumTo
  rw [List.take_succ_eq_append_getElem hk, List.map_append, List.sum_append_nat]
  simp [List.getD, List.getElem?_eq_getElem hk]

/-- What zzBytes answers: a bool; true only where the lengths' sum is at most 1<<20. -/
def ZB (T : List ByteArray) (W : World) (e : Ending) (w' : World) : Prop := ∃ b, e = .returned (.bool b) ∧ (b = true → sumTo T 11 ≤ 1048576) ∧ w' = W

set_option maxHeartbeats 1000000 in
theorem zzBytes_any (A M : Array Value) (T : List ByteArray) (hT : T.length = 11) (hA : ∀ k, k < 11 → A[k]? = some (.string (T.getD k ⟨#[]⟩))) (hm : ∀ k, (T.getD k ⟨#[]⟩).size ≤ maxLen) (w : World) :
    Calls Tryd.prog 16 #[.agg A, .agg M] w (ZB T ((w.alloc (.cells A 39)).alloc (.cells M 40))) := by
  have HA : Hid (∀ k, k < 11 → A[k]? = some (.string (T.getD k ⟨#[]⟩))) := hA
  have HM : Hid (∀ k, (T.getD k ⟨#[]⟩).size ≤ maxLen) := hm
  have HT : Hid (T.length = 11) := hT
  clear hm hA hT
  go_enter Tryd.func16, Tryd.ntmps16
  go_wp2
  go_loop [5, 6] (fun z i => ∃ k : Nat, k ≤ 11 ∧ i = .int .i64 k ∧ z = .int .i64 (sumTo T k) ∧ sumTo T k ≤ 1048576) (fun _ i => 11 - (intOf i).toNat)
  case atStart => exact ⟨0, by omega, rfl, rfl, by simp [sumTo]⟩
  case round =>
    obtain ⟨k, hk, rfl, rfl, hsum⟩ := hrel
    by_cases hlt : k < 11
    · have hss := sumTo_succ T k (by rw [HT.out]; exact hlt)
      have hct := HA.out k hlt
      have hmm := HM.out k
      obtain ⟨s, hs⟩ : ∃ s : ByteArray, s = T.getD k ⟨#[]⟩ := ⟨_, rfl⟩
      rw [← hs] at hss hct hmm
      obtain ⟨S, hS⟩ : ∃ S : Nat, S = sumTo T k := ⟨_, rfl⟩
      rw [← hS] at hss hsum ⊢
      have HSS : Hid (sumTo T (k + 1) = S + s.size) := hss
      clear hss hs hS
      unfold maxLen at hmm
      go_wp2
      · go_ret; exact ⟨false, rfl, by simp, rfl⟩
      · go_ret; exact ⟨false, rfl, by simp, rfl⟩
      · go_round
        case rel => exact ⟨k + 1, by omega, by go_num, by rw [HSS.out]; go_num, by rw [HSS.out]; omega⟩
        case measure => simp [intOf]; omega
    · obtain rfl : k = 11 := by omega
      go_wp2
      go_ret
      exact ⟨true, rfl, fun _ => hsum, rfl⟩

def noPipe (s : ByteArray) : Prop := ∀ x ∈ s.data.toList, x ≠ 124
def pipes (l : List UInt8) : Int := (l.filter fun c => c == 124).length
theorem pipes_le (l : List UInt8) : 0 ≤ pipes l ∧ pipes l ≤ l.length := by
  unfold pipes; exact ⟨by omega, by have := List.length_filter_le (fun c : UInt8 => c == 124) l; omega⟩
theorem take_snoc (s : ByteArray) (k : Nat) (h : k < s.size) : s.data.toList.take (k + 1) = s.data.toList.take k ++ [s[k]] := by
  rw [List.take_succ_eq_append_getElem (by simpa using h)]; rfl
theorem pipes_snoc (l : List UInt8) (c : UInt8) : pipes (l ++ [c]) = pipes l + if ((c.toNat : Int) == 124) = true then 1 else 0 := by
  unfold pipes
  have e : (c == 124) = ((c.toNat : Int) == 124) := by
    rw [Bool.eq_iff_iff, beq_iff_eq, beq_iff_eq]
    constructor
    · rintro rfl; rfl
    · intro h; apply UInt8.toNat.inj; show c.toNat = 124; omega
  rw [List.filter_append]
  by_cases h : ((c.toNat : Int) == 124) = true
  · simp [e, h]
  · simp [e, h]
theorem pipes_zero (s : ByteArray) (h : pipes s.data.toList = 0) : noPipe s := by
  unfold pipes at h
  intro x hx hc
  have : x ∈ s.data.toList.filter fun c => c == 124 := List.mem_filter.2 ⟨hx, by simp [hc]⟩
  have := List.length_pos_of_mem this
  omega

set_option maxHeartbeats 400000 in
theorem countPipes_any (s : ByteArray) (w : World) (hs : s.size ≤ maxLen) :
    Calls Tryd.prog 8 #[.string s] w fun e w' => e = .returned (.int .i64 (pipes s.data.toList)) ∧ w' = w := by
  unfold maxLen at hs
  go_enter Tryd.func8, Tryd.ntmps8
  go_wp2
  go_loop [3, 4] (fun n i => ∃ k : Nat, k ≤ s.size ∧ i = .int .i64 k ∧ n = .int .i64 (pipes (s.data.toList.take k))) (fun _ i => s.size - (intOf i).toNat)
  case atStart => exact ⟨0, Nat.zero_le _, rfl, rfl⟩
  case round =>
    obtain ⟨k, hk, rfl, rfl⟩ := hrel
    have hd := pipes_le (s.data.toList.take k)
    have hl : (s.data.toList.take k).length ≤ k := List.length_take_le _ _
    by_cases hlt : k < s.size
    · have hsn := pipes_snoc (s.data.toList.take k) s[k]
      have hts := take_snoc s k hlt
      have HS : Hid (pipes (s.data.toList.take (k + 1)) = pipes (s.data.toList.take k) + if ((s[k].toNat : Int) == 124) = true then 1 else 0) := by rw [hts]; exact hsn
      clear hsn hts
      go_wp2
      · go_round
        case rel => exact ⟨k + 1, by omega, by go_num, by rw [HS.out, if_pos ‹_›]⟩
        case measure => simp [intOf]; omega
      · have hh : ((s[k].toNat : Int) == 124) = false := by assumption
        have HS' : Hid (pipes (s.data.toList.take (k + 1)) = pipes (s.data.toList.take k)) := by
          have := HS.out
          rw [hh] at this
          exact (by simpa using this : pipes (s.data.toList.take (k + 1)) = pipes (s.data.toList.take k))
        go_round
        case rel => exact ⟨k + 1, by omega, by go_num, by rw [HS'.out]⟩
        case measure => simp [intOf]; omega
    · go_wp2
      go_ret
      exact ⟨by rw [List.take_of_length_le (by simp; omega)]; rfl, rfl⟩
end Go.Proofs.Qxb6000929aDoor
