import Derived.Test.Qxb6001175aField
namespace Go.Proofs.Qxb6001175a
open Go.RowKit Pl

/-- It answers a bool, and where that is true P holds; the world is as it was. -/
def Asks (P : Prop) (W : World) (e : Ending) (w' : World) : Prop := ∃ b, e = .returned (.bool b) ∧ (b = true → P) ∧ w' = W

def NoSpecial (l : List UInt8) : Prop := ∀ c ∈ l, c ≠ 61 ∧ c ≠ 44 ∧ c ≠ 92

theorem nsp_snoc {l : List UInt8} {c : UInt8} (h : NoSpecial l) (h1 : ((c.toNat : Int) == 61) = false) (h2 : ((c.toNat : Int) == 44) = false) (h3 : ((c.toNat : Int) == 92) = false) : NoSpecial (l ++ [c]) := by
  intro x hx
  rcases List.mem_append.1 hx with hx | hx
  · exact h x hx
  · simp at hx
    subst hx
    refine ⟨?_, ?_, ?_⟩
    · rintro rfl; exact absurd h1 (by decide)
    · rintro rfl; exact absurd h2 (by decide)
    · rintro rfl; exact absurd h3 (by decide)

set_option maxHeartbeats 400000 in
theorem noSpecial_any (s : ByteArray) (w : World) (hs : s.size ≤ maxLen) :
    Calls Try.prog 21 #[.string s] w (Asks (NoSpecial s.data.toList) w) := by
  unfold maxLen at hs
  go_enter Try.func21, Try.ntmps21
  go_wp2
  go_loop [3] (fun i => ∃ k : Nat, k ≤ s.size ∧ i = .int .i64 k ∧ NoSpecial (s.data.toList.take k)) (fun i => s.size - (intOf i).toNat)
  case atStart => exact ⟨0, Nat.zero_le _, rfl, by intro c hc; simp at hc⟩
  case round =>
    obtain ⟨k, hk, rfl, hns⟩ := hrel
    have HN : Hid (NoSpecial (s.data.toList.take k)) := hns
    clear hns
    by_cases hlt : k < s.size
    · have HT : Hid (s.data.toList.take (k + 1) = s.data.toList.take k ++ [s[k]]) := take_snoc s k hlt
      by_cases h1 : ((s[k].toNat : Int) == 61) = true
      · go_wp2
        go_ret
        exact ⟨false, rfl, by simp, rfl⟩
      by_cases h2 : ((s[k].toNat : Int) == 44) = true
      · have h1' : ((s[k].toNat : Int) == 61) = false := by simpa using h1
        clear h1
        go_wp2
        go_ret
        exact ⟨false, rfl, by simp, rfl⟩
      by_cases h3 : ((s[k].toNat : Int) == 92) = true
      · have h1' : ((s[k].toNat : Int) == 61) = false := by simpa using h1
        have h2' : ((s[k].toNat : Int) == 44) = false := by simpa using h2
        clear h1 h2
        go_wp2
        go_ret
        exact ⟨false, rfl, by simp, rfl⟩
      have h1' : ((s[k].toNat : Int) == 61) = false := by simpa using h1
      have h2' : ((s[k].toNat : Int) == 44) = false := by simpa using h2
      have h3' : ((s[k].toNat : Int) == 92) = false := by simpa using h3
      clear h1 h2 h3
      have R : Hid (NoSpecial (s.data.toList.take (k + 1))) := by
        show NoSpecial (s.data.toList.take (k + 1))
        rw [HT.out]; exact nsp_snoc HN.out h1' h2' h3'
      go_wp2
      go_round
      case rel => exact ⟨k + 1, by omega, by go_num, R.out⟩
      case measure => simp [intOf]; omega
    · go_wp2
      go_ret
      have e : s.data.toList.take k = s.data.toList := List.take_of_length_le (by simp; omega)
      exact ⟨true, rfl, fun _ => by rw [← e]; exact HN.out, rfl⟩

set_option maxHeartbeats 400000 in
theorem clean_any (s : ByteArray) (w : World) (hs : s.size ≤ maxLen) :
    Calls Try.prog 16 #[.string s] w (Asks (Clean s.data.toList) w) := by
  have H : Hid (∀ W, Calls Try.prog 21 #[.string s] W (Asks (NoSpecial s.data.toList) W)) := fun W => noSpecial_any s W hs
  unfold maxLen at hs
  by_cases h0 : s.size = 0
  · have h0' : ((s.size : Int) == 0) = true := by rw [beq_iff_eq]; omega
    have HE : Hid (s.data.toList = []) := List.length_eq_zero_iff.1 (by rw [Array.length_toList]; exact h0)
    go_enter Try.func16, Try.ntmps16
    go_wp2_with (go_at_call 21; refine (H.out _).mono ?_; rintro e w' ⟨b, rfl, hb, rfl⟩)
    · go_ret
      exact ⟨false, rfl, by simp, rfl⟩
    · go_ret
      exact ⟨true, rfl, fun _ => by rw [HE.out]; exact ⟨by intro c hc; simp at hc, by simp⟩, rfl⟩
  · have h0' : ((s.size : Int) == 0) = false := by rw [beq_eq_false_iff_ne]; omega
    obtain ⟨m, hm⟩ : ∃ m, s.size = m + 1 := ⟨s.size - 1, by omega⟩
    have hm' : (s.size : Int) - 1 = (m : Int) := by omega
    have hml : m < s.size := by omega
    have HL : Hid (s.data.toList.getLast? = some s[m]) := by
      show s.data.toList.getLast? = some s[m]
      have hl : s.data.toList.length = s.size := by rw [Array.length_toList]; rfl
      rw [List.getLast?_eq_getElem?, hl, hm, Nat.add_sub_cancel, List.getElem?_eq_getElem (by omega)]
      rfl
    have HM : Hid (s.size = m + 1) := hm
    clear hm h0
    go_enter Try.func16, Try.ntmps16
    go_wp2_with (go_at_call 21; refine (H.out _).mono ?_; rintro e w' ⟨b, rfl, hb, rfl⟩)
    · go_ret
      exact ⟨false, rfl, by simp, rfl⟩
    · go_ret
      refine ⟨_, rfl, fun h => ⟨hb (by simpa using (by assumption : (!b) = false)), ?_⟩, rfl⟩
      rw [HL.out]
      intro h33
      have e : s[m] = 33 := Option.some.inj h33
      rw [e] at h
      exact absurd h (by decide)

set_option maxHeartbeats 400000 in
theorem op_any (k : Int) (h0 : 0 ≤ k) (h1 : k ≤ 255) (w : World) :
    Calls Try.prog 17 #[.int .u8 k] w fun e w' => e = .returned (.string ⟨(opOf (k % 3).toNat).toArray⟩) ∧ w' = w := by
  have h3 : k % 3 = 0 ∨ k % 3 = 1 ∨ k % 3 = 2 := by omega
  rcases h3 with h | h | h
  all_goals
    have H : Hid (k % 3 = _) := h
    go_enter Try.func17, Try.ntmps17
    go_wp2
    go_ret
    rw [H.out]
    exact ⟨rfl, rfl⟩

set_option maxHeartbeats 1000000 in
theorem zzBytes_any (a0 a1 a3 a4 a6 : ByteArray) (a2 a5 : Int) (w : World) :
    Calls Try.prog 15 #[.string a0, .string a1, .int .u8 a2, .string a3, .string a4, .int .u8 a5, .string a6] w (Asks True w) := by
  go_enter Try.func15, Try.ntmps15
  go_wp2
  all_goals
    go_ret
    exact ⟨_, rfl, fun _ => trivial, rfl⟩
end Go.Proofs.Qxb6001175a
