import Derived.Test.Qxb6000929aDoorDec
import Derived.Deep.RegionWith
namespace Go.Proofs.Qxb6000929aDoor
open Go.RowKit

/-- Columns, each behind a '|'. -/
def tj (gs : List (List UInt8)) : List UInt8 := gs.flatMap fun g => 124 :: g

theorem tj_cons (g : List UInt8) (gs : List (List UInt8)) : tj (g :: gs) = 124 :: (g ++ tj gs) := by simp [tj]

/-- How the decoder stands behind k reads of the row's columns. -/
def St (db : Nat) (f : List UInt8) (fs : List (List UInt8)) (k : Nat) (w : World) : Prop :=
  (k = 0 ∧ DecAt db ⟨(f ++ tj fs).toArray⟩ false false w) ∨ (∃ j, k = j + 1 ∧ DecAt db ⟨(tj (fs.drop j)).toArray⟩ true false w)

theorem st_bad {db : Nat} {f : List UInt8} {fs : List (List UInt8)} {k : Nat} {w : World} (h : St db f fs k w) : w.cell? ⟨db, 2, none⟩ = some (.bool false) := by
  rcases h with ⟨_, h⟩ | ⟨j, _, h⟩ <;> (rw [Lib.cell_of_heap h]; rfl)

theorem dec_step (db : Nat) (f : List UInt8) (fs : List (List UInt8)) (hne : fs ≠ []) (hall : ∀ g ∈ f :: fs, ∀ x ∈ g, x ≠ 124) (k : Nat) (hk : k < (f :: fs).length) (w : World) (h : St db f fs k w) :
    Calls Tryd.prog 32 #[.pointer (some ⟨db, 0, none⟩)] w fun e w' => e = .returned (.string ⟨((f :: fs)[k]'hk).toArray⟩) ∧ St db f fs (k + 1) w' ∧ Below db w w' := by
  rcases h with ⟨rfl, h⟩ | ⟨j, rfl, h⟩
  · obtain ⟨g, gs, rfl⟩ : ∃ g gs, fs = g :: gs := by cases fs with | nil => exact absurd rfl hne | cons g gs => exact ⟨g, gs, rfl⟩
    rw [tj_cons] at h
    refine (dec_first db f _ w (hall f (by simp)) h).mono ?_
    rintro e w' ⟨rfl, h1, h2⟩
    exact ⟨rfl, .inr ⟨0, rfl, by rw [List.drop_zero, tj_cons]; exact h1⟩, h2⟩
  · have hj : j < fs.length := by simpa using hk
    have hd : fs.drop j = fs[j] :: fs.drop (j + 1) := List.drop_eq_getElem_cons hj
    rw [hd, tj_cons] at h
    have hf : ∀ x ∈ fs[j], x ≠ 124 := hall _ (by simp)
    cases hr : fs.drop (j + 1) with
    | nil =>
      rw [hr] at h
      simp only [tj, List.flatMap_nil, List.append_nil] at h
      refine (dec_last db _ w hf h).mono ?_
      rintro e w' ⟨rfl, h1, h2⟩
      exact ⟨rfl, .inr ⟨j + 1, rfl, by rw [hr]; exact h1⟩, h2⟩
    | cons g gs =>
      rw [hr, tj_cons] at h
      refine (dec_next db _ _ w hf h).mono ?_
      rintro e w' ⟨rfl, h1, h2⟩
      exact ⟨rfl, .inr ⟨j + 1, rfl, by rw [hr, tj_cons]; exact h1⟩, h2⟩

set_option maxHeartbeats 400000 in
theorem zzText {Q : Ending → World → Prop} (db : Nat) (w : World) (v : Value) (h : Calls Tryd.prog 32 #[.pointer (some ⟨db, 0, none⟩)] w fun e w' => e = .returned v ∧ Q e w') :
    Calls Tryd.prog 25 #[.pointer (some ⟨db, 0, none⟩)] w fun e w' => e = .returned v ∧ Q e w' := by
  have H : Hid (Calls Tryd.prog 32 #[.pointer (some ⟨db, 0, none⟩)] w fun e w' => e = .returned v ∧ Q e w') := h
  clear h
  go_enter Tryd.func25, Tryd.ntmps25
  go_wp2_with (go_at_call 32; refine Calls.mono H.out ?_; rintro e w' ⟨rfl, hb⟩)
  go_ret
  exact ⟨rfl, hb⟩

set_option maxHeartbeats 400000 in
theorem zzBad (db : Nat) (w : World) (b : Bool) (h : w.cell? ⟨db, 2, none⟩ = some (.bool b)) :
    Calls Tryd.prog 26 #[.pointer (some ⟨db, 0, none⟩)] w fun e w' => e = .returned (.bool b) ∧ w' = w := by
  go_enter Tryd.func26, Tryd.ntmps26
  go_wp2
  go_ret
  exact ⟨rfl, rfl⟩

set_option maxHeartbeats 400000 in
theorem zzRest (db : Nat) (w : World) (r : ByteArray) (h : w.cell? ⟨db, 0, none⟩ = some (.string r)) :
    Calls Tryd.prog 27 #[.pointer (some ⟨db, 0, none⟩)] w fun e w' => e = .returned (.string r) ∧ w' = w := by
  go_enter Tryd.func27, Tryd.ntmps27
  go_wp2
  go_ret
  exact ⟨rfl, rfl⟩

set_option maxHeartbeats 1000000 in
theorem reads (db wb : Nat) (hwb : wb < db) (f : List UInt8) (fs : List (List UInt8)) (n : Nat) (hn : (f :: fs).length = n) (hn1 : n ≤ 1000) (hne : fs ≠ []) (hall : ∀ g ∈ f :: fs, ∀ x ∈ g, x ≠ 124) (w : World)
    (hw : ∀ (k : Nat) (hk : k < (f :: fs).length), w.cell? ⟨wb, k, none⟩ = some (.string ⟨((f :: fs)[k]'hk).toArray⟩)) (h : St db f fs 0 w) :
    Calls Tryd.prog 12 #[.pointer (some ⟨db, 0, none⟩), .slice (some ⟨wb, 0, none⟩) n n] w fun e w' => e = .returned (.bool true) ∧ Below db w w' := by
  have HN : Hid ((f :: fs).length = n) := hn
  have HALL : Hid (∀ g ∈ f :: fs, ∀ x ∈ g, x ≠ 124) := hall
  have HW : Hid (∀ (k : Nat) (hk : k < (f :: fs).length), w.cell? ⟨wb, k, none⟩ = some (.string ⟨((f :: fs)[k]'hk).toArray⟩)) := hw
  have HNE : Hid (fs ≠ []) := hne
  clear hn hall hw hne
  go_enter Tryd.func12, Tryd.ntmps12
  go_wp2
  go_loopw [5] (fun i wr => ∃ k : Nat, k ≤ n ∧ i = .int .i64 k ∧ St db f fs k wr ∧ Below db w wr) (fun i _ => n - (intOf i).toNat)
  case atStart => exact ⟨0, Nat.zero_le _, rfl, h, Below.refl _ _⟩
  case round =>
    obtain ⟨k, hk, rfl, hst, hb⟩ := hrel
    by_cases hlt : k < n
    · have hk' : k < (f :: fs).length := by rw [HN.out]; exact hlt
      obtain ⟨s, hs⟩ : ∃ s : ByteArray, s = ⟨((f :: fs)[k]'hk').toArray⟩ := ⟨_, rfl⟩
      have hc : wr.cell? ⟨wb, k, none⟩ = some (.string s) := by rw [hs, hb.cell (p := ⟨wb, k, none⟩) hwb]; exact HW.out k hk'
      have HS : Hid (∀ W, St db f fs k W → Calls Tryd.prog 25 #[.pointer (some ⟨db, 0, none⟩)] W fun e w' => e = .returned (.string s) ∧ St db f fs (k + 1) w' ∧ Below db W w') := by
        intro W hW; rw [hs]; exact zzText (Q := fun _ w' => St db f fs (k + 1) w' ∧ Below db W w') db W _ (dec_step db f fs HNE.out HALL.out k hk' W hW)
      clear hs
      go_wp2_with fail
      go_region_with (go_at_call 25; refine Calls.mono (HS.out _ hst) ?_; rintro e w1 ⟨rfl, hst1, hb1⟩; have hc1 : w1.cell? ⟨wb, k, none⟩ = some (.string s) := (hb1.cell (p := ⟨wb, k, none⟩) hwb).trans hc)
      all_goals
        have hbad := st_bad hst1
        go_wp2_with (go_at_call 26; refine (zzBad db _ false hbad).mono ?_; rintro e w2 ⟨rfl, rfl⟩)
        go_roundw
        case rel => exact ⟨k + 1, by omega, by go_num, hst1, hb.drew.trans hb1⟩
        case measure => simp [intOf]; omega
    · have hkn : k = n := by omega
      subst hkn
      have hD : DecAt db ⟨#[]⟩ true false wr := by
        rcases hst with ⟨h0, _⟩ | ⟨j, hj, hd⟩
        · have := HN.out; simp at this; omega
        · have e : fs.drop j = [] := by
            apply List.drop_eq_nil_of_le
            have := HN.out; simp at this; omega
          rw [e] at hd; exact hd
      have c0 : wr.cell? ⟨db, 0, none⟩ = some (.string ⟨#[]⟩) := by rw [Lib.cell_of_heap hD]; rfl
      clear hst
      go_wp2_with (first | (go_at_call 27; refine (zzRest db _ _ c0).mono ?_; rintro e w2 ⟨rfl, rfl⟩) | (go_at_call 25; refine (zzText (Q := fun _ w' => DecAt db ⟨#[]⟩ true true w' ∧ Below db _ w') db _ _ (text_bad db _ hD)).mono ?_; rintro e w3 ⟨rfl, h3, hb3⟩; have c3 : w3.cell? ⟨db, 2, none⟩ = some (.bool true) := (by rw [Lib.cell_of_heap h3]; rfl)) | (go_at_call 26; refine (zzBad db _ true c3).mono ?_; rintro e w4 ⟨rfl, rfl⟩))
      go_ret
      exact ⟨rfl, hb.trans hb3⟩
end Go.Proofs.Qxb6000929aDoor
