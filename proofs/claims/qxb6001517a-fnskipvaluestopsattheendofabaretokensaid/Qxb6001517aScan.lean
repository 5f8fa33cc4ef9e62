import Derived.Test.Qxb6001517aRows
import Derived.WalkKit
import Derived.WalkSpells
import Derived.WalkLawsBesides
import Derived.Lib.Bytealg
import Derived.Lib.Builder
import Derived.Deep.QuietTactic
import Derived.BigQuiet
namespace Go.Proofs.Qxb6001517a
open Go.RowKit

/-- The bytes that a scan reads: a slice with no element, or one whose row lies below block sb. -/
def Data (sb : Nat) (W : World) (v : Value) (l : List Int) : Prop :=
  (l = [] ∧ ∃ ao cap, v = .slice ao 0 cap) ∨ ∃ g cap, v = .slice (some ⟨g, 0, none⟩) l.length cap ∧ g < sb ∧ ∀ i, i < l.length → W.cell? ⟨g, i, none⟩ = some (.int .u8 (l.getD i 0))

theorem Data.below {sb : Nat} {W W' : World} {v : Value} {l : List Int} (h : Data sb W v l) (hb : Below sb W W') : Data sb W' v l := by
  rcases h with h | ⟨g, cap, hv, hg, hc⟩
  · exact .inl h
  · exact .inr ⟨g, cap, hv, hg, fun i hi => (hb.cell (p := ⟨g, i, none⟩) hg).trans (hc i hi)⟩

/-- The scan in block sb, over l, at offset k. -/
structure Scan (sb : Nat) (v : Value) (l : List Int) (k : Nat) (W : World) : Prop where
  blk : W.heap[sb]? = some (.cells #[v, .int .i64 k] 34 (0, 0))
  data : Data sb W v l

section
variable {sb : Nat} {v : Value} {l : List Int} {k : Nat} {W : World}

theorem Scan.at_ (h : Scan sb v l k W) : W.cell? ⟨sb, 1, none⟩ = some (.int .i64 k) := by rw [Lib.cell_of_heap h.blk]; rfl
theorem Scan.sl (h : Scan sb v l k W) : W.cell? ⟨sb, 0, none⟩ = some v := by rw [Lib.cell_of_heap h.blk]; rfl
theorem Scan.fz (h : Scan sb v l k W) (j : Nat) : W.frozen? ⟨sb, j, none⟩ = false := Lib.frozen_of_heap h.blk j

theorem Scan.drewN (h : Scan sb v l k W) (n : Nat) : Scan sb v l k (W.drewN n) := ⟨h.blk, h.data⟩

theorem Scan.set (h : Scan sb v l k W) (j : Nat) : Scan sb v l j (W.setCell ⟨sb, 1, none⟩ (.int .i64 j)) := by
  refine ⟨?_, h.data.below ((Below.refl sb W).setCell (p := ⟨sb, 1, none⟩) (Nat.le_refl _) _)⟩
  simp [World.setCell, Array.getElem?_modify, h.blk]

/-- The slice's shape. -/
theorem Scan.shape (h : Scan sb v l k W) : ∃ ao cap, v = .slice ao l.length cap := by
  rcases h.data with ⟨rfl, ao, cap, rfl⟩ | ⟨g, cap, rfl, _, _⟩
  · exact ⟨ao, cap, rfl⟩
  · exact ⟨_, cap, rfl⟩

/-- Where there is an element, it lies in a row. -/
theorem Scan.row (h : Scan sb v l k W) (hk : k < l.length) : ∃ g cap, v = .slice (some ⟨g, 0, none⟩) l.length cap ∧ W.cell? ⟨g, k, none⟩ = some (.int .u8 (l.getD k 0)) := by
  rcases h.data with ⟨rfl, _⟩ | ⟨g, cap, rfl, _, hc⟩
  · cases hk
  · exact ⟨g, cap, rfl, hc k hk⟩
end

theorem Below.drewN {B : Nat} {a w : World} (h : Below B a w) (n : Nat) : Below B a (w.drewN n) := ⟨h.os, h.tape, h.output, h.size, h.block⟩
theorem Below.at_ {sb : Nat} {a w : World} (h : Below sb a w) (u : Value) : Below sb a (w.setCell ⟨sb, 1, none⟩ u) := h.setCell (p := ⟨sb, 1, none⟩) (Nat.le_refl _) u

def atOf (sb : Nat) (W : World) : Nat := match W.cell? ⟨sb, 1, none⟩ with | some (.int _ z) => z.toNat | _ => 0
theorem Scan.atOf {sb : Nat} {v : Value} {l : List Int} {k : Nat} {W : World} (h : Scan sb v l k W) : atOf sb W = k := by
  simp [Qxb6001517a.atOf, h.at_]

theorem Scan.meas {sb : Nat} {v : Value} {l : List Int} {j j0 : Nat} {W W' : World} (h : Scan sb v l j W') (h0 : Qxb6001517a.atOf sb W = j0) {N : Nat} (hj : j0 < j) (hN : j0 < N) : N - Qxb6001517a.atOf sb W' < N - Qxb6001517a.atOf sb W := by
  rw [h.atOf, h0]; omega

set_option maxHeartbeats 400000 in
theorem peek_in (sb : Nat) (v : Value) (l : List Int) (k : Nat) (x : Int) (w : World) (h : Scan sb v l k w) (hk : k < l.length) (hx : l.getD k 0 = x) :
    Calls Try.prog 30 #[.pointer (some ⟨sb, 0, none⟩)] w fun e w' => e = .returned (.int .u8 x) ∧ ∃ n, w' = w.drewN n := by
  obtain ⟨g, cap, rfl, hc⟩ := h.row hk
  rw [hx] at hc
  clear hx
  have ha := h.at_
  have hs := h.sl
  have i1 : (0 : Int) ≤ (k : Int) := by omega
  have i2 : (k : Int) < (l.length : Int) := by omega
  clear h
  go_enter Try.func30, Try.ntmps30
  go_wp2
  go_quiet (fail)
  go_wp2
  go_quiet (fail)
  go_wp2
  go_ret
  exact ⟨rfl, _, World.drewN_drewN _ _ _⟩

set_option maxHeartbeats 400000 in
theorem peek_end (sb : Nat) (v : Value) (l : List Int) (k : Nat) (w : World) (h : Scan sb v l k w) (hk : ¬ k < l.length) :
    Calls Try.prog 30 #[.pointer (some ⟨sb, 0, none⟩)] w fun e w' => e = .returned (.int .u8 0) ∧ ∃ n, w' = w.drewN n := by
  obtain ⟨ao, cap, rfl⟩ := h.shape
  have ha := h.at_
  have hs := h.sl
  have i1 : (l.length : Int) ≤ (k : Int) := by omega
  clear h
  go_enter Try.func30, Try.ntmps30
  go_wp2
  go_quiet (fail)
  go_wp2
  go_ret
  exact ⟨rfl, _, rfl⟩

set_option maxHeartbeats 1000000 in
theorem skipString_any (sb : Nat) (v : Value) (l : List Int) (k : Nat) (w : World) (h : Scan sb v l k w) (hk : k ≤ l.length) (hl : l.length ≤ 4194304) :
    Calls Try.prog 22 #[.pointer (some ⟨sb, 0, none⟩)] w fun e w' => e = .returned (.tuple #[]) ∧ ∃ j, k < j ∧ j ≤ l.length + 1 ∧ Scan sb v l j w' ∧ Below sb w w' := by
  have ha := h.at_
  have hf := h.fz 1
  have HH : Hid (Scan sb v l k w) := h
  clear h
  go_enter Try.func22, Try.ntmps22
  go_wp2
  go_loopw [] (fun wr => ∃ j, k < j ∧ j ≤ l.length + 1 ∧ Scan sb v l j wr ∧ Below sb w wr) (fun wr => l.length + 2 - atOf sb wr)
  case atStart => exact ⟨k + 1, by omega, by omega, HH.out.set (k + 1), (Below.refl sb w).setCell (p := ⟨sb, 1, none⟩) (Nat.le_refl _) _⟩
  case round =>
    clear HH ha hf
    obtain ⟨j, hj1, hj2, hs, hb⟩ := hrel
    have hao := hs.atOf
    by_cases hlt : j < l.length
    · obtain ⟨g, cap, rfl, hc⟩ := hs.row hlt
      obtain ⟨x, hx⟩ : ∃ x, l.getD j 0 = x := ⟨_, rfl⟩
      rw [hx] at hc
      have ha := hs.at_
      have hsl := hs.sl
      have hf := hs.fz 1
      have HH : Hid (Scan sb (.slice (some ⟨g, 0, none⟩) l.length cap) l j wr) := hs
      have HA : Hid (atOf sb wr = j) := hao
      have i1 : (0 : Int) ≤ (j : Int) := by omega
      have i2 : (j : Int) < (l.length : Int) := by omega
      clear hs hao hx
      go_wp2
      go_quiet (fail)
      go_wp2
      go_quiet (fail)
      go_wp2
      · refine ⟨⟨j + 1 + 1, by omega, by omega, ((HH.out.drewN _).set (j + 1)).set (j + 1 + 1), ?_⟩, ?_⟩
        · exact Below.at_ (Below.at_ (Below.drewN hb _) _) _
        · exact Scan.meas (((HH.out.drewN _).set (j + 1)).set (j + 1 + 1)) HA.out (by omega) (by omega)
      · refine bodyPost_ret (results_none rfl _ _ _) rfl ?_
        exact ⟨rfl, j + 1, by omega, by omega, (HH.out.drewN _).set (j + 1), Below.at_ (Below.drewN hb _) _⟩
      · refine ⟨⟨j + 1, by omega, by omega, (HH.out.drewN _).set (j + 1), Below.at_ (Below.drewN hb _) _⟩, ?_⟩
        · exact Scan.meas ((HH.out.drewN _).set (j + 1)) HA.out (by omega) (by omega)
    · obtain ⟨ao, cap, rfl⟩ := hs.shape
      have ha := hs.at_
      have hsl := hs.sl
      have i1 : (l.length : Int) ≤ (j : Int) := by omega
      have HH : Hid (Scan sb (.slice ao l.length cap) l j wr) := hs
      clear hs hao
      go_wp2
      go_quiet (fail)
      go_wp2
      go_end0
      exact ⟨rfl, j, by omega, by omega, HH.out.drewN _, Below.drewN hb _⟩
end Go.Proofs.Qxb6001517a
