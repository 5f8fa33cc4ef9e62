import Derived.Test.Qxb6001517aMore
import Derived.OwnWalk
import Derived.Laws.Cover3
namespace Go.Proofs.Qxb6001517a
open Go.RowKit

theorem infoByte : (Try.prog.info? 5).map (fun i => (i.zero, i.size, i.bytes)) = some (some (.int .u8 0), 1, 1) := by kernel_rfl

theorem one_new (w : World) (c : Int) : ∀ j u, ([.int .u8 c] : List Value)[j]? = some u → (w.alloc (.cells #[.int .u8 c] 5)).cell? ((⟨w.heap.size, 0, none⟩ : Addr).add j) = some u := by
  intro j u hj
  match j, hj with
  | 0, hj => simp at hj; subst hj; simp [Addr.add]

theorem one_cell (c : Int) : ∀ u ∈ ([.int .u8 c] : List Value), u.oneCell' = true := by
  intro u hu; simp at hu; subst hu; rfl

/-- What lay below stands behind an append of one byte. -/
theorem grown_app {B : Nat} {w wr w1 : World} {v : Value} {n : Nat} {xs : List Value} {o : Obj} {x : TypeId} (hb : Below B w wr) (hown : wr.ownsRow B x 1 v n xs) (hg : (wr.alloc o).grownBy w1 v.ownBlock) (hB : B ≤ w.heap.size) : Below B w w1 :=
  (hb.alloc (Nat.le_trans hB hb.size) o).grown hg (by have := hb.size; simp; omega) (fun k hk => (hown.lt k hk).1)

/-- The cells of a row of bytes. -/
def cellsOf (l : List Int) : List Value := l.map (Value.int .u8)
theorem cellsOf_append (a b : List Int) : cellsOf (a ++ b) = cellsOf a ++ cellsOf b := List.map_append
theorem cellsOf_length (a : List Int) : (cellsOf a).length = a.length := List.length_map ..

/-- A slice of bytes that came in. -/
def Src (W : World) (v : Value) (l : List Int) : Prop :=
  (l = [] ∧ v = .slice none 0 0) ∨ ∃ x cap, v = .slice (some x) l.length cap ∧ l.length ≤ cap ∧ ∀ i, i < l.length → W.cell? (x.add i) = some (.int .u8 (l.getD i 0))

theorem lt_of_cell {W : World} {p : Addr} {u : Value} (h : W.cell? p = some u) : p.block < W.heap.size := by
  by_cases hp : p.block < W.heap.size
  · exact hp
  · have : W.heap[p.block]? = none := Array.getElem?_eq_none (by omega)
    simp [World.cell?, this] at h

theorem add_block (x : Addr) (i : Nat) : (x.add i).block = x.block := by unfold Addr.add; split <;> rfl

theorem take_snoc (l : List Int) (k : Nat) (h : k < l.length) : l.take (k + 1) = l.take k ++ [l.getD k 0] := by
  rw [List.take_succ_eq_append_getElem h]; simp [h]

theorem run_eql_nil (W : World) (a : Option Addr) (n c : Nat) : (binOp .eql 22 (.slice a n c) (.slice none 0 0)).run Try.prog W = .ok (.bool a.isNone) W := by
  simp only [binOp]
  simp [run_equal_slice_nil W 22 5 a n c Try.underlying22]

set_option maxHeartbeats 1000000 in
theorem clone_row (x : Addr) (cap : Nat) (l : List Int) (w : World) (hc : ∀ i, i < l.length → w.cell? (x.add i) = some (.int .u8 (l.getD i 0))) (hl : l.length ≤ 4194304) :
    Calls Try.prog 9 #[.slice (some x) l.length cap] w fun e w' => ∃ v', e = .returned v' ∧ w'.ownsRow w.heap.size 5 1 v' l.length (cellsOf l) ∧ Below w.heap.size w w' := by
  obtain ⟨i0, hi, hz0, hz1, hz2⟩ := info_parts infoByte
  have HC : Hid (∀ i, i < l.length → w.cell? (x.add i) = some (.int .u8 (l.getD i 0))) := hc
  clear hc
  have hnil : ∀ W, (binOp .eql 22 (.slice (some x) l.length cap) (.slice none 0 0)).run Try.prog W = .ok (.bool false) W := fun W => run_eql_nil W _ _ _
  go_enter Try.func9, Try.ntmps9
  go_wp2_with (at_make; refine wpList_make_own _ rfl _ _ 22 rfl w.heap.size 5 i0 (.int .u8 0) 1 Try.underlying22 hi hz0 hz1 _ _ _ l.length rfl rfl (by omega) ?b1 ?b2 ?b3 ?_)
  case b1 => rw [hz2]; omega
  case b2 => unfold maxLen; omega
  case b3 => exact Nat.le_refl _
  intro w1 hown hgrow
  have hb1 : Below w.heap.size w w1 := (Below.refl _ _).grown hgrow (Nat.le_refl _) (fun k hk => by cases hk)
  clear hgrow
  go_wp2
  go_loopw [3, 4] (fun b i wr => ∃ k : Nat, k ≤ l.length ∧ i = .int .i64 k ∧ wr.ownsRow w.heap.size 5 1 b k (cellsOf (l.take k)) ∧ Below w.heap.size w wr) (fun _ i _ => l.length - (intOf i).toNat)
  case atStart => exact ⟨0, Nat.zero_le _, rfl, hown, hb1⟩
  case round =>
    clear hown hb1
    obtain ⟨k, hk, rfl, hown, hb⟩ := hrel
    by_cases hlt : k < l.length
    · have HT : Hid (l.take (k + 1) = l.take k ++ [l.getD k 0]) := take_snoc l k hlt
      obtain ⟨z, hz⟩ : ∃ z, l.getD k 0 = z := ⟨_, rfl⟩
      have hcell : wr.cell? (x.add k) = some (.int .u8 z) := by
        have h1 := HC.out k hlt
        rw [hz] at h1
        rw [hb.cell (by have := lt_of_cell h1; exact this), h1]
      have HZ : Hid (l.getD k 0 = z) := hz
      clear hz
      have hsz := hb.size
      go_wp2_with (at_builtin; refine wpList_append_own _ rfl _ _ 22 rfl w.heap.size 5 i0 (.int .u8 0) 1 1 Try.underlying22 hi hz0 hz1 hz2 rfl (by decide) _ _ _ rfl (hown.alloc _) ⟨wr.heap.size, 0, none⟩ 1 1 [.int .u8 z] rfl rfl (one_new _ _) (one_cell _) ?a3 ?a4 ?a5 ?_)
      case a3 => unfold maxLen; omega
      case a4 => omega
      case a5 => simp; omega
      intro v1 w1 hown1 hg1 _
      have hb1 := grown_app hb hown hg1 (Nat.le_refl _)
      have R : w1.ownsRow w.heap.size 5 1 v1 (k + 1) (cellsOf (l.take (k + 1))) := by
        rw [HT.out, HZ.out, cellsOf_append]
        exact hown1
      clear hown hown1 hg1 hb
      go_wp2
      go_roundw
      case rel => exact ⟨k + 1, by omega, by go_num, R, hb1⟩
      case measure => simp [intOf]; omega
    · obtain rfl : k = l.length := by omega
      rw [List.take_length] at hown
      go_wp2
      go_ret
      exact ⟨_, rfl, hown, hb⟩

/-- zzClone at any slice of bytes that came in. -/
theorem clone_any (v : Value) (l : List Int) (w : World) (h : Src w v l) (hl : l.length ≤ 4194304) :
    Calls Try.prog 9 #[v] w fun e w' => ∃ v', e = .returned v' ∧ w'.ownsRow w.heap.size 5 1 v' l.length (cellsOf l) ∧ Below w.heap.size w w' := by
  rcases h with ⟨rfl, rfl⟩ | ⟨x, cap, rfl, _, hc⟩
  · have hnil : ∀ W, (binOp .eql 22 (.slice none 0 0) (.slice none 0 0)).run Try.prog W = .ok (.bool true) W := fun W => run_eql_nil W _ _ _
    go_enter Try.func9, Try.ntmps9
    go_wp2
    go_ret
    exact ⟨_, rfl, ⟨rfl, .inl ⟨rfl, rfl⟩⟩, Below.refl _ _⟩
  · exact clone_row x cap l w hc hl

set_option maxHeartbeats 1000000 in
/-- zzAppend: bytes from below behind a row of the call's own. -/
theorem append_any (B : Nat) (v : Value) (n : Nat) (xs : List Value) (vb : Value) (l : List Int) (w : World) (hown : w.ownsRow B 5 1 v n xs) (hd : Data B w vb l) (hB : B ≤ w.heap.size) (hl : l.length ≤ 4194304) (hn : n ≤ 4194304) :
    Calls Try.prog 10 #[v, vb] w fun e w' => ∃ v', e = .returned v' ∧ w'.ownsRow B 5 1 v' (n + l.length) (xs ++ cellsOf l) ∧ Below B w w' := by
  obtain ⟨i0, hi, hz0, hz1, hz2⟩ := info_parts infoByte
  have HD : Hid (Data B w vb l) := hd
  obtain ⟨ao, cap, hvb⟩ : ∃ ao cap, vb = .slice ao l.length cap := by
    rcases hd with ⟨rfl, ao, cap, rfl⟩ | ⟨g, cap, rfl, _, _⟩
    · exact ⟨ao, cap, rfl⟩
    · exact ⟨_, cap, rfl⟩
  subst hvb
  clear hd
  go_enter Try.func10, Try.ntmps10
  go_wp2
  go_loopw [0, 5] (fun b i wr => ∃ k : Nat, k ≤ l.length ∧ i = .int .i64 k ∧ wr.ownsRow B 5 1 b (n + k) (xs ++ cellsOf (l.take k)) ∧ Below B w wr) (fun _ i _ => l.length - (intOf i).toNat)
  case atStart => exact ⟨0, Nat.zero_le _, rfl, by simpa [cellsOf] using hown, Below.refl _ _⟩
  case round =>
    clear hown
    obtain ⟨k, hk, rfl, hown, hb⟩ := hrel
    by_cases hlt : k < l.length
    · have HT : Hid (l.take (k + 1) = l.take k ++ [l.getD k 0]) := take_snoc l k hlt
      obtain ⟨z, hz⟩ : ∃ z, l.getD k 0 = z := ⟨_, rfl⟩
      obtain ⟨g, hao, hcell⟩ : ∃ g, ao = some ⟨g, 0, none⟩ ∧ wr.cell? ⟨g, k, none⟩ = some (.int .u8 z) := by
        rcases HD.out with ⟨rfl, _⟩ | ⟨g, cap', he, hg, hc⟩
        · cases hlt
        · injection he with h1 h2 h3
          exact ⟨g, h1, by rw [hb.cell (p := ⟨g, k, none⟩) hg, hc k hlt, hz]⟩
      subst hao
      have HZ : Hid (l.getD k 0 = z) := hz
      clear hz
      have hsz := hb.size
      go_wp2_with (at_builtin; refine wpList_append_own _ rfl _ _ 22 rfl B 5 i0 (.int .u8 0) 1 1 Try.underlying22 hi hz0 hz1 hz2 rfl (by decide) _ _ _ rfl (hown.alloc _) ⟨wr.heap.size, 0, none⟩ 1 1 [.int .u8 z] rfl rfl (one_new _ _) (one_cell _) ?a3 ?a4 ?a5 ?_)
      case a3 => unfold maxLen; omega
      case a4 => omega
      case a5 => simp; omega
      intro v1 w1 hown1 hg1 _
      have hb1 := grown_app hb hown hg1 hB
      have R : w1.ownsRow B 5 1 v1 (n + (k + 1)) (xs ++ cellsOf (l.take (k + 1))) := by
        rw [HT.out, HZ.out, cellsOf_append]
        exact hown1
      clear hown hown1 hg1 hb
      go_wp2
      go_roundw
      case rel => exact ⟨k + 1, by omega, by go_num, R, hb1⟩
      case measure => simp [intOf]; omega
    · obtain rfl : k = l.length := by omega
      rw [List.take_length] at hown
      go_wp2
      go_ret
      exact ⟨_, rfl, hown, hb⟩

/-- A row of the call's own, as bytes that lie below B'. -/
theorem own_data {W : World} {B B' : Nat} {v : Value} {l : List Int} (h : W.ownsRow B 5 1 v l.length (cellsOf l)) (hB : W.heap.size ≤ B') : Data B' W v l := by
  have hc := fun g hg => h.cells (g := g) hg
  have hlt := h.lt
  rcases h.2 with ⟨hv, h0⟩ | ⟨g, cap, cur, hv, _⟩
  · exact .inl ⟨List.length_eq_zero_iff.1 h0, none, 0, hv⟩
  · subst hv
    refine .inr ⟨g, cap, rfl, by have := (hlt g rfl).2; omega, fun i hi => ?_⟩
    have := hc g rfl i (.int .u8 l[i]) (by simp [cellsOf, hi])
    have e : (⟨g, 0, none⟩ : Addr).add i = ⟨g, 0 + i, none⟩ := by unfold Addr.add; split <;> simp_all
    rw [e, Nat.zero_add] at this
    rw [this]
    simp [List.getD, hi]

/-- A row of the call's own outlives what turns nothing below. -/
theorem own_below {W W' : World} {B : Nat} {v : Value} {n : Nat} {xs : List Value} (h : W.ownsRow B 5 1 v n xs) (hb : Below W.heap.size W W') : W'.ownsRow B 5 1 v n xs := by
  have hlt := h.lt
  refine ⟨h.1, ?_⟩
  rcases h.2 with hv | ⟨g, cap, cur, hv, h1, h2, h3⟩
  · exact .inl hv
  · subst hv
    exact .inr ⟨g, cap, cur, rfl, h1, by rw [hb.block g (hlt g rfl).2, h2], h3⟩
end Go.Proofs.Qxb6001517a
