import Derived.Test.Qxb6001175aRows
import Derived.Test.Qxb6001175aPlain
import Derived.WalkKit
import Derived.WalkSpells
import Derived.WalkLawsBesides
import Derived.Lib.Strings
import Derived.Lib.Builder
import Derived.Lib.AppendStr
import Derived.Lib.OthersKept
import Derived.Laws.BytesArg
import Derived.Laws.IdiomStrings
namespace Go.Proofs.Qxb6001175a
open Go.RowKit Pl

theorem infoByte : (Try.prog.info? 5).map (fun i => (i.zero, i.size, i.bytes)) = some (some (.int .u8 0), 1, 1) := by kernel_rfl

theorem str_nums (l : List UInt8) : (⟨l.toArray⟩ : ByteArray) = strOfNums (l.map fun x => (x.toNat : Int)) := by
  unfold strOfNums
  congr 1
  rw [List.map_map]
  congr 1
  conv => lhs; rw [← List.map_id l]
  apply List.map_congr_left
  intro x _
  simp

/-- 'string(b)' of a row of bytes that the call owns. -/
theorem conv_own {W : World} {B : Nat} {v : Value} {l : List UInt8} (h : W.ownsRow B 5 1 v l.length (Lib.byteCells l)) : (convert 31 9 v).run Try.prog W = .ok (.string ⟨l.toArray⟩) W := by
  have hc := fun g hg => h.cells (g := g) hg
  rcases h.2 with ⟨rfl, h0⟩ | ⟨g, cap, cur, rfl, _, _, _, _, _, _⟩
  · have hl : l = [] := List.length_eq_zero_iff.1 h0
    subst hl
    rw [run_convert_bytes_nil W 31 5 Try.underlying31 Try.underlying5 0 0 9 Try.underlying9]
    rfl
  · rw [str_nums]
    refine run_convert_bytes_arg W 31 5 Try.underlying31 Try.underlying5 g 0 l.length cap _ (by simp) ?_ 9 Try.underlying9
    intro i hi
    have := hc g rfl i (.int .u8 (l[i].toNat : Int)) (by simp [Lib.byteCells, hi])
    have e : (⟨g, 0, none⟩ : Addr).add i = ⟨g, 0 + i, none⟩ := by unfold Addr.add; split <;> simp_all
    rw [e] at this
    rw [this]
    simp [List.getD, hi]

theorem take_snoc (s : ByteArray) (k : Nat) (h : k < s.size) : s.data.toList.take (k + 1) = s.data.toList.take k ++ [s[k]] := by
  rw [List.take_succ_eq_append_getElem (by simpa using h)]; rfl

theorem own_slice {W : World} {B : Nat} {v : Value} {n : Nat} {xs : List Value} (h : W.ownsRow B 5 1 v n xs) : ∃ ao cap, v = .slice ao n cap := by
  rcases h.2 with ⟨hv, h0⟩ | ⟨g, cap, cur, hv, _⟩
  · exact ⟨_, 0, by rw [hv, h0]⟩
  · exact ⟨_, _, hv⟩

theorem one_new (w : World) (c : Int) : ∀ j u, ([.int .u8 c] : List Value)[j]? = some u → (w.alloc (.cells #[.int .u8 c] 5)).cell? ((⟨w.heap.size, 0, none⟩ : Addr).add j) = some u := by
  intro j u hj
  match j, hj with
  | 0, hj => simp at hj; subst hj; simp [Addr.add]

theorem one_cell (c : Int) : ∀ u ∈ ([.int .u8 c] : List Value), u.oneCell' = true := by
  intro u hu; simp at hu; subst hu; rfl

/-- What lay below stands behind an append of one byte. -/
theorem grown_app {B : Nat} {w wr w1 : World} {v : Value} {n : Nat} {xs : List Value} {o : Obj} {x : TypeId} (hb : Below B w wr) (hown : wr.ownsRow B x 1 v n xs) (hg : (wr.alloc o).grownBy w1 v.ownBlock) (hB : B ≤ w.heap.size) : Below B w w1 :=
  (hb.alloc (Nat.le_trans hB hb.size) o).grown hg (by have := hb.size; simp; omega) (fun k hk => (hown.lt k hk).1)

theorem by_cases_byte (c : UInt8) : c = 92 ∨ c = 44 ∨ c = 61 ∨ (((c.toNat : Int) == 92) = false ∧ ((c.toNat : Int) == 44) = false ∧ ((c.toNat : Int) == 61) = false ∧ special c = false) := by
  by_cases h1 : c = 92
  · exact .inl h1
  by_cases h2 : c = 44
  · exact .inr (.inl h2)
  by_cases h3 : c = 61
  · exact .inr (.inr (.inl h3))
  refine .inr (.inr (.inr ⟨?_, ?_, ?_, by simp [special, h1, h2, h3]⟩))
  · rw [beq_eq_false_iff_ne]; intro h; exact h1 (UInt8.toNat.inj (by show c.toNat = 92; omega))
  · rw [beq_eq_false_iff_ne]; intro h; exact h2 (UInt8.toNat.inj (by show c.toNat = 44; omega))
  · rw [beq_eq_false_iff_ne]; intro h; exact h3 (UInt8.toNat.inj (by show c.toNat = 61; omega))

set_option maxHeartbeats 1000000 in
theorem escape_any (s : ByteArray) (w : World) (hs : s.size ≤ 1048576) :
    Calls Try.prog 11 #[.string s] w fun e w' => e = .returned (.string ⟨(esc s.data.toList).toArray⟩) ∧ Below w.heap.size w w' := by
  obtain ⟨i0, hi, hz0, hz1, hz2⟩ := info_parts infoByte
  go_enter Try.func11, Try.ntmps11
  go_wp2_with (at_make; refine wpList_make_own _ rfl _ _ 31 rfl w.heap.size 5 i0 (.int .u8 0) 1 Try.underlying31 hi hz0 hz1 _ _ _ (2 * s.size) rfl rfl (by omega) ?b1 ?b2 ?b3 ?_)
  case b1 => rw [hz2]; omega
  case b2 => unfold maxLen; omega
  case b3 => exact Nat.le_refl _
  intro w1 hown hgrow
  have hb1 : Below w.heap.size w w1 := (Below.refl _ _).grown hgrow (Nat.le_refl _) (fun k hk => by cases hk)
  clear hgrow
  go_wp2
  go_loopw [3, 4] (fun b i wr => ∃ k : Nat, k ≤ s.size ∧ i = .int .i64 k ∧ wr.ownsRow w.heap.size 5 1 b (esc (s.data.toList.take k)).length (Lib.byteCells (esc (s.data.toList.take k))) ∧ Below w.heap.size w wr) (fun _ i _ => s.size - (intOf i).toNat)
  case atStart => exact ⟨0, Nat.zero_le _, rfl, hown, hb1⟩
  case round =>
    clear hown hb1
    obtain ⟨k, hk, rfl, hown, hb⟩ := hrel
    have hel := esc_len (s.data.toList.take k)
    have htl : (s.data.toList.take k).length ≤ k := List.length_take_le _ _
    by_cases hlt : k < s.size
    · have HT : Hid (s.data.toList.take (k + 1) = s.data.toList.take k ++ [s[k]]) := take_snoc s k hlt
      rcases (by_cases_byte s[k]) with hc | hc | hc | hc
      · have hx : (s[k].toNat : Int) = 92 := by rw [hc]; rfl
        have HC : Hid (s[k] = 92) := hc
        clear hc
        have hsz := hb.size
        go_wp2_with (at_builtin; refine wpList_append_own _ rfl _ _ 31 rfl w.heap.size 5 i0 (.int .u8 0) 1 1 Try.underlying31 hi hz0 hz1 hz2 rfl (by decide) _ _ _ rfl (hown.alloc _) ⟨wr.heap.size, 0, none⟩ 1 1 [.int .u8 92] rfl rfl (one_new _ _) (one_cell _) ?a3 ?a4 ?a5 ?_)
        case a3 => unfold maxLen; omega
        case a4 => omega
        case a5 => simp; omega
        intro v1 w1 hown1 hg1 _
        have hsz1 : wr.heap.size + 1 ≤ w1.heap.size := by have := hg1.size; simpa using this
        have hb1 := grown_app hb hown hg1 (Nat.le_refl _)
        go_wp2_with (at_builtin; refine wpList_append_own _ rfl _ _ 31 rfl w.heap.size 5 i0 (.int .u8 0) 1 1 Try.underlying31 hi hz0 hz1 hz2 rfl (by decide) _ _ _ rfl (hown1.alloc _) ⟨w1.heap.size, 0, none⟩ 1 1 [.int .u8 92] rfl rfl (one_new _ _) (one_cell _) ?b3 ?b4 ?b5 ?_)
        case b3 => unfold maxLen; omega
        case b4 => omega
        case b5 => simp; omega
        intro v2 w2 hown2 hg2 _
        have hb2 := grown_app hb1 hown1 hg2 (Nat.le_refl _)
        have R : w2.ownsRow w.heap.size 5 1 v2 (esc (s.data.toList.take (k + 1))).length (Lib.byteCells (esc (s.data.toList.take (k + 1)))) := by
          have e : esc (s.data.toList.take (k + 1)) = esc (s.data.toList.take k) ++ [92, 92] := by rw [HT.out, esc_snoc, HC.out]; rfl
          rw [e, Lib.byteCells_append]
          simpa [Lib.byteCells] using hown2
        clear hown hown1 hown2 hg1 hg2 hb hb1
        go_wp2
        go_roundw
        case rel => exact ⟨k + 1, by omega, by go_num, R, hb2⟩
        case measure => simp [intOf]; omega
      · have hx : (s[k].toNat : Int) = 44 := by rw [hc]; rfl
        have HC : Hid (s[k] = 44) := hc
        clear hc
        have hsz := hb.size
        go_wp2_with (at_builtin; refine wpList_append_own _ rfl _ _ 31 rfl w.heap.size 5 i0 (.int .u8 0) 1 1 Try.underlying31 hi hz0 hz1 hz2 rfl (by decide) _ _ _ rfl (hown.alloc _) ⟨wr.heap.size, 0, none⟩ 1 1 [.int .u8 92] rfl rfl (one_new _ _) (one_cell _) ?a3 ?a4 ?a5 ?_)
        case a3 => unfold maxLen; omega
        case a4 => omega
        case a5 => simp; omega
        intro v1 w1 hown1 hg1 _
        have hsz1 : wr.heap.size + 1 ≤ w1.heap.size := by have := hg1.size; simpa using this
        have hb1 := grown_app hb hown hg1 (Nat.le_refl _)
        go_wp2_with (at_builtin; refine wpList_append_own _ rfl _ _ 31 rfl w.heap.size 5 i0 (.int .u8 0) 1 1 Try.underlying31 hi hz0 hz1 hz2 rfl (by decide) _ _ _ rfl (hown1.alloc _) ⟨w1.heap.size, 0, none⟩ 1 1 [.int .u8 44] rfl rfl (one_new _ _) (one_cell _) ?b3 ?b4 ?b5 ?_)
        case b3 => unfold maxLen; omega
        case b4 => omega
        case b5 => simp; omega
        intro v2 w2 hown2 hg2 _
        have hb2 := grown_app hb1 hown1 hg2 (Nat.le_refl _)
        have R : w2.ownsRow w.heap.size 5 1 v2 (esc (s.data.toList.take (k + 1))).length (Lib.byteCells (esc (s.data.toList.take (k + 1)))) := by
          have e : esc (s.data.toList.take (k + 1)) = esc (s.data.toList.take k) ++ [92, 44] := by rw [HT.out, esc_snoc, HC.out]; rfl
          rw [e, Lib.byteCells_append]
          simpa [Lib.byteCells] using hown2
        clear hown hown1 hown2 hg1 hg2 hb hb1
        go_wp2
        go_roundw
        case rel => exact ⟨k + 1, by omega, by go_num, R, hb2⟩
        case measure => simp [intOf]; omega
      · have hx : (s[k].toNat : Int) = 61 := by rw [hc]; rfl
        have HC : Hid (s[k] = 61) := hc
        clear hc
        have hsz := hb.size
        go_wp2_with (at_builtin; refine wpList_append_own _ rfl _ _ 31 rfl w.heap.size 5 i0 (.int .u8 0) 1 1 Try.underlying31 hi hz0 hz1 hz2 rfl (by decide) _ _ _ rfl (hown.alloc _) ⟨wr.heap.size, 0, none⟩ 1 1 [.int .u8 92] rfl rfl (one_new _ _) (one_cell _) ?a3 ?a4 ?a5 ?_)
        case a3 => unfold maxLen; omega
        case a4 => omega
        case a5 => simp; omega
        intro v1 w1 hown1 hg1 _
        have hsz1 : wr.heap.size + 1 ≤ w1.heap.size := by have := hg1.size; simpa using this
        have hb1 := grown_app hb hown hg1 (Nat.le_refl _)
        go_wp2_with (at_builtin; refine wpList_append_own _ rfl _ _ 31 rfl w.heap.size 5 i0 (.int .u8 0) 1 1 Try.underlying31 hi hz0 hz1 hz2 rfl (by decide) _ _ _ rfl (hown1.alloc _) ⟨w1.heap.size, 0, none⟩ 1 1 [.int .u8 61] rfl rfl (one_new _ _) (one_cell _) ?b3 ?b4 ?b5 ?_)
        case b3 => unfold maxLen; omega
        case b4 => omega
        case b5 => simp; omega
        intro v2 w2 hown2 hg2 _
        have hb2 := grown_app hb1 hown1 hg2 (Nat.le_refl _)
        have R : w2.ownsRow w.heap.size 5 1 v2 (esc (s.data.toList.take (k + 1))).length (Lib.byteCells (esc (s.data.toList.take (k + 1)))) := by
          have e : esc (s.data.toList.take (k + 1)) = esc (s.data.toList.take k) ++ [92, 61] := by rw [HT.out, esc_snoc, HC.out]; rfl
          rw [e, Lib.byteCells_append]
          simpa [Lib.byteCells] using hown2
        clear hown hown1 hown2 hg1 hg2 hb hb1
        go_wp2
        go_roundw
        case rel => exact ⟨k + 1, by omega, by go_num, R, hb2⟩
        case measure => simp [intOf]; omega
      · obtain ⟨h1, h2, h3, hsp⟩ := hc
        have HSP : Hid (special s[k] = false) := hsp
        clear hsp
        have hsz := hb.size
        go_wp2_with (at_builtin; refine wpList_append_own _ rfl _ _ 31 rfl w.heap.size 5 i0 (.int .u8 0) 1 1 Try.underlying31 hi hz0 hz1 hz2 rfl (by decide) _ _ _ rfl (hown.alloc _) ⟨wr.heap.size, 0, none⟩ 1 1 [.int .u8 s[k].toNat] rfl rfl (one_new _ _) (one_cell _) ?a3 ?a4 ?a5 ?_)
        case a3 => unfold maxLen; omega
        case a4 => omega
        case a5 => simp; omega
        intro v1 w1 hown1 hg1 _
        have hb1 := grown_app hb hown hg1 (Nat.le_refl _)
        have R : w1.ownsRow w.heap.size 5 1 v1 (esc (s.data.toList.take (k + 1))).length (Lib.byteCells (esc (s.data.toList.take (k + 1)))) := by
          have e : esc (s.data.toList.take (k + 1)) = esc (s.data.toList.take k) ++ [s[k]] := by rw [HT.out, esc_snoc, HSP.out]; rfl
          rw [e, Lib.byteCells_append]
          simpa [Lib.byteCells] using hown1
        clear hown hown1 hg1 hb
        go_wp2
        go_roundw
        case rel => exact ⟨k + 1, by omega, by go_num, R, hb1⟩
        case measure => simp [intOf]; omega
    · have hk' : k = s.size := by omega
      subst hk'
      have he : s.data.toList.take s.size = s.data.toList := List.take_of_length_le (by simp)
      rw [he] at hown
      have hcv := conv_own hown
      go_wp2
      go_ret
      exact ⟨rfl, hb⟩
end Go.Proofs.Qxb6001175a
