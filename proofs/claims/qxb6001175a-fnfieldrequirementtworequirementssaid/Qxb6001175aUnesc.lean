import Derived.Test.Qxb6001175aEsc
namespace Go.Proofs.Qxb6001175a
open Go.RowKit Pl

theorem own_ne {W : World} {B : Nat} {v : Value} {n : Nat} {xs : List Value} {g : Nat} {C : Array Value} (h : W.ownsRow B 5 1 v n xs) (hg : W.heap[g]? = some (.cells C 5 (C.size, C.size + 1))) : v.ownBlock ≠ some g := by
  rcases h.2 with ⟨rfl, _⟩ | ⟨g', cap, cur, rfl, _, hg', _⟩
  · simp [Value.ownBlock]
  · intro h
    simp only [Value.ownBlock, Option.some.injEq] at h
    subst h
    rw [hg'] at hg
    simp only [Option.some.injEq, Obj.cells.injEq, Prod.mk.injEq] at hg
    omega

theorem bytes_row (W : World) (s : ByteArray) : ∃ cap C, (convert 9 31 (.string s)).run Try.prog W = .ok (.slice (some ⟨W.heap.size, 0, none⟩) s.size cap) (W.drew.alloc (.cells C 5 (C.size, C.size + 1))) ∧ ∀ j (hj : j < s.size), C[j]? = some (.int .u8 ((s[j]'hj).toNat : Int)) :=
  ⟨_, _, run_bytes_of_string W 9 31 5 s Try.underlying9 Try.underlying31 Try.underlying5, fun j hj => bytesRow_at s _ j hj⟩

set_option maxHeartbeats 1000000 in
theorem unescape_any (s : ByteArray) (v : List UInt8) (hv : ust s.data.toList = some (false, v)) (w : World) (hs : s.size ≤ 4194304) :
    Calls Try.prog 22 #[.string s] w fun e w' => e = .returned (.tuple #[.string ⟨v.toArray⟩, .bool true]) ∧ Below w.heap.size w w' := by
  obtain ⟨i0, hi, hz0, hz1, hz2⟩ := info_parts infoByte
  have HV : Hid (ust s.data.toList = some (false, v)) := hv
  clear hv
  go_enter Try.func22, Try.ntmps22
  go_wp2_with (at_make; refine wpList_make_own _ rfl _ _ 31 rfl w.heap.size 5 i0 (.int .u8 0) 1 Try.underlying31 hi hz0 hz1 _ _ _ s.size rfl rfl rfl ?b1 ?b2 ?b3 ?_)
  case b1 => rw [hz2]; omega
  case b2 => unfold maxLen; omega
  case b3 => exact Nat.le_refl _
  intro w1 hown hgrow
  have hb1 : Below w.heap.size w w1 := (Below.refl _ _).grown hgrow (Nat.le_refl _) (fun k hk => by cases hk)
  clear hgrow
  obtain ⟨cap, C, hcv, hC⟩ := bytes_row w1 s
  have HCC : Hid (∀ j (hj : j < s.size), C[j]? = some (.int .u8 ((s[j]'hj).toNat : Int))) := hC
  clear hC
  have hsz1 : w.heap.size ≤ w1.heap.size := hb1.size
  obtain ⟨g, hgd⟩ : ∃ g, g = w1.heap.size := ⟨_, rfl⟩
  have hown2 : ((w1.alloc (.cells C 5 (C.size, C.size + 1))).drew).ownsRow w.heap.size 5 1 (.slice (some ⟨w.heap.size, 0, none⟩) 0 s.size) 0 [] := (hown.alloc _).drew
  have hr2 : ((w1.alloc (.cells C 5 (C.size, C.size + 1))).drew).heap[g]? = some (.cells C 5 (C.size, C.size + 1)) := by rw [hgd]; exact heap_alloc_new w1 _
  have hb2 : Below w.heap.size w ((w1.alloc (.cells C 5 (C.size, C.size + 1))).drew) := (hb1.alloc hsz1 _).drew
  rw [← hgd] at hcv
  have HG : Hid (g = w1.heap.size) := hgd
  clear hgd hown hb1
  have hgg : w.heap.size ≤ g := by rw [HG.out]; exact hsz1
  go_wp2
  go_loopw [4, 5, 14] (fun b st i wr => ∃ (k : Nat) (q : Bool) (a : List UInt8), k ≤ s.size ∧ i = .int .i64 k ∧ st = .bool q ∧ ust (s.data.toList.take k) = some (q, a) ∧ wr.ownsRow w.heap.size 5 1 b a.length (Lib.byteCells a) ∧ wr.heap[g]? = some (.cells C 5 (C.size, C.size + 1)) ∧ Below w.heap.size w wr) (fun _ _ i _ => s.size - (intOf i).toNat)
  case atStart => exact ⟨0, false, [], Nat.zero_le _, rfl, rfl, rfl, hown2, hr2, hb2⟩
  case round =>
    clear hown2 hr2 hb2
    obtain ⟨k, q, a, hk, rfl, rfl, hu, hown, hr, hb⟩ := hrel
    have hal := ust_len _ _ _ hu
    have htl : (s.data.toList.take k).length ≤ k := List.length_take_le _ _
    have hgl : g < wr.heap.size := (Array.getElem?_eq_some_iff.1 hr).1
    have hsz := hb.size
    by_cases hlt : k < s.size
    · obtain ⟨q', a', hu'⟩ := ust_headpart HV.out (k + 1)
      have hstep : ustep (some (q, a)) s[k] = some (q', a') := by rw [← hu, ← ust_snoc, ← take_snoc s k hlt]; exact hu'
      have hcell : wr.cell? ⟨g, k, none⟩ = some (.int .u8 (s[k].toNat : Int)) := by rw [Lib.cell_of_heap hr]; exact HCC.out k hlt
      clear hu
      cases q with
      | true =>
        rcases (by_cases_byte s[k]) with hc | hc | hc | hc
        · rw [hc] at hcell hstep
          have hacc : q' = false ∧ a' = a ++ [92] := by simp [ustep, special] at hstep; exact ⟨hstep.1, hstep.2.symm⟩
          have HU : Hid (ust (s.data.toList.take (k + 1)) = some (false, a ++ [92])) := by rw [← hacc.1, ← hacc.2]; exact hu'
          have hcell' : wr.cell? ⟨g, k, none⟩ = some (.int .u8 92) := hcell
          clear hc hstep hu' hacc hcell
          go_wp2_with (at_builtin; refine wpList_append_own _ rfl _ _ 31 rfl w.heap.size 5 i0 (.int .u8 0) 1 1 Try.underlying31 hi hz0 hz1 hz2 rfl (by decide) _ _ _ rfl (hown.alloc _) ⟨wr.heap.size, 0, none⟩ 1 1 [.int .u8 92] rfl rfl (one_new _ _) (one_cell _) ?a3 ?a4 ?a5 ?_)
          case a3 => unfold maxLen; omega
          case a4 => omega
          case a5 => simp; omega
          intro v1 w1 hown1 hg1 _
          have hb1 := grown_app hb hown hg1 (Nat.le_refl _)
          have hr1 : w1.heap[g]? = some (.cells C 5 (C.size, C.size + 1)) := by
            rw [hg1.block g (by simp; omega) (fun h => own_ne hown hr h.symm), Lib.alloc_old wr _ g hgl]; exact hr
          have R : w1.ownsRow w.heap.size 5 1 v1 (a ++ [92]).length (Lib.byteCells (a ++ [92])) := by
            rw [Lib.byteCells_append]
            simpa [Lib.byteCells] using hown1
          clear hown hown1 hg1 hb hr
          go_wp2
          go_roundw
          case rel => exact ⟨k + 1, false, a ++ [92], by omega, by go_num, rfl, HU.out, R, hr1, hb1⟩
          case measure => simp [intOf]; omega
        · rw [hc] at hcell hstep
          have hacc : q' = false ∧ a' = a ++ [44] := by simp [ustep, special] at hstep; exact ⟨hstep.1, hstep.2.symm⟩
          have HU : Hid (ust (s.data.toList.take (k + 1)) = some (false, a ++ [44])) := by rw [← hacc.1, ← hacc.2]; exact hu'
          have hcell' : wr.cell? ⟨g, k, none⟩ = some (.int .u8 44) := hcell
          clear hc hstep hu' hacc hcell
          go_wp2_with (at_builtin; refine wpList_append_own _ rfl _ _ 31 rfl w.heap.size 5 i0 (.int .u8 0) 1 1 Try.underlying31 hi hz0 hz1 hz2 rfl (by decide) _ _ _ rfl (hown.alloc _) ⟨wr.heap.size, 0, none⟩ 1 1 [.int .u8 44] rfl rfl (one_new _ _) (one_cell _) ?a3 ?a4 ?a5 ?_)
          case a3 => unfold maxLen; omega
          case a4 => omega
          case a5 => simp; omega
          intro v1 w1 hown1 hg1 _
          have hb1 := grown_app hb hown hg1 (Nat.le_refl _)
          have hr1 : w1.heap[g]? = some (.cells C 5 (C.size, C.size + 1)) := by
            rw [hg1.block g (by simp; omega) (fun h => own_ne hown hr h.symm), Lib.alloc_old wr _ g hgl]; exact hr
          have R : w1.ownsRow w.heap.size 5 1 v1 (a ++ [44]).length (Lib.byteCells (a ++ [44])) := by
            rw [Lib.byteCells_append]
            simpa [Lib.byteCells] using hown1
          clear hown hown1 hg1 hb hr
          go_wp2
          go_roundw
          case rel => exact ⟨k + 1, false, a ++ [44], by omega, by go_num, rfl, HU.out, R, hr1, hb1⟩
          case measure => simp [intOf]; omega
        · rw [hc] at hcell hstep
          have hacc : q' = false ∧ a' = a ++ [61] := by simp [ustep, special] at hstep; exact ⟨hstep.1, hstep.2.symm⟩
          have HU : Hid (ust (s.data.toList.take (k + 1)) = some (false, a ++ [61])) := by rw [← hacc.1, ← hacc.2]; exact hu'
          have hcell' : wr.cell? ⟨g, k, none⟩ = some (.int .u8 61) := hcell
          clear hc hstep hu' hacc hcell
          go_wp2_with (at_builtin; refine wpList_append_own _ rfl _ _ 31 rfl w.heap.size 5 i0 (.int .u8 0) 1 1 Try.underlying31 hi hz0 hz1 hz2 rfl (by decide) _ _ _ rfl (hown.alloc _) ⟨wr.heap.size, 0, none⟩ 1 1 [.int .u8 61] rfl rfl (one_new _ _) (one_cell _) ?a3 ?a4 ?a5 ?_)
          case a3 => unfold maxLen; omega
          case a4 => omega
          case a5 => simp; omega
          intro v1 w1 hown1 hg1 _
          have hb1 := grown_app hb hown hg1 (Nat.le_refl _)
          have hr1 : w1.heap[g]? = some (.cells C 5 (C.size, C.size + 1)) := by
            rw [hg1.block g (by simp; omega) (fun h => own_ne hown hr h.symm), Lib.alloc_old wr _ g hgl]; exact hr
          have R : w1.ownsRow w.heap.size 5 1 v1 (a ++ [61]).length (Lib.byteCells (a ++ [61])) := by
            rw [Lib.byteCells_append]
            simpa [Lib.byteCells] using hown1
          clear hown hown1 hg1 hb hr
          go_wp2
          go_roundw
          case rel => exact ⟨k + 1, false, a ++ [61], by omega, by go_num, rfl, HU.out, R, hr1, hb1⟩
          case measure => simp [intOf]; omega
        · exfalso; simp [ustep, hc.2.2.2] at hstep
      | false =>
        rcases (by_cases_byte s[k]) with hc | hc | hc | hc
        · rw [hc] at hcell hstep
          have hacc : q' = true ∧ a' = a := by simp [ustep] at hstep; exact ⟨hstep.1, hstep.2.symm⟩
          have HU : Hid (ust (s.data.toList.take (k + 1)) = some (true, a)) := by rw [← hacc.1, ← hacc.2]; exact hu'
          have hcell' : wr.cell? ⟨g, k, none⟩ = some (.int .u8 92) := hcell
          clear hc hstep hu' hacc hcell
          go_wp2
          go_roundw
          case rel => exact ⟨k + 1, true, a, by omega, by go_num, rfl, HU.out, hown, hr, hb⟩
          case measure => simp [intOf]; omega
        · exfalso; rw [hc] at hstep; simp [ustep] at hstep
        · exfalso; rw [hc] at hstep; simp [ustep] at hstep
        · obtain ⟨e1, e2, e3, e4⟩ := hc
          have hacc : q' = false ∧ a' = a ++ [s[k]] := by
            unfold special at e4
            simp only [Bool.or_eq_false_iff] at e4
            simp [ustep, e4.1.1, e4.1.2, e4.2] at hstep; exact ⟨hstep.1, hstep.2.symm⟩
          have HU : Hid (ust (s.data.toList.take (k + 1)) = some (false, a ++ [s[k]])) := by rw [← hacc.1, ← hacc.2]; exact hu'
          clear hstep hu' hacc e4
          go_wp2_with (at_builtin; refine wpList_append_own _ rfl _ _ 31 rfl w.heap.size 5 i0 (.int .u8 0) 1 1 Try.underlying31 hi hz0 hz1 hz2 rfl (by decide) _ _ _ rfl (hown.alloc _) ⟨wr.heap.size, 0, none⟩ 1 1 [.int .u8 s[k].toNat] rfl rfl (one_new _ _) (one_cell _) ?a3 ?a4 ?a5 ?_)
          case a3 => unfold maxLen; omega
          case a4 => omega
          case a5 => simp; omega
          intro v1 w1 hown1 hg1 _
          have hb1 := grown_app hb hown hg1 (Nat.le_refl _)
          have hr1 : w1.heap[g]? = some (.cells C 5 (C.size, C.size + 1)) := by
            rw [hg1.block g (by simp; omega) (fun h => own_ne hown hr h.symm), Lib.alloc_old wr _ g hgl]; exact hr
          have R : w1.ownsRow w.heap.size 5 1 v1 (a ++ [s[k]]).length (Lib.byteCells (a ++ [s[k]])) := by
            rw [Lib.byteCells_append]
            simpa [Lib.byteCells] using hown1
          clear hown hown1 hg1 hb hr
          go_wp2
          go_roundw
          case rel => exact ⟨k + 1, false, a ++ [s[k]], by omega, by go_num, rfl, HU.out, R, hr1, hb1⟩
          case measure => simp [intOf]; omega
    · have hk' : k = s.size := by omega
      subst hk'
      have he : s.data.toList.take s.size = s.data.toList := List.take_of_length_le (by simp)
      rw [he, HV.out] at hu
      obtain ⟨rfl, rfl⟩ : false = q ∧ v = a := by simpa using hu
      have hcv' := conv_own hown
      clear hu
      go_wp2
      go_ret2
      exact ⟨rfl, hb⟩
end Go.Proofs.Qxb6001175a
