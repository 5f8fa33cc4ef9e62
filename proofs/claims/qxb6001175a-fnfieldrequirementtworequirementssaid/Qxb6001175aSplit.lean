import Derived.Test.Qxb6001175aEsc
import Derived.Lib.OthersKept
import Derived.WalkSmall
namespace Go.Proofs.Qxb6001175a
open Go.RowKit Pl

theorem infoStr : (Try.prog.info? 9).map (fun i => (i.zero, i.size, i.bytes)) = some (some (.string ⟨#[]⟩), 1, 16) := by kernel_rfl

def strV (p : List UInt8) : Value := .string ⟨p.toArray⟩

theorem parts_len : ∀ (l : List UInt8) (q : Bool) (P : List (List UInt8)) (C : List UInt8), (l.foldl sstep (q, P, C)).2.1.length ≤ P.length + l.length
  | [], q, P, C => by simp
  | c :: l, q, P, C => by
    rw [List.foldl_cons]
    have key : ∀ x : Bool × List (List UInt8) × List UInt8, x.2.1.length ≤ P.length + 1 → (l.foldl sstep x).2.1.length ≤ P.length + (c :: l).length := by
      rintro ⟨q', P', C'⟩ hx
      have := parts_len l q' P' C'
      simp at hx ⊢
      omega
    apply key
    unfold sstep
    split
    · simp
    · split
      · simp
      · split <;> simp

theorem ext_str (s : ByteArray) (a b : Nat) : s.extract a b = ⟨((s.data.toList.drop a).take (b - a)).toArray⟩ := by
  apply ByteArray.ext
  apply Array.toList_inj.1
  rw [Lib.extract_data]

/-- How splitSelector stands at place pos: its state, and in memory the parts that are cut off. -/
structure Sp (s : ByteArray) (B : Nat) (w : World) (pos st : Nat) (q : Bool) (P : List (List UInt8)) (v : Value) (wr : World) : Prop where
  le : pos ≤ s.size
  start : st ≤ pos
  state : sst (s.data.toList.take pos) = (q, P, (s.data.toList.drop st).take (pos - st))
  own : wr.ownsRow (B + 1) 9 1 v P.length (P.map strV)
  iter : wr.heap[B]? = some (.stringIter s pos)
  below : Below B w wr

theorem cur_snoc (l : List UInt8) (st pos n : Nat) (h : st ≤ pos) : (l.drop st).take (pos - st) ++ (l.drop pos).take n = (l.drop st).take (pos + n - st) := by
  rw [show pos + n - st = (pos - st) + n by omega, List.take_add, List.drop_drop, show st + (pos - st) = pos by omega]

theorem Sp.skip {s : ByteArray} {B : Nat} {w : World} {pos st : Nat} {q : Bool} {P : List (List UInt8)} {v : Value} {wr : World} (h : Sp s B w pos st q P v wr) {n : Nat} {q' : Bool} (hn : pos + n ≤ s.size)
    (hs : sst (s.data.toList.take (pos + n)) = (q', P, (s.data.toList.drop st).take (pos - st) ++ (s.data.toList.drop pos).take n)) : Sp s B w (pos + n) st q' P v (wr.iterAt B s (pos + n)) :=
  ⟨hn, by have := h.start; omega, by rw [hs, cur_snoc _ _ _ _ h.start], ownsRow_iterAt h.own (by omega) s _, Lib.iterAt_heap wr B s pos _ h.iter, Lib.below_iterAt h.below (Nat.le_refl _) s _⟩

theorem take_one (s : ByteArray) (pos : Nat) (h : pos < s.size) : (s.data.toList.drop pos).take 1 = [s[pos]] := by
  have hl : pos < s.data.toList.length := by rw [Array.length_toList]; exact h
  rw [List.drop_eq_getElem_cons hl]
  simp only [List.take_succ_cons, List.take_zero]
  rfl

theorem str_new (w : World) (x : ByteArray) : ∀ j u, ([.string x] : List Value)[j]? = some u → (w.alloc (.cells #[.string x] 9)).cell? ((⟨w.heap.size, 0, none⟩ : Addr).add j) = some u := by
  intro j u hj
  match j, hj with
  | 0, hj => simp at hj; subst hj; simp [Addr.add]

theorem str_cell (x : ByteArray) : ∀ u ∈ ([.string x] : List Value), u.oneCell' = true := by
  intro u hu; simp at hu; subst hu; rfl

theorem iter_pos {wr : World} {B : Nat} {s : ByteArray} {pos : Nat} (h : wr.heap[B]? = some (.stringIter s pos)) : wr.iterPos B = pos := by
  simp [World.iterPos, h]

set_option maxHeartbeats 1000000 in
theorem split_any (s : ByteArray) (q0 : Bool) (P0 : List (List UInt8)) (C0 : List UInt8) (hst : sst s.data.toList = (q0, P0, C0)) (w : World) (hs : s.size ≤ 16777216) :
    Calls Try.prog 24 #[.string s] w fun e w' => ∃ v, e = .returned v ∧ w'.ownsRow (w.heap.size + 1) 9 1 v (P0.length + 1) ((P0 ++ [C0]).map strV) ∧ Below w.heap.size w w' := by
  obtain ⟨i0, hi, hz0, hz1, hz2⟩ := info_parts infoStr
  have HST : Hid (sst s.data.toList = (q0, P0, C0)) := hst
  clear hst
  go_enter Try.func24, Try.ntmps24
  go_wp2
  go_loopw [3, 4, 5] (fun v a b wr => ∃ (pos st : Nat) (q : Bool) (P : List (List UInt8)), a = .int .i64 st ∧ b = .bool q ∧ Sp s w.heap.size w pos st q P v wr) (fun _ _ _ wr => s.size - wr.iterPos w.heap.size)
  case atStart =>
    exact ⟨0, 0, false, [], rfl, rfl, Nat.zero_le _, Nat.le_refl _, by simp [sst], World.ownsRow_nil _ _ _ _, World.iter_heap w s 0, (Below.refl _ _).alloc (Nat.le_refl _) _⟩
  case round =>
    obtain ⟨pos, st, q, P, rfl, rfl, hsp⟩ := hrel
    have hip := iter_pos hsp.iter
    by_cases hp : pos < s.size
    · obtain ⟨hn, hn1, hru⟩ := rune_step s pos hp
      rcases hru with ⟨ha, hd, hs1⟩ | ⟨hr, hs1⟩
      · have hnx := fun ty => Lib.run_next_ascii_at (P := Try.prog) wr w.heap.size s pos ty hsp.iter hp ha
        rw [hsp.state] at hs1
        have hT := take_one s pos hp
        rw [hd] at hn
        clear hd
        cases q with
        | true =>
          have R := hsp.skip (n := 1) (q' := false) hn (by rw [hs1, hT]; rfl)
          have hip2 := iter_pos R.iter
          clear hs1 hT hsp
          have HI : Hid (wr.iterPos w.heap.size = pos) := hip
          have HI2 : Hid ((wr.iterAt w.heap.size s (pos + 1)).iterPos w.heap.size = pos + 1) := hip2
          clear hip hip2
          go_wp2
          go_roundw
          case rel => exact ⟨pos + 1, st, false, P, rfl, rfl, R⟩
          case measure => rw [HI.out, HI2.out]; omega
        | false =>
          by_cases h92 : s[pos] = 92
          · have R := hsp.skip (n := 1) (q' := true) hn (by rw [hs1, hT, h92]; rfl)
            have hx : (s[pos].toNat : Int) = 92 := by rw [h92]; rfl
            have HI : Hid (wr.iterPos w.heap.size = pos) := hip
            have HI2 : Hid ((wr.iterAt w.heap.size s (pos + 1)).iterPos w.heap.size = pos + 1) := iter_pos R.iter
            clear hs1 hT hsp h92 hip
            go_wp2
            go_roundw
            case rel => exact ⟨pos + 1, st, true, P, rfl, rfl, R⟩
            case measure => rw [HI.out, HI2.out]; omega
          by_cases h44 : s[pos] = 44
          · have hx : (s[pos].toNat : Int) = 44 := by rw [h44]; rfl
            have HI : Hid (wr.iterPos w.heap.size = pos) := hip
            have hpl := parts_len (s.data.toList.take pos) false [] []
            have hpl2 : P.length ≤ pos := by
              have e : (List.foldl sstep (false, [], []) (s.data.toList.take pos)) = (false, P, (s.data.toList.drop st).take (pos - st)) := hsp.state
              rw [e] at hpl
              have := List.length_take_le pos s.data.toList
              simp at hpl ⊢
              omega
            have HS1 : Hid (sst (s.data.toList.take (pos + 1)) = (false, P ++ [(s.data.toList.drop st).take (pos - st)], [])) := by rw [hs1, h44]; rfl
            have hst := hsp.start
            obtain ⟨w2, hw2⟩ : ∃ w2, w2 = wr.iterAt w.heap.size s (pos + 1) := ⟨_, rfl⟩
            have own2 : w2.ownsRow (w.heap.size + 1) 9 1 u3 P.length (P.map strV) := by rw [hw2]; exact ownsRow_iterAt hsp.own (by omega) s _
            have it2 : w2.heap[w.heap.size]? = some (.stringIter s (pos + 1)) := by rw [hw2]; exact Lib.iterAt_heap wr _ s pos _ hsp.iter
            have bel2 : Below w.heap.size w w2 := by rw [hw2]; exact Lib.below_iterAt hsp.below (Nat.le_refl _) s _
            rw [← hw2] at hnx
            have hsz2 : w.heap.size + 1 ≤ w2.heap.size := (Array.getElem?_eq_some_iff.1 it2).1
            have HI2 : Hid (w2.heap[w.heap.size]? = some (.stringIter s (pos + 1))) := it2
            have c1 : (0 : Int) ≤ (st : Int) := by omega
            have c2 : (st : Int) ≤ (pos : Int) := by omega
            have c3 : (pos : Int) ≤ (s.size : Int) := by omega
            clear hs1 hT hsp h92 hip hpl hw2 h44 it2
            go_wp2_with (at_builtin; refine wpList_append_own _ rfl _ _ 32 rfl (w.heap.size + 1) 9 i0 (.string ⟨#[]⟩) 1 16 Try.underlying32 hi hz0 hz1 hz2 rfl (by decide) _ _ _ rfl (own2.alloc _) ⟨w2.heap.size, 0, none⟩ 1 1 [.string (s.extract st pos)] rfl rfl (str_new _ _) (str_cell _) ?a3 ?a4 ?a5 ?_)
            case a3 => unfold maxLen; omega
            case a4 => omega
            case a5 => simp; omega
            intro v1 w3 own3 hg3 _
            have R : Sp s w.heap.size w (pos + 1) (pos + 1) false (P ++ [(s.data.toList.drop st).take (pos - st)]) v1 w3 := by
              refine ⟨by omega, Nat.le_refl _, by rw [HS1.out]; simp, ?_, ?_, ?_⟩
              · rw [ext_str] at own3
                simpa [strV] using own3
              · rw [hg3.block _ (by simp; omega) (fun h => by have := (own2.lt _ h.symm).1; omega), heap_alloc_old _ _ (by omega)]
                exact HI2.out
              · exact (bel2.alloc (by omega) _).grown hg3 (by simp; omega) (fun k hk => by have := (own2.lt k hk).1; omega)
            have HI3 : Hid (w3.iterPos w.heap.size = pos + 1) := iter_pos R.iter
            clear own2 own3 hg3 bel2
            go_wp2
            go_roundw
            case rel => exact ⟨pos + 1, pos + 1, false, _, by go_num, rfl, R⟩
            case measure => rw [HI.out, HI3.out]; omega
          · have e1 : (s[pos] == 92) = false := by simpa using h92
            have e2 : (s[pos] == 44) = false := by simpa using h44
            have R := hsp.skip (n := 1) (q' := false) hn (by rw [hs1, hT]; simp [sstep, e1, e2])
            have f1 : ((s[pos].toNat : Int) == 92) = false := by rw [beq_eq_false_iff_ne]; intro h; exact h92 (UInt8.toNat.inj (by show s[pos].toNat = 92; omega))
            have f2 : ((s[pos].toNat : Int) == 44) = false := by rw [beq_eq_false_iff_ne]; intro h; exact h44 (UInt8.toNat.inj (by show s[pos].toNat = 44; omega))
            have HI : Hid (wr.iterPos w.heap.size = pos) := hip
            have HI2 : Hid ((wr.iterAt w.heap.size s (pos + 1)).iterPos w.heap.size = pos + 1) := iter_pos R.iter
            clear hs1 hT hsp h92 h44 hip e1 e2
            go_wp2
            go_roundw
            case rel => exact ⟨pos + 1, st, false, P, rfl, rfl, R⟩
            case measure => rw [HI.out, HI2.out]; omega
      · have hnx := fun ty => Lib.run_next_any_at (P := Try.prog) wr w.heap.size s pos ty hsp.iter hp
        obtain ⟨r, n, hdec⟩ : ∃ r n, Utf8.decode s pos = (r, n) := ⟨_, _, rfl⟩
        rw [hdec] at hn hn1 hr hs1
        rw [hsp.state] at hs1
        simp only [hdec] at hnx
        have R := hsp.skip hn hs1
        have HI : Hid (wr.iterPos w.heap.size = pos) := hip
        have HI2 : Hid ((wr.iterAt w.heap.size s (pos + n)).iterPos w.heap.size = pos + n) := iter_pos R.iter
        clear hdec hs1 hsp hip
        cases q
        all_goals
          go_wp2
          go_roundw
          case rel => exact ⟨pos + n, st, false, P, rfl, rfl, R⟩
          case measure => rw [HI.out, HI2.out]; simp at hn1 ⊢; omega
    · have hnx := fun ty => Lib.run_next_end_at (P := Try.prog) wr w.heap.size s pos ty hsp.iter hp
      have hpe : pos = s.size := by have := hsp.le; omega
      subst hpe
      have hfull : s.data.toList.take s.size = s.data.toList := List.take_of_length_le (by simp)
      have hst2 := hsp.state
      rw [hfull, HST.out] at hst2
      have hpl := parts_len s.data.toList false [] []
      have hpl2 : P.length ≤ s.size := by
        have e : (List.foldl sstep (false, [], []) s.data.toList) = (q0, P0, C0) := HST.out
        rw [e, hst2] at hpl
        have : s.data.toList.length = s.size := by rw [Array.length_toList]; rfl
        simp at hpl ⊢
        omega
      have HE : Hid (P0 = P ∧ C0 = (s.data.toList.drop st).take (s.size - st)) := by
        simp only [Prod.mk.injEq] at hst2
        exact ⟨hst2.2.1, hst2.2.2⟩
      have hst := hsp.start
      have own2 := hsp.own
      have bel2 := hsp.below
      have hsz2 : w.heap.size + 1 ≤ wr.heap.size := (Array.getElem?_eq_some_iff.1 hsp.iter).1
      have c1 : (0 : Int) ≤ (st : Int) := by omega
      have c2 : (st : Int) ≤ (s.size : Int) := by omega
      clear hsp hip hst2 hfull hpl
      go_wp2_with (at_builtin; refine wpList_append_own _ rfl _ _ 32 rfl (w.heap.size + 1) 9 i0 (.string ⟨#[]⟩) 1 16 Try.underlying32 hi hz0 hz1 hz2 rfl (by decide) _ _ _ rfl (own2.alloc _) ⟨wr.heap.size, 0, none⟩ 1 1 [.string (s.extract st s.size)] rfl rfl (str_new _ _) (str_cell _) ?a3 ?a4 ?a5 ?_)
      case a3 => unfold maxLen; omega
      case a4 => omega
      case a5 => simp; omega
      intro v1 w3 own3 hg3 _
      have R : w3.ownsRow (w.heap.size + 1) 9 1 v1 (P0.length + 1) ((P0 ++ [C0]).map strV) := by
        rw [HE.out.1, HE.out.2]
        rw [ext_str] at own3
        simpa [strV] using own3
      have hb3 : Below w.heap.size w w3 := (bel2.alloc (by omega) _).grown hg3 (by simp; omega) (fun k hk => by have := (own2.lt k hk).1; omega)
      clear own2 own3 hg3 bel2
      go_wp2
      go_ret
      exact ⟨v1, rfl, R, hb3⟩
end Go.Proofs.Qxb6001175a
