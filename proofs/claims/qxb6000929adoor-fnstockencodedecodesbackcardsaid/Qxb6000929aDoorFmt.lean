import Derived.Test.Qxb6000929aDoorEnc
import Derived.Laws.BytesArg
namespace Go.Proofs.Qxb6000929aDoor
open Go.RowKit

/-- The row of 24 bytes behind a store. -/
theorem row_set {w : World} {B : Nat} {C : Array Value} {T : TypeId} (h : w.heap[B]? = some (.cells C T (0, 0))) (j : Nat) (v : Value) : (w.setCell ⟨B, j, none⟩ v).heap[B]? = some (.cells (C.setIfInBounds j v) T (0, 0)) := by
  simp [World.setCell, Array.getElem?_modify, h]

theorem drop_set (C : Array Value) (j : Nat) (v : Value) (h : j < C.size) : (C.setIfInBounds j v).toList.drop j = v :: C.toList.drop (j + 1) := by
  have h' : j < (C.setIfInBounds j v).toList.length := by simpa using h
  rw [List.drop_eq_getElem_cons h']
  simp [List.drop_set]

theorem dec_small {m : Nat} (h : m / 10 = 0) : Lib.decDigits m = [UInt8.ofNat (48 + m % 10)] := by
  rw [Lib.decDigits_one (by omega), Nat.mod_eq_of_lt (by omega)]
theorem dec_big {m : Nat} (h : ¬ m / 10 = 0) : Lib.decDigits m = Lib.decDigits (m / 10) ++ [UInt8.ofNat (48 + m % 10)] := by
  rw [Lib.decDigits, dif_neg (by omega)]

/-- What the loop holds: the digits of N are those of m, still to be written, and a, written at the end of the row C, the one new block. -/
def Fm (N : Nat) (w : World) (j m : Nat) (a : List UInt8) (C : Array Value) (wr : World) : Prop :=
  Lib.decDigits N = Lib.decDigits m ++ a ∧ j + 1 + a.length = 24 ∧ C.size = 24 ∧ C.toList.drop (j + 1) = Lib.byteCells a ∧ wr = w.alloc (.cells C 61)

section
variable {N : Nat} {w : World} {j m : Nat} {a : List UInt8} {C : Array Value} {wr : World}

theorem Fm.room (h : Fm N w j m a C wr) (hN : N < 18446744073709551616) : 4 ≤ j := by
  obtain ⟨h1, h2, _⟩ := h
  have e := congrArg List.length h1
  rw [List.length_append, Lib.decDigits_length, Lib.decDigits_length] at e
  have := Lib.nDigits_le20 N hN
  have := Lib.nDigits_pos m
  omega

theorem Fm.heap (h : Fm N w j m a C wr) : wr.heap[w.heap.size]? = some (.cells C 61 (0, 0)) := by
  obtain ⟨_, _, _, _, rfl⟩ := h
  exact heap_alloc_new w _

theorem Fm.cell (h : Fm N w j m a C wr) (i : Nat) (hi : i < 24) : ∃ v, wr.cell? ⟨w.heap.size, i, none⟩ = some v := by
  rw [Lib.cell_of_heap h.heap]
  exact ⟨C[i]'(by have := h.2.2.1; omega), by have := h.2.2.1; simp [this, hi]⟩

theorem Fm.frozen (h : Fm N w j m a C wr) (i : Nat) : wr.frozen? ⟨w.heap.size, i, none⟩ = false :=
  Lib.frozen_of_heap h.heap i

theorem alloc_set (w : World) (C : Array Value) (T : TypeId) (j : Nat) (v : Value) : (w.alloc (.cells C T)).setCell ⟨w.heap.size, j, none⟩ v = w.alloc (.cells (C.setIfInBounds j v) T) :=
  World.setCell_alloc_at _ _ _ _ _ rfl
end

theorem digit_cell (m : Nat) : Value.int .u8 (48 + (m : Int) % 10) = Value.int .u8 (UInt8.ofNat (48 + m % 10)).toNat := by
  have e : (UInt8.ofNat (48 + m % 10)).toNat = 48 + m % 10 := by rw [UInt8.toNat_ofNat']; omega
  rw [e]; congr 1

/-- One round. -/
theorem Fm.step {N : Nat} {w : World} {j m : Nat} {a : List UInt8} {C : Array Value} {wr : World} (h : Fm N w (j + 1) m a C wr) (hne : ¬ m / 10 = 0) :
    Fm N w j (m / 10) (UInt8.ofNat (48 + m % 10) :: a) (C.setIfInBounds (j + 1) (.int .u8 (48 + (m : Int) % 10))) (wr.setCell ⟨w.heap.size, j + 1, none⟩ (.int .u8 (48 + (m : Int) % 10))) := by
  obtain ⟨h1, h2, h3, h4, rfl⟩ := h
  refine ⟨by rw [h1, dec_big hne]; simp, by simp; omega, by simpa using h3, ?_, alloc_set _ _ _ _ _⟩
  rw [drop_set _ _ _ (by omega), h4, digit_cell m]
  rfl

/-- The last round: what lies from j on is the numeral. -/
theorem Fm.last {N : Nat} {w : World} {j m : Nat} {a : List UInt8} {C : Array Value} {wr : World} (h : Fm N w j m a C wr) (hne : m / 10 = 0) :
    ∃ C' : Array Value, C'.size = 24 ∧ j + (Lib.decDigits N).length = 24 ∧ C'.toList.drop j = Lib.byteCells (Lib.decDigits N) ∧ wr.setCell ⟨w.heap.size, j, none⟩ (.int .u8 (48 + (m : Int) % 10)) = w.alloc (.cells C' 61) := by
  obtain ⟨h1, h2, h3, h4, rfl⟩ := h
  rw [dec_small hne] at h1
  refine ⟨_, by simpa using h3, ?_, ?_, alloc_set _ _ _ _ _⟩
  · rw [h1]; simp; omega
  · rw [drop_set _ _ _ (by omega), h4, digit_cell m, h1]
    rfl

theorem arr61 : Tryd.prog.underlying 61 = some (.array (Tryd.prog.arrayLen 61) (Tryd.prog.elem 61)) := by kernel_rfl
theorem len61 : Tryd.prog.arrayLen 61 = 24 := by kernel_rfl
theorem elem61 : Tryd.prog.elem 61 = 5 := by kernel_rfl

theorem slice61 (W : World) (b j : Nat) (hj : j < 24) : (Instr.sliceAt 61 (.pointer (some ⟨b, 0, none⟩)) (some (.int .i64 (j : Int))) none none).run Tryd.prog W = .ok (.slice (some ⟨b, j, none⟩) (24 - j) (24 - j)) W := by
  rw [run_sliceAt_array_l W 61 ⟨b, 0, none⟩ arr61 .i64 (j : Int) (by omega) (by rw [len61]; omega), elem61, Tryd.sizeOf5]
  simp only [Result.andThen, slicedAt, len61]
  rw [if_neg (by simp; omega)]
  simp [Addr.add]
  intro h; exact h.symm

/-- The bytes from j on, read as a string. -/
theorem conv_from (W : World) (b j : Nat) (C : Array Value) (l : List UInt8) (hl : j + l.length = 24) (hC : W.heap[b]? = some (.cells C 61 (0, 0))) (hd : C.toList.drop j = Lib.byteCells l) :
    (convert 49 9 (.slice (some ⟨b, j, none⟩) (24 - j) (24 - j))).run Tryd.prog W = .ok (.string ⟨l.toArray⟩) W := by
  have e : (⟨l.toArray⟩ : ByteArray) = strOfNums (l.map fun x => (x.toNat : Int)) := by
    unfold strOfNums
    congr 1
    rw [List.map_map]
    congr 1
    conv => lhs; rw [← List.map_id l]
    apply List.map_congr_left
    intro x _
    simp
  rw [e]
  refine run_convert_bytes_arg W 49 5 Tryd.underlying49 Tryd.underlying5 b j (24 - j) (24 - j) _ (by simp; omega) ?_ 9 Tryd.underlying9
  intro i hi
  rw [Lib.cell_of_heap hC]
  have h1 : C[j + i]? = (C.toList.drop j)[i]? := by simp
  rw [h1, hd]
  have hi' : i < l.length := by omega
  simp [Lib.byteCells, List.getElem?_eq_getElem hi', List.getD]

set_option maxHeartbeats 1000000 in
theorem fmtInt_pos (n : Int) (h1 : n ≤ 9223372036854775807) (hpos : 0 ≤ n) (w : World) :
    Calls Tryd.prog 15 #[.int .i64 n] w fun e w' => e = .returned (.string ⟨(Lib.itoa n).toArray⟩) ∧ ∃ C, w' = w.alloc (.cells C 61) := by
  have hit : Lib.itoa n = Lib.decDigits n.toNat := by unfold Lib.itoa; rw [if_neg (by omega)]
  have HI : Hid (Lib.itoa n = Lib.decDigits n.toNat) := hit
  clear hit
  go_enter Tryd.func15, Tryd.ntmps15
  go_wp2
  go_loopw [4, 5] (fun i u wr => ∃ (j m : Nat) (a : List UInt8) (C : Array Value), i = .int .i64 (j + 1) ∧ u = .int .u64 m ∧ m ≤ n.toNat ∧ Fm n.toNat w j m a C wr) (fun _ u _ => (intOf u).toNat)
  case atStart =>
    refine ⟨23, n.toNat, [], _, rfl, ?_, Nat.le_refl _, ?_, rfl, ?_, ?_, rfl⟩
    · go_num
    · simp
    · rfl
    · rfl
  case round =>
    obtain ⟨j, m, a, C, rfl, rfl, hm, hF⟩ := hrel
    have hj := hF.room (by omega)
    have hj2 : j < 24 := by have := hF.2.1; omega
    obtain ⟨v, hv⟩ := hF.cell j hj2
    have hf := hF.frozen j
    by_cases hz : m / 10 = 0
    · have hz' : ((m : Int) / 10 == 0) = true := by rw [beq_iff_eq]; omega
      obtain ⟨C', hC1, hC2, hC3, hC5⟩ := hF.last hz
      have hC4 : (wr.setCell ⟨w.heap.size, j, none⟩ (.int .u8 (48 + (m : Int) % 10))).heap[w.heap.size]? = some (.cells C' 61 (0, 0)) := by rw [hC5]; exact heap_alloc_new w _
      have hsl := fun W => slice61 W w.heap.size j hj2
      have hcv := conv_from _ _ j C' _ hC2 hC4 hC3
      have HC5 : Hid (wr.setCell ⟨w.heap.size, j, none⟩ (.int .u8 (48 + (m : Int) % 10)) = w.alloc (.cells C' 61)) := hC5
      have HZ : Hid (m / 10 = 0) := hz
      have HC2 : Hid (j + (Lib.decDigits n.toNat).length = 24) := hC2
      clear hz hF hC1 hC2 hC3 hC4 hC5
      go_wp2
      go_ret
      exact ⟨by rw [HI.out]; rfl, _, HC5.out⟩
    · have hz' : ((m : Int) / 10 == 0) = false := by rw [beq_eq_false_iff_ne]; omega
      obtain ⟨j', rfl⟩ : ∃ j', j = j' + 1 := ⟨j - 1, by omega⟩
      have R := hF.step hz
      clear hF
      go_wp2
      go_roundw
      case rel => exact ⟨j', m / 10, _, _, by go_num, by go_num, by omega, R⟩
      case measure => simp [intOf]; omega

theorem wrap_neg (n : Int) (h0 : -9223372036854775808 ≤ n) (hneg : n < 0) : IntKind.u64.wrap (-IntKind.u64.wrap n) = ((-n).toNat : Int) := by
  simp [IntKind.wrap, IntKind.signed, IntKind.bits]
  omega

set_option maxHeartbeats 1000000 in
theorem fmtInt_neg (n : Int) (h0 : -9223372036854775808 ≤ n) (hneg : n < 0) (w : World) :
    Calls Tryd.prog 15 #[.int .i64 n] w fun e w' => e = .returned (.string ⟨(Lib.itoa n).toArray⟩) ∧ ∃ C, w' = w.alloc (.cells C 61) := by
  have hit : Lib.itoa n = 45 :: Lib.decDigits (-n).toNat := by
    unfold Lib.itoa; rw [if_pos hneg, show n.natAbs = (-n).toNat by omega]
  have HI : Hid (Lib.itoa n = 45 :: Lib.decDigits (-n).toNat) := hit
  clear hit
  go_enter Tryd.func15, Tryd.ntmps15
  go_wp2
  go_loopw [4, 5] (fun i u wr => ∃ (j m : Nat) (a : List UInt8) (C : Array Value), i = .int .i64 (j + 1) ∧ u = .int .u64 m ∧ m ≤ (-n).toNat ∧ Fm (-n).toNat w j m a C wr) (fun _ u _ => (intOf u).toNat)
  case atStart =>
    refine ⟨23, (-n).toNat, [], _, rfl, ?_, Nat.le_refl _, ?_, rfl, ?_, ?_, rfl⟩
    · rw [wrap_neg n h0 hneg]
    · simp
    · rfl
    · rfl
  case round =>
    obtain ⟨j, m, a, C, rfl, rfl, hm, hF⟩ := hrel
    have hj := hF.room (by omega)
    have hj2 : j < 24 := by have := hF.2.1; omega
    obtain ⟨j', rfl⟩ : ∃ j', j = j' + 1 := ⟨j - 1, by omega⟩
    obtain ⟨v, hv⟩ := hF.cell (j' + 1) hj2
    have hf := hF.frozen (j' + 1)
    by_cases hz : m / 10 = 0
    · have hz' : ((m : Int) / 10 == 0) = true := by rw [beq_iff_eq]; omega
      obtain ⟨C', hC1, hC2, hC3, hC5⟩ := hF.last hz
      have hC4 : (wr.setCell ⟨w.heap.size, j' + 1, none⟩ (.int .u8 (48 + (m : Int) % 10))).heap[w.heap.size]? = some (.cells C' 61 (0, 0)) := by rw [hC5]; exact heap_alloc_new w _
      have HC5 : Hid (wr.setCell ⟨w.heap.size, j' + 1, none⟩ (.int .u8 (48 + (m : Int) % 10)) = w.alloc (.cells C' 61)) := hC5
      have hrow := row_set hC4 j' (.int .u8 45)
      have hd := drop_set C' j' (.int .u8 45) (by omega)
      rw [hC3] at hd
      have hsl := fun W => slice61 W w.heap.size j' (by omega)
      have hcv := conv_from _ _ j' _ (45 :: Lib.decDigits (-n).toNat) (by simp; omega) hrow hd
      obtain ⟨v2, hv2⟩ : ∃ v2, (wr.setCell ⟨w.heap.size, j' + 1, none⟩ (.int .u8 (48 + (m : Int) % 10))).cell? ⟨w.heap.size, j', none⟩ = some v2 := ⟨C'[j']'(by omega), by rw [Lib.cell_of_heap hC4]; simp⟩
      have hf2 : (wr.setCell ⟨w.heap.size, j' + 1, none⟩ (.int .u8 (48 + (m : Int) % 10))).frozen? ⟨w.heap.size, j', none⟩ = false := Lib.frozen_of_heap hC4 j'
      have HZ : Hid (m / 10 = 0) := hz
      clear hz hF hC1 hC2 hC3 hC4 hC5 hrow hd
      go_wp2
      go_ret
      exact ⟨by rw [HI.out]; rfl, _, by rw [HC5.out]; exact alloc_set _ _ _ _ _⟩
    · have hz' : ((m : Int) / 10 == 0) = false := by rw [beq_eq_false_iff_ne]; omega
      have R := hF.step hz
      clear hF
      go_wp2
      go_roundw
      case rel => exact ⟨j', m / 10, _, _, by go_num, by go_num, by omega, R⟩
      case measure => simp [intOf]; omega

theorem fmtInt_any (n : Int) (h0 : -9223372036854775808 ≤ n) (h1 : n ≤ 9223372036854775807) (w : World) :
    Calls Tryd.prog 15 #[.int .i64 n] w fun e w' => e = .returned (.string ⟨(Lib.itoa n).toArray⟩) ∧ ∃ C, w' = w.alloc (.cells C 61) := by
  by_cases h : n < 0
  · exact fmtInt_neg n h0 h w
  · exact fmtInt_pos n h1 (by omega) w
end Go.Proofs.Qxb6000929aDoor
