import Derived.Test.Qxb6000929aDoorFmt
import Derived.Lib.Bytealg
namespace Go.Proofs.Qxb6000929aDoor
open Go.RowKit

theorem index_none : ∀ (f : List UInt8), (∀ x ∈ f, x ≠ 124) → Lib.indexByte f 124 = -1
  | [], _ => rfl
  | x :: f, h => by
    have hx : (x == 124) = false := by simpa using h x (by simp)
    have ih := index_none f fun y hy => h y (by simp [hy])
    simp [Lib.indexByte, hx, ih]

theorem index_hit : ∀ (f t : List UInt8), (∀ x ∈ f, x ≠ 124) → Lib.indexByte (f ++ 124 :: t) 124 = (f.length : Int)
  | [], t, _ => by simp [Lib.indexByte]
  | x :: f, t, h => by
    have hx : (x == 124) = false := by simpa using h x (by simp)
    have ih := index_hit f t fun y hy => h y (by simp [hy])
    simp only [List.cons_append, Lib.indexByte, hx, ih]
    have hne : ((f.length : Int) == -1) = false := by rw [beq_eq_false_iff_ne]; omega
    simp [hne]

/-- The decoder in block db: what is left, whether it has begun, whether it is bad. -/
def DecAt (db : Nat) (r : ByteArray) (st bad : Bool) (w : World) : Prop := w.heap[db]? = some (.cells #[.string r, .bool st, .bool bad] 60 (0, 0))

set_option maxHeartbeats 1000000 in
theorem text_fresh (db : Nat) (r : ByteArray) (i : Nat) (w : World) (h : DecAt db r false false w) (hi : i ≤ r.size) (hx : Lib.indexByte r.data.toList 124 = (i : Int)) :
    Calls Tryd.prog 32 #[.pointer (some ⟨db, 0, none⟩)] w fun e w' => e = .returned (.string (r.extract 0 i)) ∧ DecAt db (r.extract i r.size) true false w' ∧ Below db w w' := by
  have c0 : w.cell? ⟨db, 0, none⟩ = some (.string r) := by rw [Lib.cell_of_heap h]; rfl
  have c1 : w.cell? ⟨db, 1, none⟩ = some (.bool false) := by rw [Lib.cell_of_heap h]; rfl
  have c2 : w.cell? ⟨db, 2, none⟩ = some (.bool false) := by rw [Lib.cell_of_heap h]; rfl
  have f0 := Lib.frozen_of_heap h 0
  have f1 := Lib.frozen_of_heap h 1
  have f2 := Lib.frozen_of_heap h 2
  have HX : Hid (Lib.indexByte r.data.toList (Int.toNat 124).toUInt8 = (i : Int)) := hx
  have HH : Hid (DecAt db r false false w) := h
  have i0 : (0 : Int) ≤ (i : Int) := by omega
  have i1 : (i : Int) ≤ (r.size : Int) := by omega
  clear h hx
  go_enter Tryd.func32, Tryd.ntmps32
  go_wp2_with (go_at_call 35; refine (indexByte _ _ _).mono ?_; rintro e w' ⟨rfl, rfl⟩; rw [HX.out])
  go_ret
  refine ⟨rfl, ?_, ((Below.refl db _).setCell (p := ⟨db, 1, none⟩) (Nat.le_refl _) _).setCell (p := ⟨db, 0, none⟩) (Nat.le_refl _) _⟩
  have := row_set (row_set HH.out 1 (.bool true)) 0 (.string (r.extract i r.size))
  exact this

set_option maxHeartbeats 1000000 in
theorem text_hit (db : Nat) (r q : ByteArray) (i : Nat) (w : World) (h : DecAt db r true false w) (hq : q = r.extract 1 r.size) (hne : r.toList.isEmpty = false) (hz : ∀ h, r[0]'h = 124) (hp : 1 ≤ r.size) (hi : i ≤ q.size) (hx : Lib.indexByte q.data.toList 124 = (i : Int)) :
    Calls Tryd.prog 32 #[.pointer (some ⟨db, 0, none⟩)] w fun e w' => e = .returned (.string (q.extract 0 i)) ∧ DecAt db (q.extract i q.size) true false w' ∧ Below db w w' := by
  have c0 : w.cell? ⟨db, 0, none⟩ = some (.string r) := by rw [Lib.cell_of_heap h]; rfl
  have c1 : w.cell? ⟨db, 1, none⟩ = some (.bool true) := by rw [Lib.cell_of_heap h]; rfl
  have c2 : w.cell? ⟨db, 2, none⟩ = some (.bool false) := by rw [Lib.cell_of_heap h]; rfl
  have f0 := Lib.frozen_of_heap h 0
  have f1 := Lib.frozen_of_heap h 1
  have f2 := Lib.frozen_of_heap h 2
  have HX : Hid (Lib.indexByte q.data.toList (Int.toNat 124).toUInt8 = (i : Int)) := hx
  have HH : Hid (DecAt db r true false w) := h
  have i0 : (0 : Int) ≤ (i : Int) := by omega
  have i1 : (i : Int) ≤ (q.size : Int) := by omega
  have HQ : Hid (q = r.extract 1 r.size) := hq
  have hq' : r.extract 1 r.size = q := hq.symm
  clear h hx hq
  go_enter Tryd.func32, Tryd.ntmps32
  go_wp2_with (go_at_call 35; refine (indexByte _ _ _).mono ?_; rintro e w' ⟨rfl, rfl⟩; rw [HX.out])
  go_ret
  refine ⟨rfl, ?_, (((Below.refl db _).setCell (p := ⟨db, 0, none⟩) (Nat.le_refl _) _).setCell (p := ⟨db, 1, none⟩) (Nat.le_refl _) _).setCell (p := ⟨db, 0, none⟩) (Nat.le_refl _) _⟩
  exact row_set (row_set (row_set HH.out 0 (.string q)) 1 (.bool true)) 0 (.string (q.extract i q.size))

set_option maxHeartbeats 1000000 in
theorem text_last (db : Nat) (r q : ByteArray) (w : World) (h : DecAt db r true false w) (hq : q = r.extract 1 r.size) (hne : r.toList.isEmpty = false) (hz : ∀ h, r[0]'h = 124) (hp : 1 ≤ r.size) (hx : Lib.indexByte q.data.toList 124 = -1) :
    Calls Tryd.prog 32 #[.pointer (some ⟨db, 0, none⟩)] w fun e w' => e = .returned (.string q) ∧ DecAt db ⟨#[]⟩ true false w' ∧ Below db w w' := by
  have c0 : w.cell? ⟨db, 0, none⟩ = some (.string r) := by rw [Lib.cell_of_heap h]; rfl
  have c1 : w.cell? ⟨db, 1, none⟩ = some (.bool true) := by rw [Lib.cell_of_heap h]; rfl
  have c2 : w.cell? ⟨db, 2, none⟩ = some (.bool false) := by rw [Lib.cell_of_heap h]; rfl
  have f0 := Lib.frozen_of_heap h 0
  have f1 := Lib.frozen_of_heap h 1
  have f2 := Lib.frozen_of_heap h 2
  have HX : Hid (Lib.indexByte q.data.toList (Int.toNat 124).toUInt8 = -1) := hx
  have HH : Hid (DecAt db r true false w) := h
  have hq' : r.extract 1 r.size = q := hq.symm
  clear h hx hq
  go_enter Tryd.func32, Tryd.ntmps32
  go_wp2_with (go_at_call 35; refine (indexByte _ _ _).mono ?_; rintro e w' ⟨rfl, rfl⟩; rw [HX.out])
  go_ret
  refine ⟨rfl, ?_, (((Below.refl db _).setCell (p := ⟨db, 0, none⟩) (Nat.le_refl _) _).setCell (p := ⟨db, 1, none⟩) (Nat.le_refl _) _).setCell (p := ⟨db, 0, none⟩) (Nat.le_refl _) _⟩
  exact row_set (row_set (row_set HH.out 0 (.string q)) 1 (.bool true)) 0 (.string ByteArray.empty)

set_option maxHeartbeats 1000000 in
theorem text_bad (db : Nat) (w : World) (h : DecAt db ⟨#[]⟩ true false w) :
    Calls Tryd.prog 32 #[.pointer (some ⟨db, 0, none⟩)] w fun e w' => e = .returned (.string ⟨#[]⟩) ∧ DecAt db ⟨#[]⟩ true true w' ∧ Below db w w' := by
  have c0 : w.cell? ⟨db, 0, none⟩ = some (.string ⟨#[]⟩) := by rw [Lib.cell_of_heap h]; rfl
  have c1 : w.cell? ⟨db, 1, none⟩ = some (.bool true) := by rw [Lib.cell_of_heap h]; rfl
  have c2 : w.cell? ⟨db, 2, none⟩ = some (.bool false) := by rw [Lib.cell_of_heap h]; rfl
  have f2 := Lib.frozen_of_heap h 2
  have HH : Hid (DecAt db ⟨#[]⟩ true false w) := h
  clear h
  go_enter Tryd.func32, Tryd.ntmps32
  go_wp2_with fail
  go_ret
  exact ⟨rfl, row_set HH.out 2 (.bool true), (Below.refl db _).setCell (p := ⟨db, 2, none⟩) (Nat.le_refl _) _⟩

theorem ext_take (l : List UInt8) (i : Nat) : (⟨l.toArray⟩ : ByteArray).extract 0 i = ⟨(l.take i).toArray⟩ := by
  apply ByteArray.ext
  simp [ByteArray.data_extract]

theorem ext_drop (l : List UInt8) (i : Nat) : (⟨l.toArray⟩ : ByteArray).extract i (⟨l.toArray⟩ : ByteArray).size = ⟨(l.drop i).toArray⟩ := by
  apply ByteArray.ext
  simp [ByteArray.data_extract, ByteArray.size]
  exact List.take_of_length_le (by simp)

theorem size_of (l : List UInt8) : (⟨l.toArray⟩ : ByteArray).size = l.length := by simp [ByteArray.size]

/-- The first column, another behind it. -/
theorem dec_first (db : Nat) (f t : List UInt8) (w : World) (hf : ∀ x ∈ f, x ≠ 124) (h : DecAt db ⟨(f ++ 124 :: t).toArray⟩ false false w) :
    Calls Tryd.prog 32 #[.pointer (some ⟨db, 0, none⟩)] w fun e w' => e = .returned (.string ⟨f.toArray⟩) ∧ DecAt db ⟨(124 :: t).toArray⟩ true false w' ∧ Below db w w' := by
  refine (text_fresh db _ f.length w h (by rw [size_of]; simp) (index_hit f t hf)).mono ?_
  rintro e w' ⟨rfl, h1, h2⟩
  rw [ext_drop] at h1
  rw [ext_take]
  exact ⟨by simp, by simpa using h1, h2⟩

/-- A later column, another behind it. -/
theorem dec_next (db : Nat) (f t : List UInt8) (w : World) (hf : ∀ x ∈ f, x ≠ 124) (h : DecAt db ⟨(124 :: (f ++ 124 :: t)).toArray⟩ true false w) :
    Calls Tryd.prog 32 #[.pointer (some ⟨db, 0, none⟩)] w fun e w' => e = .returned (.string ⟨f.toArray⟩) ∧ DecAt db ⟨(124 :: t).toArray⟩ true false w' ∧ Below db w w' := by
  refine (text_hit db _ ⟨(f ++ 124 :: t).toArray⟩ f.length w h (by rw [ext_drop]; rfl) (by rw [Lib.toList_data]; rfl) (fun _ => rfl) (by rw [size_of]; simp) (by rw [size_of]; simp) (index_hit f t hf)).mono ?_
  rintro e w' ⟨rfl, h1, h2⟩
  rw [ext_drop] at h1
  rw [ext_take]
  exact ⟨by simp, by simpa using h1, h2⟩

/-- The last column. -/
theorem dec_last (db : Nat) (f : List UInt8) (w : World) (hf : ∀ x ∈ f, x ≠ 124) (h : DecAt db ⟨(124 :: f).toArray⟩ true false w) :
    Calls Tryd.prog 32 #[.pointer (some ⟨db, 0, none⟩)] w fun e w' => e = .returned (.string ⟨f.toArray⟩) ∧ DecAt db ⟨#[]⟩ true false w' ∧ Below db w w' := by
  refine (text_last db _ ⟨f.toArray⟩ w h (by rw [ext_drop]; rfl) (by rw [Lib.toList_data]; rfl) (fun _ => rfl) (by rw [size_of]; simp) (index_none f hf)).mono ?_
  rintro e w' ⟨rfl, h1, h2⟩
  exact ⟨rfl, h1, h2⟩
end Go.Proofs.Qxb6000929aDoor
