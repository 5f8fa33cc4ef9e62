import Derived.Test.Qxb6001175aCut
import Derived.Test.Qxb6001175aUnesc
import Derived.Test.Qxb6001175aSort
namespace Go.Proofs.Qxb6001175a
open Go.RowKit Pl

/-- zzOp, plain: by k % 3. -/
def opOf (o : Nat) : List UInt8 := if o = 0 then [61] else if o = 1 then [61, 61] else [33, 61]

theorem index_hit : ∀ (f t : List UInt8), (∀ x ∈ f, x ≠ 61) → Lib.indexByte (f ++ 61 :: t) 61 = (f.length : Int)
  | [], t, _ => by simp [Lib.indexByte]
  | x :: f, t, h => by
    have hx : (x == 61) = false := by simpa using h x (by simp)
    have ih := index_hit f t fun y hy => h y (by simp [hy])
    simp only [List.cons_append, Lib.indexByte, hx, ih]
    have hne : ((f.length : Int) == -1) = false := by rw [beq_eq_false_iff_ne]; omega
    simp [hne]

theorem ext_l (l : List UInt8) (a b : Nat) : (⟨l.toArray⟩ : ByteArray).extract a b = ⟨((l.drop a).take (b - a)).toArray⟩ := ext_str ⟨l.toArray⟩ a b
theorem size_l (l : List UInt8) : (⟨l.toArray⟩ : ByteArray).size = l.length := by simp [ByteArray.size]

theorem ext_head (f t : List UInt8) : (⟨(f ++ t).toArray⟩ : ByteArray).extract 0 f.length = ⟨f.toArray⟩ := by
  rw [ext_l]; simp
theorem ext_tail (f t : List UInt8) : (⟨(f ++ t).toArray⟩ : ByteArray).extract f.length (⟨(f ++ t).toArray⟩ : ByteArray).size = ⟨t.toArray⟩ := by
  rw [ext_l, size_l]; simp

theorem esc_head (v : List UInt8) : ∀ c t, esc v = c :: t → c ≠ 61 := by
  intro c t h
  cases v with
  | nil => simp [esc] at h
  | cons x v =>
    rw [esc] at h
    by_cases hs : special x = true
    · rw [if_pos hs] at h
      simp at h
      rw [← h.1]; decide
    · rw [if_neg hs] at h
      simp at h
      rw [← h.1]
      intro h61
      apply hs
      rw [h61]; rfl

/-- A string is its bytes. -/
theorem of_bytes {r : ByteArray} {l : List UInt8} (h : r.data.toList = l) : r = ⟨l.toArray⟩ := by
  subst h; rfl

theorem ext_head' {r : ByteArray} {f t : List UInt8} (h : r.data.toList = f ++ t) : r.extract 0 f.length = ⟨f.toArray⟩ := by
  rw [of_bytes h]; exact ext_head _ _
theorem ext_tail' {r : ByteArray} {f t : List UInt8} (h : r.data.toList = f ++ t) : r.extract f.length r.size = ⟨t.toArray⟩ := by
  rw [of_bytes h]; exact ext_tail _ _
theorem size_r {r : ByteArray} {l : List UInt8} (h : r.data.toList = l) : r.size = l.length := by
  rw [← h, Array.length_toList]; rfl
theorem at_r {r : ByteArray} {f t : List UInt8} {c : UInt8} (h : r.data.toList = f ++ c :: t) (hh : f.length < r.size) : r[f.length]'hh = c := by
  have : r.data.toList[f.length]? = some c := by rw [h]; simp
  have h2 : r.data.toList[f.length]? = some (r[f.length]'hh) := by
    rw [List.getElem?_eq_getElem (by rw [Array.length_toList]; exact hh)]; rfl
  rw [this] at h2
  exact (Option.some.inj h2).symm

theorem cut_req_ne (r : ByteArray) (f e : List UInt8) (hr : r.data.toList = f ++ 33 :: 61 :: e) (hf : ∀ c ∈ f, c ≠ 61) (w : World) (hsz : r.size ≤ 16777216) :
    Calls Try.prog 26 #[.string r] w fun x w' => x = .returned (.tuple #[.string ⟨f.toArray⟩, .string ⟨e.toArray⟩, .bool true, .bool true]) ∧ w' = w.drew := by
  have e1 : r.data.toList = (f ++ [33]) ++ 61 :: e := by rw [hr]; simp
  have e3 : r.data.toList = (f ++ [33, 61]) ++ e := by rw [hr]; simp
  have hix : Lib.indexByte r.data.toList 61 = (f.length : Int) + 1 := by
    rw [e1, index_hit _ _ (by intro x hx; rcases List.mem_append.1 hx with h | h; exact hf x h; simp at h; subst h; decide)]
    simp
  have hs := size_r hr
  have h1 := ext_head' hr
  have h2 := ext_tail' e3
  have hl2 : (f ++ [33, 61]).length = f.length + 2 := by simp
  rw [hl2] at h2
  refine (cut_ne_walk r f.length hix (by rw [hs]; simp) (fun h => at_r hr h) w hsz).mono ?_
  rintro x w' ⟨rfl, rfl⟩
  rw [h1, h2]
  exact ⟨rfl, rfl⟩

theorem last_ne {f' : List UInt8} {c : UInt8} (hl : (f' ++ [c]).getLast? ≠ some 33) : (c.toNat : Int) ≠ 33 := by
  intro h33
  apply hl
  simp
  apply UInt8.toNat.inj
  show c.toNat = 33
  omega

theorem cut_req_eq2 (r : ByteArray) (f e : List UInt8) (hr : r.data.toList = f ++ 61 :: 61 :: e) (hf : ∀ c ∈ f, c ≠ 61) (hl : f.getLast? ≠ some 33) (w : World) (hsz : r.size ≤ 16777216) :
    Calls Try.prog 26 #[.string r] w fun x w' => x = .returned (.tuple #[.string ⟨f.toArray⟩, .string ⟨e.toArray⟩, .bool false, .bool true]) ∧ w' = w.drew := by
  have e3 : r.data.toList = (f ++ [61, 61]) ++ e := by rw [hr]; simp
  have hix : Lib.indexByte r.data.toList 61 = (f.length : Int) := by rw [hr]; exact index_hit _ _ hf
  have hs := size_r hr
  have h1 := ext_head' hr
  have hT := ext_tail' hr
  have h2 := ext_tail' e3
  have hl2 : (f ++ [61, 61]).length = f.length + 2 := by simp
  rw [hl2] at h2
  have hP : (((⟨(61 :: 61 :: e).toArray⟩ : ByteArray).extract 0 2).toList == [61, 61]) = true := by rw [ext_l, Lib.toList_data]; simp
  rcases List.eq_nil_or_concat f with hn | ⟨f', c, hc⟩
  · subst hn
    have hr0 : r = ⟨(61 :: 61 :: e).toArray⟩ := of_bytes hr
    refine (cut_z_yes r hix (by rw [hs]; simp) (by rw [hr0]; exact hP) w hsz).mono ?_
    rintro x w' ⟨rfl, rfl⟩
    simp only [List.length_nil, Nat.zero_add] at h1 h2
    rw [h1, h2]
    exact ⟨rfl, rfl⟩
  · rw [List.concat_eq_append] at hc
    subst hc
    have hlen : (f' ++ [c]).length = f'.length + 1 := by simp
    rw [hlen] at hix hT h1 h2
    have hr' : r.data.toList = f' ++ c :: (61 :: 61 :: e) := by rw [hr]; simp
    refine (cut_s_yes r f'.length (fun h => by rw [at_r hr' h]; exact last_ne hl) hix (by rw [hs]; simp; omega) (by rw [hT]; exact hP) w hsz).mono ?_
    rintro x w' ⟨rfl, rfl⟩
    rw [h1, h2]
    exact ⟨rfl, rfl⟩

theorem cut_req_eq1 (r : ByteArray) (f e : List UInt8) (hr : r.data.toList = f ++ 61 :: e) (hf : ∀ c ∈ f, c ≠ 61) (hl : f.getLast? ≠ some 33) (he : ∀ c t, e = c :: t → c ≠ 61) (w : World) (hsz : r.size ≤ 16777216) :
    Calls Try.prog 26 #[.string r] w fun x w' => x = .returned (.tuple #[.string ⟨f.toArray⟩, .string ⟨e.toArray⟩, .bool false, .bool true]) ∧ w' = w.drew := by
  have e3 : r.data.toList = (f ++ [61]) ++ e := by rw [hr]; simp
  have hix : Lib.indexByte r.data.toList 61 = (f.length : Int) := by rw [hr]; exact index_hit _ _ hf
  have hs := size_r hr
  have h1 := ext_head' hr
  have hT := ext_tail' hr
  have h2 := ext_tail' e3
  have hl2 : (f ++ [61]).length = f.length + 1 := by simp
  rw [hl2] at h2
  rcases List.eq_nil_or_concat f with hn | ⟨f', c, hc⟩
  · subst hn
    have hr0 : r = ⟨(61 :: e).toArray⟩ := of_bytes hr
    simp only [List.length_nil, Nat.zero_add] at h1 h2
    cases e with
    | nil =>
      refine (cut_z_short r hix (by rw [hs]; simp) w).mono ?_
      rintro x w' ⟨rfl, rfl⟩
      rw [h1, h2]
      exact ⟨rfl, rfl⟩
    | cons d t =>
      have hd := he d t rfl
      have hP : (((⟨(61 :: d :: t).toArray⟩ : ByteArray).extract 0 2).toList == [61, 61]) = false := by rw [ext_l, Lib.toList_data]; simpa using hd
      refine (cut_z_no r hix (by rw [hs]; simp) (by rw [hr0]; exact hP) w hsz).mono ?_
      rintro x w' ⟨rfl, rfl⟩
      rw [h1, h2]
      exact ⟨rfl, rfl⟩
  · rw [List.concat_eq_append] at hc
    subst hc
    have hlen : (f' ++ [c]).length = f'.length + 1 := by simp
    rw [hlen] at hix hT h1 h2
    have hr' : r.data.toList = f' ++ c :: (61 :: e) := by rw [hr]; simp
    cases e with
    | nil =>
      refine (cut_s_short r f'.length (fun h => by rw [at_r hr' h]; exact last_ne hl) hix (by rw [hs]; simp) w hsz).mono ?_
      rintro x w' ⟨rfl, rfl⟩
      rw [h1, h2]
      exact ⟨rfl, rfl⟩
    | cons d t =>
      have hd := he d t rfl
      have hP : (((⟨(61 :: d :: t).toArray⟩ : ByteArray).extract 0 2).toList == [61, 61]) = false := by rw [ext_l, Lib.toList_data]; simpa using hd
      refine (cut_s_no r f'.length (fun h => by rw [at_r hr' h]; exact last_ne hl) hix (by rw [hs]; simp; omega) (by rw [hT]; exact hP) w hsz).mono ?_
      rintro x w' ⟨rfl, rfl⟩
      rw [h1, h2]
      exact ⟨rfl, rfl⟩

/-- A requirement on a clean field, its value escaped. -/
theorem cut_req (r : ByteArray) (f v : List UInt8) (o : Nat) (ho : o < 3) (hr : r.data.toList = f ++ (opOf o ++ esc v)) (hf : ∀ c ∈ f, c ≠ 61) (hl : f.getLast? ≠ some 33) (w : World) (hsz : r.size ≤ 16777216) :
    Calls Try.prog 26 #[.string r] w fun x w' => x = .returned (.tuple #[.string ⟨f.toArray⟩, .string ⟨(esc v).toArray⟩, .bool (decide (o = 2)), .bool true]) ∧ w' = w.drew := by
  have h3 : o = 0 ∨ o = 1 ∨ o = 2 := by omega
  rcases h3 with rfl | rfl | rfl
  · exact cut_req_eq1 r f (esc v) (by rw [hr]; rfl) hf hl (esc_head v) w hsz
  · exact cut_req_eq2 r f (esc v) (by rw [hr]; rfl) hf hl w hsz
  · exact cut_req_ne r f (esc v) (by rw [hr]; rfl) hf w hsz
end Go.Proofs.Qxb6001175a
