import Derived.Lib.SpaceUEq
import Derived.Lib.Bytealg
import Derived.Laws.RangeAny
namespace Go.Proofs.Qxb6001175a.Pl

def special (c : UInt8) : Bool := c == 92 || c == 44 || c == 61

/-- zzEscape, plain. -/
def esc : List UInt8 → List UInt8
  | [] => []
  | c :: l => (if special c then [92, c] else [c]) ++ esc l

theorem esc_append : ∀ a b : List UInt8, esc (a ++ b) = esc a ++ esc b
  | [], b => by simp [esc]
  | c :: a, b => by simp [esc, esc_append a b]

theorem esc_snoc (a : List UInt8) (c : UInt8) : esc (a ++ [c]) = esc a ++ (if special c then [92, c] else [c]) := by
  rw [esc_append]; simp [esc]

theorem esc_len : ∀ l : List UInt8, (esc l).length ≤ 2 * l.length
  | [] => by simp [esc]
  | c :: l => by
    have := esc_len l
    simp only [esc, List.length_append, List.length_cons]
    split <;> simp <;> omega

/-- unescapeFieldValue's state behind some bytes: none: it has said no; else whether an escape is open, and what has been gathered. -/
def ustep : Option (Bool × List UInt8) → UInt8 → Option (Bool × List UInt8)
  | none, _ => none
  | some (true, a), c => if special c then some (false, a ++ [c]) else none
  | some (false, a), c => if c == 92 then some (true, a) else if c == 44 || c == 61 then none else some (false, a ++ [c])

def ust (l : List UInt8) : Option (Bool × List UInt8) := l.foldl ustep (some (false, []))

theorem ust_snoc (l : List UInt8) (c : UInt8) : ust (l ++ [c]) = ustep (ust l) c := by simp [ust]

theorem ust_from : ∀ (v a : List UInt8), (esc v).foldl ustep (some (false, a)) = some (false, a ++ v)
  | [], a => by simp [esc]
  | c :: v, a => by
    rw [esc, List.foldl_append]
    by_cases h : special c = true
    · rw [if_pos h]
      simp only [List.foldl_cons, List.foldl_nil]
      have e : ustep (ustep (some (false, a)) 92) c = some (false, a ++ [c]) := by simp [ustep, h]
      rw [e, ust_from v]
      simp
    · rw [if_neg h]
      simp only [List.foldl_cons, List.foldl_nil]
      have h' : special c = false := by simpa using h
      unfold special at h'
      simp only [Bool.or_eq_false_iff] at h'
      have e : ustep (some (false, a)) c = some (false, a ++ [c]) := by simp [ustep, h'.1.1, h'.1.2, h'.2]
      rw [e, ust_from v]
      simp

theorem ust_esc (v : List UInt8) : ust (esc v) = some (false, v) := by
  unfold ust; rw [ust_from]; simp

theorem foldl_none : ∀ l : List UInt8, l.foldl ustep none = none
  | [] => rfl
  | c :: l => by simp [ustep, foldl_none l]

/-- Where the whole is accepted every head part is. -/
theorem ust_headpart {l : List UInt8} {r : Bool × List UInt8} (h : ust l = some r) (k : Nat) : ∃ b a, ust (l.take k) = some (b, a) := by
  have e : ust l = (l.drop k).foldl ustep (ust (l.take k)) := by
    unfold ust
    rw [← List.foldl_append, List.take_append_drop]
  cases hk : ust (l.take k) with
  | none => rw [e, hk, foldl_none] at h; cases h
  | some x => exact ⟨x.1, x.2, rfl⟩

theorem ust_len : ∀ (l : List UInt8) (b : Bool) (a : List UInt8), ust l = some (b, a) → a.length ≤ l.length := by
  intro l
  suffices ∀ (l : List UInt8) (x : Option (Bool × List UInt8)) (n : Nat), (∀ b a, x = some (b, a) → a.length ≤ n) → ∀ b a, l.foldl ustep x = some (b, a) → a.length ≤ n + l.length by
    intro b a h
    have := this l (some (false, [])) 0 (by intro b a h; cases h; simp) b a h
    omega
  intro l
  induction l with
  | nil => intro x n hx b a h; simpa using hx b a h
  | cons c l ih =>
    intro x n hx b a h
    rw [List.foldl_cons] at h
    have := ih (ustep x c) (n + 1) (by
      intro b' a' h'
      rcases x with _ | ⟨b0, a0⟩
      · cases h'
      · have h0 := hx b0 a0 rfl
        cases b0 <;> simp only [ustep] at h'
        · split at h'
          · cases h'; omega
          · split at h'
            · cases h'
            · cases h'; simp; omega
        · split at h'
          · cases h'; simp; omega
          · cases h') b a h
    simp; omega

/-- splitSelector's state behind some bytes: whether an escape is open, the parts that are cut off, the part in hand. -/
def sstep (s : Bool × List (List UInt8) × List UInt8) (c : UInt8) : Bool × List (List UInt8) × List UInt8 :=
  if s.1 then (false, s.2.1, s.2.2 ++ [c])
  else if c == 92 then (true, s.2.1, s.2.2 ++ [c])
  else if c == 44 then (false, s.2.1 ++ [s.2.2], [])
  else (false, s.2.1, s.2.2 ++ [c])

def sst (l : List UInt8) : Bool × List (List UInt8) × List UInt8 := l.foldl sstep (false, [], [])

/-- A text that leaves no escape open and holds no bare comma. -/
def Neutral (a : List UInt8) : Prop := ∀ P C, a.foldl sstep (false, P, C) = (false, P, C ++ a)

theorem Neutral.append {a b : List UInt8} (ha : Neutral a) (hb : Neutral b) : Neutral (a ++ b) := by
  intro P C
  rw [List.foldl_append, ha, hb]
  simp

theorem neutral_plain : ∀ (a : List UInt8), (∀ c ∈ a, c ≠ 92 ∧ c ≠ 44) → Neutral a
  | [], _ => by intro P C; simp
  | c :: a, h => by
    intro P C
    have hc := h c (by simp)
    have h1 : (c == 92) = false := by simpa using hc.1
    have h2 : (c == 44) = false := by simpa using hc.2
    rw [List.foldl_cons]
    have e : sstep (false, P, C) c = (false, P, C ++ [c]) := by simp [sstep, h1, h2]
    rw [e, neutral_plain a (fun x hx => h x (by simp [hx]))]
    simp

theorem neutral_esc : ∀ (v : List UInt8), Neutral (esc v)
  | [] => by intro P C; simp [esc]
  | c :: v => by
    rw [esc]
    refine Neutral.append ?_ (neutral_esc v)
    by_cases h : special c = true
    · rw [if_pos h]
      intro P C
      simp [sstep]
    · rw [if_neg h]
      have h' : special c = false := by simpa using h
      unfold special at h'
      simp only [Bool.or_eq_false_iff] at h'
      exact neutral_plain [c] (by intro x hx; simp at hx; subst hx; exact ⟨by simpa using h'.1.1, by simpa using h'.1.2⟩)

theorem sst_two {a b : List UInt8} (ha : Neutral a) (hb : Neutral b) : sst (a ++ 44 :: b) = (false, [a], b) := by
  unfold sst
  rw [List.foldl_append, ha, List.foldl_cons]
  have e : sstep (false, [], [] ++ a) 44 = (false, [a], []) := by simp [sstep]
  rw [e, hb]
  simp

/-- Bytes beyond ASCII: they close an open escape, and nothing else. -/
theorem sst_high : ∀ (bs : List UInt8) (e : Bool) (P : List (List UInt8)) (C : List UInt8), bs ≠ [] → (∀ c ∈ bs, 128 ≤ c.toNat) → bs.foldl sstep (e, P, C) = (false, P, C ++ bs)
  | [], _, _, _, h, _ => absurd rfl h
  | c :: bs, e, P, C, _, h => by
    have hc := h c (by simp)
    have h1 : (c == 92) = false := by
      rw [beq_eq_false_iff_ne]; rintro rfl; exact absurd hc (by decide)
    have h2 : (c == 44) = false := by
      rw [beq_eq_false_iff_ne]; rintro rfl; exact absurd hc (by decide)
    have e1 : sstep (e, P, C) c = (false, P, C ++ [c]) := by cases e <;> simp [sstep, h1, h2]
    rw [List.foldl_cons, e1]
    cases bs with
    | nil => rfl
    | cons d bs =>
      rw [sst_high (d :: bs) false P _ (by simp) (fun x hx => h x (by simp [hx]))]
      simp

theorem sst_split (l : List UInt8) (p n : Nat) : sst (l.take (p + n)) = ((l.drop p).take n).foldl sstep (sst (l.take p)) := by
  unfold sst
  rw [← List.foldl_append, ← List.take_add]

/-- A rune beyond ASCII: its bytes lie in the text and are all beyond ASCII. -/
theorem rune_high (s : ByteArray) (pos : Nat) (h : pos < s.size) (ha : 128 ≤ (s[pos]'h).toNat) :
    pos + (Utf8.decode s pos).2 ≤ s.size ∧ ∀ c ∈ (s.data.toList.drop pos).take (Utf8.decode s pos).2, 128 ≤ c.toNat := by
  have hl : s.data.toList.length = s.size := by rw [Array.length_toList]; rfl
  have hg0 : s.data.toList.getD pos 0 = s[pos]'h := by
    have : pos < s.data.toList.length := by omega
    simp only [List.getD, List.getElem?_eq_getElem this, Option.getD_some]
    rfl
  have hc := Lib.decodeN_conts (s.data.toList.length - pos) (s.data.toList.getD pos 0).toNat (s.data.toList.getD (pos + 1) 0).toNat (s.data.toList.getD (pos + 2) 0).toNat (s.data.toList.getD (pos + 3) 0).toNat
  rw [← Lib.decode_N] at hc
  obtain ⟨c2, c3, c4, c5⟩ := hc
  refine ⟨by omega, fun c hm => ?_⟩
  obtain ⟨j, hj, rfl⟩ := List.mem_iff_getElem.1 hm
  have hjl := hj
  rw [List.length_take, List.length_drop] at hjl
  have e : ((s.data.toList.drop pos).take (Utf8.decode s pos).2)[j] = s.data.toList.getD (pos + j) 0 := by
    rw [List.getElem_take, List.getElem_drop]
    simp only [List.getD]
    rw [List.getElem?_eq_getElem (by omega)]
    rfl
  rw [e]
  have hj4 : j = 0 ∨ j = 1 ∨ j = 2 ∨ j = 3 := by omega
  rcases hj4 with rfl | rfl | rfl | rfl
  · rw [Nat.add_zero, hg0]; exact ha
  · have := (c2 (by omega)).1; omega
  · have := (c3 (by omega)).1; omega
  · have := (c4 (by omega)).1; omega

/-- What one rune does to the state. -/
theorem rune_step (s : ByteArray) (pos : Nat) (h : pos < s.size) :
    pos + (Utf8.decode s pos).2 ≤ s.size ∧ 1 ≤ (Utf8.decode s pos).2 ∧
    (((s[pos]'h).toNat < 128 ∧ Utf8.decode s pos = ((s[pos]'h).toNat, 1) ∧ sst (s.data.toList.take (pos + 1)) = sstep (sst (s.data.toList.take pos)) (s[pos]'h)) ∨
     (128 ≤ (Utf8.decode s pos).1 ∧ sst (s.data.toList.take (pos + (Utf8.decode s pos).2)) = (false, (sst (s.data.toList.take pos)).2.1, (sst (s.data.toList.take pos)).2.2 ++ (s.data.toList.drop pos).take (Utf8.decode s pos).2))) := by
  by_cases ha : (s[pos]'h).toNat < 128
  · have hd := decode_ascii s pos h ha
    rw [hd]
    refine ⟨by omega, Nat.le_refl _, .inl ⟨ha, rfl, ?_⟩⟩
    rw [sst_split]
    have hl : pos < s.data.toList.length := by rw [Array.length_toList]; exact h
    rw [List.drop_eq_getElem_cons hl]
    simp only [List.take_succ_cons, List.take_zero, List.foldl_cons, List.foldl_nil]
    rfl
  · have hh := decode_high s pos h (by omega)
    have hr := rune_high s pos h (by omega)
    refine ⟨hr.1, hh.2, .inr ⟨hh.1, ?_⟩⟩
    rw [sst_split, sst_high _ _ _ _ ?_ hr.2]
    intro h0
    have := congrArg List.length h0
    rw [List.length_take, List.length_drop] at this
    have hl : s.data.toList.length = s.size := by rw [Array.length_toList]; rfl
    simp at this
    omega
end Go.Proofs.Qxb6001175a.Pl
