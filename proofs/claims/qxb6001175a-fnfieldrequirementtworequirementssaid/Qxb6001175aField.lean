import Derived.Test.Qxb6001175aReq
namespace Go.Proofs.Qxb6001175a
open Go.RowKit Pl

/-- What the two calls say of one requirement. -/
def Says (c f e v : ByteArray) (n : Bool) : Prop :=
  (∀ W, Calls Try.prog 26 #[.string c] W fun x w' => x = .returned (.tuple #[.string f, .string e, .bool n, .bool true]) ∧ w' = W.drew) ∧
  (∀ W, Calls Try.prog 22 #[.string e] W fun x w' => x = .returned (.tuple #[.string v, .bool true]) ∧ Below W.heap.size W w') ∧
  c.toList.isEmpty = false

def pickOf (fld fc vc fd vd : ByteArray) (nc nd : Bool) : ByteArray :=
  if ((fc.toList == fld.toList) && !nc) = true then vc else if ((fd.toList == fld.toList) && !nd) = true then vd else ⟨#[]⟩

set_option maxHeartbeats 1000000 in
theorem field_walk (sel fld : ByteArray) (w : World) (R : ByteArray)
    (hsp : ∀ W, W = w → Calls Try.prog 24 #[.string sel] W fun x w' => ∃ g cap, x = .returned (.slice (some ⟨g, 0, none⟩) 2 cap) ∧ w.heap.size + 1 ≤ g ∧ Below w.heap.size w w' ∧
      Calls Try.prog 25 #[.slice (some ⟨g, 0, none⟩) 2 cap] w' fun y w2 => y = .returned (.tuple #[]) ∧ ∃ (c fc ec vc d fd ed vd : ByteArray) (nc nd : Bool), w2.cell? ⟨g, 0, none⟩ = some (.string c) ∧ w2.cell? ⟨g, 1, none⟩ = some (.string d) ∧ Says c fc ec vc nc ∧ Says d fd ed vd nd ∧ pickOf fld fc vc fd vd nc nd = R ∧ Below w.heap.size w w2) :
    Calls Try.prog 23 #[.string sel, .string fld] w fun x w' => x = .returned (.string R) ∧ Below w.heap.size w w' := by
  have HSP := hsp w rfl
  clear hsp
  go_enter Try.func23, Try.ntmps23
  go_wp2_with fail
  refine HSP.mono ?_
  rintro e w1 ⟨g, cap, rfl, hg, hb1, hsort⟩
  clear HSP
  have HSO : Hid (Calls Try.prog 25 #[.slice (some ⟨g, 0, none⟩) 2 cap] w1 fun y w2 => y = .returned (.tuple #[]) ∧ ∃ (c fc ec vc d fd ed vd : ByteArray) (nc nd : Bool), w2.cell? ⟨g, 0, none⟩ = some (.string c) ∧ w2.cell? ⟨g, 1, none⟩ = some (.string d) ∧ Says c fc ec vc nc ∧ Says d fd ed vd nd ∧ pickOf fld fc vc fd vd nc nd = R ∧ Below w.heap.size w w2) := hsort
  clear hsort
  go_wp2_with fail
  refine Calls.mono HSO.out ?_
  rintro e w2 ⟨rfl, c, fc, ec, vc, d, fd, ed, vd, nc, nd, hc, hd, hsc, hsd, hR, hb2⟩
  have HC : Hid (Says c fc ec vc nc) := hsc
  have HD : Hid (Says d fd ed vd nd) := hsd
  have hc0 := hsc.2.2
  have hd0 := hsd.2.2
  have HR : Hid (pickOf fld fc vc fd vd nc nd = R) := hR
  have hgl : g < w2.heap.size := World.block_lt_of_cell? w2 _ hc
  clear hsc hsd hR hb1 HSO
  go_wp2_with fail
  refine wp_loop_rounds 3 ?_
  rw [rounds_succ]
  go_wp2_with (first | (go_at_call 26; refine (HC.out.1 _).mono ?_; rintro e w3 ⟨rfl, rfl⟩) | (go_at_call 22; refine (HC.out.2.1 _).mono ?_; rintro e w4 ⟨rfl, hb4⟩))
  all_goals
    have hd4 : w4.cell? ⟨g, 1, none⟩ = some (.string d) := (hb4.cell (p := ⟨g, 1, none⟩) hgl).trans hd
    have hz4 : w2.heap.size ≤ w4.heap.size := hb4.size
    rw [rounds_succ]
    go_wp2_with (first | (go_at_call 26; refine (HD.out.1 _).mono ?_; rintro e w5 ⟨rfl, rfl⟩) | (go_at_call 22; refine (HD.out.2.1 _).mono ?_; rintro e w6 ⟨rfl, hb6⟩))
  all_goals
    rw [rounds_succ]
    go_wp2_with fail
    go_ret
    refine ⟨?_, ?_⟩
    · rw [← HR.out]
      unfold pickOf
      simp_all
    · exact hb2.drew.trans ((hb4.mono hb2.size).drew.trans (hb6.mono (Nat.le_trans hb2.size hz4)))

/-- A field name as the law asks it: no '=', no ',', no backslash; no '!' at its end. -/
def Clean (f : List UInt8) : Prop := (∀ c ∈ f, c ≠ 61 ∧ c ≠ 44 ∧ c ≠ 92) ∧ f.getLast? ≠ some 33

/-- A requirement, written. -/
def req (f : List UInt8) (o : Nat) (v : List UInt8) : List UInt8 := f ++ (opOf o ++ esc v)

theorem req_neutral {f : List UInt8} (o : Nat) (v : List UInt8) (hf : Clean f) : Neutral (req f o v) := by
  refine Neutral.append (neutral_plain f fun c hc => ⟨(hf.1 c hc).2.2, (hf.1 c hc).2.1⟩) (Neutral.append ?_ (neutral_esc v))
  unfold opOf
  split
  · exact neutral_plain _ (by intro c hc; simp at hc; subst hc; decide)
  · split
    · exact neutral_plain _ (by intro c hc; simp at hc; subst hc; decide)
    · exact neutral_plain _ (by intro c hc; simp at hc; rcases hc with rfl | rfl <;> decide)

theorem req_ne (f : List UInt8) (o : Nat) (v : List UInt8) : req f o v ≠ [] := by
  unfold req opOf
  split
  · simp
  · split <;> simp

theorem says_req (f v : List UInt8) (o : Nat) (ho : o < 3) (hf : Clean f) (hl : (req f o v).length ≤ 16777216) (hv : v.length ≤ 1048576) :
    Says ⟨(req f o v).toArray⟩ ⟨f.toArray⟩ ⟨(esc v).toArray⟩ ⟨v.toArray⟩ (decide (o = 2)) := by
  refine ⟨fun W => cut_req ⟨(req f o v).toArray⟩ f v o ho rfl (fun c hc => (hf.1 c hc).1) hf.2 W (by rw [size_l]; exact hl), fun W => ?_, ?_⟩
  · refine unescape_any ⟨(esc v).toArray⟩ v (ust_esc v) W ?_
    rw [size_l]
    have := esc_len v
    omega
  · rw [Lib.toList_data]
    cases h : req f o v with
    | nil => exact absurd h (req_ne f o v)
    | cons c l => rfl

/-- What is required of the field named fld. -/
def want (fld f1 : List UInt8) (o1 : Nat) (v1 f2 : List UInt8) (o2 : Nat) (v2 : List UInt8) : List UInt8 :=
  if fld = f1 then (if o1 = 2 then [] else v1) else if fld = f2 then (if o2 = 2 then [] else v2) else []

theorem toList_mk (l : List UInt8) : (⟨l.toArray⟩ : ByteArray).toList = l := by rw [Lib.toList_data]

theorem pick_want (fld : ByteArray) (f1 v1 f2 v2 : List UInt8) (o1 o2 : Nat) (hne : f1 ≠ f2) :
    pickOf fld ⟨f1.toArray⟩ ⟨v1.toArray⟩ ⟨f2.toArray⟩ ⟨v2.toArray⟩ (decide (o1 = 2)) (decide (o2 = 2)) = ⟨(want fld.data.toList f1 o1 v1 f2 o2 v2).toArray⟩ := by
  unfold pickOf want
  rw [toList_mk, toList_mk, Lib.toList_data]
  by_cases h1 : fld.data.toList = f1
  · have h2 : ¬ fld.data.toList = f2 := fun h => hne (h1.symm.trans h)
    have h3 : (f2 == fld.data.toList) = false := by rw [beq_eq_false_iff_ne]; exact fun h => h2 h.symm
    have h4 : (f1 == fld.data.toList) = true := by rw [beq_iff_eq]; exact h1.symm
    rw [if_pos h1, h3, h4]
    by_cases ho : o1 = 2 <;> simp [ho]
  · have h4 : (f1 == fld.data.toList) = false := by rw [beq_eq_false_iff_ne]; exact fun h => h1 h.symm
    rw [if_neg h1, h4]
    by_cases h2 : fld.data.toList = f2
    · have h3 : (f2 == fld.data.toList) = true := by rw [beq_iff_eq]; exact h2.symm
      rw [if_pos h2, h3]
      by_cases ho : o2 = 2 <;> simp [ho]
    · have h3 : (f2 == fld.data.toList) = false := by rw [beq_eq_false_iff_ne]; exact fun h => h2 h.symm
      rw [if_neg h2, h3]
      simp

theorem want_swap (fld f1 v1 f2 v2 : List UInt8) (o1 o2 : Nat) (hne : f1 ≠ f2) : want fld f2 o2 v2 f1 o1 v1 = want fld f1 o1 v1 f2 o2 v2 := by
  unfold want
  by_cases h1 : fld = f1
  · rw [if_pos h1, if_neg (fun h => hne (h1.symm.trans h)), if_pos h1]
  · rw [if_neg h1, if_neg h1]

theorem own_cell {W : World} {B g cap : Nat} {a b : List UInt8} (h : W.ownsRow B 9 1 (.slice (some ⟨g, 0, none⟩) 2 cap) 2 ([a, b].map strV)) : W.cell? ⟨g, 0, none⟩ = some (.string ⟨a.toArray⟩) ∧ W.cell? ⟨g, 1, none⟩ = some (.string ⟨b.toArray⟩) := by
  have h0 := h.cells (g := g) rfl 0 _ rfl
  have h1 := h.cells (g := g) rfl 1 _ rfl
  exact ⟨by simpa [Addr.add, strV] using h0, by simpa [Addr.add, strV] using h1⟩

theorem field_any (sel fld : ByteArray) (f1 v1 f2 v2 : List UInt8) (o1 o2 : Nat) (ho1 : o1 < 3) (ho2 : o2 < 3) (hc1 : Clean f1) (hc2 : Clean f2) (hne : f1 ≠ f2) (hv1 : v1.length ≤ 1048576) (hv2 : v2.length ≤ 1048576)
    (hsel : sel.data.toList = req f1 o1 v1 ++ 44 :: req f2 o2 v2) (hs : sel.size ≤ 16777216) (w : World) :
    Calls Try.prog 23 #[.string sel, .string fld] w fun x w' => x = .returned (.string ⟨(want fld.data.toList f1 o1 v1 f2 o2 v2).toArray⟩) ∧ Below w.heap.size w w' := by
  have hsz : sel.size = (req f1 o1 v1).length + (req f2 o2 v2).length + 1 := by
    rw [size_r hsel]; simp; omega
  have S1 := says_req f1 v1 o1 ho1 hc1 (by omega) hv1
  have S2 := says_req f2 v2 o2 ho2 hc2 (by omega) hv2
  apply field_walk
  rintro W rfl
  refine (split_any sel false [req f1 o1 v1] (req f2 o2 v2) (by rw [hsel]; exact sst_two (req_neutral o1 v1 hc1) (req_neutral o2 v2 hc2)) W hs).mono ?_
  rintro x w' ⟨v, rfl, hown, hb⟩
  have hown' : w'.ownsRow (W.heap.size + 1) 9 1 v 2 ([req f1 o1 v1, req f2 o2 v2].map strV) := hown
  obtain ⟨g, cap, rfl, hg⟩ : ∃ g cap, v = .slice (some ⟨g, 0, none⟩) 2 cap ∧ W.heap.size + 1 ≤ g := by
    rcases hown'.2 with ⟨_, h0⟩ | ⟨g, cap, cur, hv, hbase, _⟩
    · cases h0
    · exact ⟨g, cap, hv, hbase⟩
  refine ⟨g, cap, rfl, hg, hb, ?_⟩
  refine (sort2 (W.heap.size + 1) g cap _ _ w' hown').mono ?_
  rintro y w2 ⟨rfl, c, d, hcd, hown2, hb2⟩
  obtain ⟨k0, k1⟩ := own_cell hown2
  have hb3 : Below W.heap.size W w2 := hb.trans (hb2.mono (Nat.le_succ _))
  refine ⟨rfl, ?_⟩
  rcases hcd with ⟨rfl, rfl⟩ | ⟨rfl, rfl⟩
  · exact ⟨_, _, _, _, _, _, _, _, _, _, k0, k1, S1, S2, pick_want fld f1 v1 f2 v2 o1 o2 hne, hb3⟩
  · exact ⟨_, _, _, _, _, _, _, _, _, _, k0, k1, S2, S1, by rw [pick_want fld f2 v2 f1 v1 o2 o1 hne.symm, want_swap _ _ _ _ _ _ _ hne], hb3⟩

set_option maxHeartbeats 400000 in
theorem zzField_any (sel fld : ByteArray) (f1 v1 f2 v2 : List UInt8) (o1 o2 : Nat) (ho1 : o1 < 3) (ho2 : o2 < 3) (hc1 : Clean f1) (hc2 : Clean f2) (hne : f1 ≠ f2) (hv1 : v1.length ≤ 1048576) (hv2 : v2.length ≤ 1048576)
    (hsel : sel.data.toList = req f1 o1 v1 ++ 44 :: req f2 o2 v2) (hs : sel.size ≤ 16777216) (w : World) :
    Calls Try.prog 18 #[.string sel, .string fld] w fun x w' => x = .returned (.string ⟨(want fld.data.toList f1 o1 v1 f2 o2 v2).toArray⟩) ∧ Below w.heap.size w w' := by
  have H : Hid (∀ W, Calls Try.prog 23 #[.string sel, .string fld] W fun x w' => x = .returned (.string ⟨(want fld.data.toList f1 o1 v1 f2 o2 v2).toArray⟩) ∧ Below W.heap.size W w') := fun W => field_any sel fld f1 v1 f2 v2 o1 o2 ho1 ho2 hc1 hc2 hne hv1 hv2 hsel hs W
  clear hsel hc1 hc2 hne hv1 hv2 ho1 ho2 hs
  go_enter Try.func18, Try.ntmps18
  go_wp2_with (go_at_call 23; refine (H.out _).mono ?_; rintro e w' ⟨rfl, hb⟩)
  go_ret
  exact ⟨rfl, hb⟩
end Go.Proofs.Qxb6001175a
