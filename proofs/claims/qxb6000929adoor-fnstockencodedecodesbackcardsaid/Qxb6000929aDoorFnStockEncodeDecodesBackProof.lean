/-
  The proof of 'Rows.FnStockEncodeDecodesBackCardSaid': the row (its tables listed), then the tied card.
-/
import Derived.Test.Qxb6000929aDoorTop
import Derived.Test.Qxb6000929aDoorTie
import Derived.Test.Qxb6000929aDoorCards
import Derived.ProofKit
import Derived.LaidMore
import Derived.OpenShut
import Derived.Stop.Joined
import Derived.Lib.LaidTab
import Derived.SevenTiedAt
namespace Go.Proofs.Qxb6000929aDoor.fnStockEncodeDecodesBack
open Go.ChangeShapes Go.WideShapes Go.ChangeAt Go.RowKit
set_option linter.unusedVariables false

theorem own : ownKnob Tryd.prog.godebug = none := by kernel_rfl
theorem laidOut : laidOutB Tryd.prog = true := by kernel_rfl

theorem list11 {α : Type} {l : List α} (h : l.length = 11) : ∃ t0 t1 t2 t3 t4 t5 t6 t7 t8 t9 t10, l = [t0, t1, t2, t3, t4, t5, t6, t7, t8, t9, t10] := by
  match l, h with
  | [t0, t1, t2, t3, t4, t5, t6, t7, t8, t9, t10], _ => exact ⟨t0, t1, t2, t3, t4, t5, t6, t7, t8, t9, t10, rfl⟩
theorem list4 {α : Type} {l : List α} (h : l.length = 4) : ∃ n0 n1 n2 n3, l = [n0, n1, n2, n3] := by
  match l, h with
  | [n0, n1, n2, n3], _ => exact ⟨n0, n1, n2, n3, rfl⟩

theorem okWide_arr {P : Program} {w : World} {r : Reach} {b : Nat} {t e : TypeId} {n : Nat} {v : Value} (ht : P.underlying t = some (.array n e)) (h : Value.okWide P w r b t v) : ∃ cs, v = .agg cs ∧ cs.size = P.cellsOf t := by
  unfold Value.okWide at h
  rw [ht] at h
  obtain ⟨cs, h1, h2, _⟩ := h
  exact ⟨cs, h1, h2⟩

/-- An array of strings, by value: its cells. -/
theorem cells_str {H : Type} {enc : TypeId × Value → H} {P : Program} {w : World} {base : Nat} {sp : Nat → Bool} {held : Bool} {t e : TypeId} {n : Nat} {cs : Array Value} {d : DataW H} {p : List MemPlace}
    (ht : P.underlying t = some (.array n e)) (he : P.underlying e = some .string) (hce : P.cellsOf e = 1) (hn : cs.size = n) (h : DataW.Trod enc P w base sp held t (.agg cs) d p) :
    ∃ T : List ByteArray, T.length = n ∧ cs = (T.map Value.string).toArray ∧ ∀ s ∈ T, s.size ≤ maxLen := by
  obtain ⟨fuel, hf⟩ := h
  obtain ⟨xs, m, _, _, _, hl, hel⟩ := DataW.trod_array ht hf
  have each : ∀ i, i < n → ∃ s : ByteArray, cs[i]? = some (.string s) ∧ s.size ≤ maxLen := by
    intro i hi
    have h1 := hel i hi
    rw [hce, Nat.mul_one, List.getElem?_eq_getElem (by omega)] at h1
    obtain ⟨s, e1, _, hs⟩ := DataW.trod_string he h1
    refine ⟨s, ?_, hs⟩
    have := congrArg (·[0]?) e1
    simpa [Value.cells, List.getElem?_take, List.getElem?_drop] using this
  have build : ∀ k, k ≤ n → ∃ T : List ByteArray, T.length = k ∧ (∀ i, i < k → cs[i]? = (T.map Value.string)[i]?) ∧ ∀ s ∈ T, s.size ≤ maxLen := by
    intro k
    induction k with
    | zero => intro _; exact ⟨[], rfl, fun i hi => absurd hi (Nat.not_lt_zero _), by simp⟩
    | succ k ih =>
      intro hk
      obtain ⟨T, hT, hc, hs⟩ := ih (by omega)
      obtain ⟨s, e1, hs1⟩ := each k (by omega)
      refine ⟨T ++ [s], by simp [hT], ?_, ?_⟩
      · intro i hi
        by_cases hik : i = k
        · subst hik
          rw [e1, List.map_append, List.getElem?_append_right (by simp [hT])]
          simp [hT]
        · rw [hc i (by omega), List.map_append, List.getElem?_append_left (by simp [hT]; omega)]
      · intro x hx
        rcases List.mem_append.1 hx with h | h
        · exact hs x h
        · simp at h; subst h; exact hs1
  obtain ⟨T, hT, hc, hs⟩ := build n (Nat.le_refl _)
  refine ⟨T, hT, ?_, hs⟩
  apply Array.ext_getElem?
  intro i
  by_cases hi : i < n
  · rw [hc i hi]; simp
  · rw [Array.getElem?_eq_none (by omega), Array.getElem?_eq_none (by simp; omega)]

theorem cells_int {H : Type} {enc : TypeId × Value → H} {P : Program} {w : World} {base : Nat} {sp : Nat → Bool} {held : Bool} {t e : TypeId} {n : Nat} {cs : Array Value} {d : DataW H} {p : List MemPlace}
    (ht : P.underlying t = some (.array n e)) (he : P.underlying e = some (.int .i64)) (hce : P.cellsOf e = 1) (hn : cs.size = n) (h : DataW.Trod enc P w base sp held t (.agg cs) d p) :
    ∃ Z : List Int, Z.length = n ∧ cs = (Z.map (Value.int .i64)).toArray ∧ ∀ z ∈ Z, (Lit.int .i64 z).wf = true := by
  obtain ⟨fuel, hf⟩ := h
  obtain ⟨xs, m, _, _, _, hl, hel⟩ := DataW.trod_array ht hf
  have each : ∀ i, i < n → ∃ z : Int, cs[i]? = some (.int .i64 z) ∧ (Lit.int .i64 z).wf = true := by
    intro i hi
    have h1 := hel i hi
    rw [hce, Nat.mul_one, List.getElem?_eq_getElem (by omega)] at h1
    obtain ⟨s, e1, _, hs⟩ := DataW.trod_int he h1
    refine ⟨s, ?_, hs⟩
    have := congrArg (·[0]?) e1
    simpa [Value.cells, List.getElem?_take, List.getElem?_drop] using this
  have build : ∀ k, k ≤ n → ∃ T : List Int, T.length = k ∧ (∀ i, i < k → cs[i]? = (T.map (Value.int .i64))[i]?) ∧ ∀ s ∈ T, (Lit.int .i64 s).wf = true := by
    intro k
    induction k with
    | zero => intro _; exact ⟨[], rfl, fun i hi => absurd hi (Nat.not_lt_zero _), by simp⟩
    | succ k ih =>
      intro hk
      obtain ⟨T, hT, hc, hs⟩ := ih (by omega)
      obtain ⟨s, e1, hs1⟩ := each k (by omega)
      refine ⟨T ++ [s], by simp [hT], ?_, ?_⟩
      · intro i hi
        by_cases hik : i = k
        · subst hik
          rw [e1, List.map_append, List.getElem?_append_right (by simp [hT])]
          simp [hT]
        · rw [hc i (by omega), List.map_append, List.getElem?_append_left (by simp [hT]; omega)]
      · intro x hx
        rcases List.mem_append.1 hx with h | h
        · exact hs x h
        · simp at h; subst h; exact hs1
  obtain ⟨T, hT, hc, hs⟩ := build n (Nat.le_refl _)
  refine ⟨T, hT, ?_, hs⟩
  apply Array.ext_getElem?
  intro i
  by_cases hi : i < n
  · rw [hc i hi]; simp
  · rw [Array.getElem?_eq_none (by omega), Array.getElem?_eq_none (by simp; omega)]

theorem wf_bounds {z : Int} (h : (Lit.int .i64 z).wf = true) : -9223372036854775808 ≤ z ∧ z ≤ 9223372036854775807 := by
  have := bounds_i64 h
  omega

/-- The door's own heap meets the condition. -/
theorem door_met (os : Os) (args : Array Value) : laidMetH Tryd.prog Rows.fnStockEncodeDecodesBackRow.laid ((World.doorLaid Tryd.prog 24 os).forCall (fun _ _ => 0) ⟨#[], args, []⟩).memory :=
  laidMetH_of_parts3 (fuel := 8) (laidMet_of_run' 8 (by kernel_rfl) (by kernel_rfl)) (by kernel_rfl) (by kernel_rfl)

theorem gTab : (Tryd.prog.globalNamed powName).map (fun g => (Tryd.prog.globals[g]?).map (·.type)) = some (some 81) := by kernel_rfl
theorem tabDatum : (Rows.laid_internal_strconv_uint64pow10 : DataW Unit) = Lib.tabData .u64 Lib.pow10Tab := by rfl
theorem cells62 : Tryd.prog.cellsOf 62 = 1 := by kernel_rfl
theorem cells81 : Tryd.prog.cellsOf 81 = 20 := by kernel_rfl

/-- WHAT THE CONDITION GIVES THE WALK: the table of powers of ten. -/
theorem of_laid {W : World} (h : laidMetH Tryd.prog Rows.fnStockEncodeDecodesBackRow.laid W) : Lib.TabIs Tryd.prog W powName .u64 Lib.pow10Tab := by
  rw [MakeChecks.laidMetH_plain _ _ _ (by kernel_rfl)] at h
  obtain ⟨ps, ⟨g0, t0, cs0, f0, p0, q0, _, _, _, _, ⟨g1, t1, cs1, f1, p1, q1, _, _, _, _, ⟨g2, t2, cs2, f2, p2, q2, hg2, ht2, hv2, hd2, _, _⟩, _⟩, _⟩, _, _⟩ := h
  have hg : Tryd.prog.globalNamed powName = some g2 := hg2
  have ht : t2 = 81 := by
    have := gTab
    rw [hg] at this
    simp only [Option.map_some, Option.some.injEq] at this
    exact Option.some.inj (ht2.symm.trans this)
  subst ht
  show W.var? Tryd.prog powName = _
  have hv : W.var? Tryd.prog powName = some cs2 := hv2
  rw [hv, ← Lib.cells_of_tab Tryd.underlying81 Tryd.underlying62 cells62 cells81 (show DataW.trod _ Tryd.prog W _ _ _ f2 81 cs2.toList = some (Lib.tabData .u64 Lib.pow10Tab, p2) from by rw [← tabDatum]; exact hd2)]

theorem glob_lt {W : World} (h : Lib.TabIs Tryd.prog W powName .u64 Lib.pow10Tab) : ∀ g, Tryd.prog.globalNamed powName = some g → g < W.heap.size := by
  intro g hg
  unfold Lib.TabIs World.var? at h
  rw [hg, Option.bind_some] at h
  rcases Nat.lt_or_ge g W.heap.size with hl | hl
  · exact hl
  · rw [Array.getElem?_eq_none hl] at h
    cases h

set_option maxRecDepth 100000 in
theorem lifted (os : Os) (started : os.Started) (H : Type) (enc : TypeId × Value → H) :
    ReturnsInHanded {} Tryd.checked os 5 .any (fun w args => (Rows.fnStockEncodeDecodesBackSpec.pre enc Tryd.prog Tryd.f5 [] false w args ∧ laidMetH Tryd.prog Rows.fnStockEncodeDecodesBackRow.laid w) ∧ sizedMet enc Tryd.prog Tryd.f5 (OpenSpec.ofChange Rows.fnStockEncodeDecodesBackSpec) false w args)
      (Rows.fnStockEncodeDecodesBackSpec.post enc Tryd.prog Tryd.f5 false true false false) := by
  refine returnsInHanded_of_change_and (C := Tryd.checked) (X := fun w _ => laidMetH Tryd.prog Rows.fnStockEncodeDecodesBackRow.laid w) (fun _ _ _ hh h => h.of_heap hh) own started (by kernel_rfl) Tryd.func5
    (ChangeSpec.witness_shaped (enc := enc) (C := Tryd.checked) (os := os) (X := fun w _ => laidMetH Tryd.prog Rows.fnStockEncodeDecodesBackRow.laid w) false (World.doorLaid Tryd.prog 24 os) #[.agg #[.string ByteArray.empty, .string ByteArray.empty, .string ByteArray.empty, .string ByteArray.empty, .string ByteArray.empty, .string ByteArray.empty, .string ByteArray.empty, .string ByteArray.empty, .string ByteArray.empty, .string ByteArray.empty, .string ByteArray.empty], .agg #[.int .i64 0, .int .i64 0, .int .i64 0, .int .i64 0]] 8 rfl (World.shaped_of_RefB (by kernel_rfl) (by kernel_rfl)) (by kernel_rfl) (by kernel_rfl) (by kernel_rfl) (door_met os _)) ?_
  intro W base args ds gs before hval0 hW _ _ hL _
  have hval : ∀ (j : Nat) t v, Tryd.f5.params[j]? = some t → args[j]? = some v → Value.okWide Tryd.prog W .any base t v := hval0
  have hW' := hW
  obtain ⟨p, q, hA0, hV, rfl, hfz, hnd⟩ := hW
  have hA : DataW.TrodAll enc Tryd.prog W 0 (fun _ => true) true Tryd.f5.params.toList args.toList ds p := hA0
  rw [Tryd.params5] at hA hval
  obtain ⟨v0, v1, d0, d1, p0, p1, rfl, rfl, rfl, h0, h1⟩ := trodAll_two hA
  obtain ⟨rfl, rfl⟩ := trodVars_none hV
  have htab := of_laid hL
  have k0 := h0
  have lt0 : ∀ x ∈ p0, x.block < W.heap.size := by obtain ⟨m, hm⟩ := k0; exact DataW.trod_lt m _ _ _ hm
  have k1 := h1
  have lt1 : ∀ x ∈ p1, x.block < W.heap.size := by obtain ⟨m, hm⟩ := k1; exact DataW.trod_lt m _ _ _ hm
  obtain ⟨cs0, rfl, hz0⟩ := okWide_arr Tryd.underlying39 (hval 0 39 v0 rfl rfl)
  obtain ⟨cs1, rfl, hz1⟩ := okWide_arr Tryd.underlying40 (hval 1 40 v1 rfl rfl)
  obtain ⟨T, hT, rfl, hTs⟩ := cells_str Tryd.underlying39 Tryd.underlying9 (by kernel_rfl) (hz0.trans (by kernel_rfl)) h0
  obtain ⟨Z, hZ, rfl, hZs⟩ := cells_int Tryd.underlying40 Tryd.underlying2 (by kernel_rfl) (hz1.trans (by kernel_rfl)) h1
  obtain ⟨t0, t1, t2, t3, t4, t5, t6, t7, t8, t9, t10, rfl⟩ := list11 hT
  obtain ⟨n0, n1, n2, n3, rfl⟩ := list4 hZ
  have b0 := wf_bounds (hZs n0 (by simp))
  have b1 := wf_bounds (hZs n1 (by simp))
  have b2 := wf_bounds (hZs n2 (by simp))
  have b3 := wf_bounds (hZs n3 (by simp))
  clear hA0 hval0
  refine (top t0 t1 t2 t3 t4 t5 t6 t7 t8 t9 t10 n0 n1 n2 n3 b0.1 b0.2 b1.1 b1.2 b2.1 b2.2 b3.1 b3.2 (hTs t0 (by simp)) (hTs t1 (by simp)) (hTs t2 (by simp)) (hTs t3 (by simp)) (hTs t4 (by simp)) (hTs t5 (by simp)) (hTs t6 (by simp)) (hTs t7 (by simp)) (hTs t8 (by simp)) (hTs t9 (by simp)) (hTs t10 (by simp)) W htab (glob_lt htab)).mono fun e W' ⟨he, bel⟩ => ?_
  subst he
  exact ⟨_, rfl, _, _, _, [], _, [], hW', trodAll_mk1 (shut_bool Tryd.underlying4 _), (trodAll_cons_mk (Below.trod laidOut (by kernel_rfl) (of_decide_eq_true (by kernel_rfl)) k0 bel lt0) (trodAll_cons_mk (Below.trod laidOut (by kernel_rfl) (of_decide_eq_true (by kernel_rfl)) k1 bel lt1) trodAll_mk0)), rfl, bel.frame _, fun h => by cases h⟩

theorem over : Rows.FnStockEncodeDecodesBackSaid :=
  OpenClaim.holds_of_wide 5 Tryd.f5 rfl rfl rfl rfl rfl rfl rfl ⟨rfl, rfl, rfl, rfl, rfl⟩ rfl rfl rfl rfl rfl (by kernel_rfl) Tryd.func5 (by kernel_rfl)
    (of_decide_eq_true (by kernel_rfl)) (by unfold Func.isWrapper; first | (rw [if_pos (by decide +kernel)]; kernel_rfl) | (rw [if_neg (by decide +kernel)]; exact ⟨rfl, rfl⟩))
    (fun os started H enc _ => lifted os started H enc)

theorem proved : Rows.FnStockEncodeDecodesBackCardSaid :=
  Claim7.holds_tied_plain_at .later [] [.data, .data, .data] true Rows.fnStockEncodeDecodesBackCard.stood.harness false
    over (fun _ h => by cases h) (by kernel_rfl) (fun _ h => by cases h) fnStockEncodeDecodesBack_row_tie rfl ⟨rfl, rfl⟩ (by kernel_rfl) rfl
    (fun f fn hf hfn => by
      obtain rfl : f = 5 := Option.some.inj ((show Tryd.prog.funcNamed Rows.fnStockEncodeDecodesBackRow.func = some 5 by kernel_rfl).symm.trans hf) |>.symm
      obtain rfl : fn = Tryd.f5 := (Option.some.inj (Tryd.func5.symm.trans hfn)).symm
      exact ⟨by kernel_rfl, fun j t ht => by
        rw [Tryd.params5] at ht
        have hm : t ∈ [39, 40] := by simpa using Array.mem_of_getElem? ht
        have hall : ([39, 40].all fun u => !Tryd.prog.wantsStandIn u) = true := by kernel_rfl
        exact (show Tryd.prog.wantsStandIn t = false by simpa using List.all_eq_true.1 hall t hm)⟩)
    (by kernel_rfl)
end Go.Proofs.Qxb6000929aDoor.fnStockEncodeDecodesBack
