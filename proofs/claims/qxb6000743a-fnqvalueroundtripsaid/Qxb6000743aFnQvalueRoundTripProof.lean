/-
  The proof of 'Rows.FnQvalueRoundTripSaid': the cases joined, then the row's step after the guide's shell.
-/
import Derived.Test.Qxb6000743aTop
import Derived.WalkKit
import Derived.ProofKit
import Derived.OpenShut
import Derived.ShutString
import Derived.Below
namespace Go.Proofs.Qxb6000743a.fnQvalueRoundTrip
open Go.ChangeShapes Go.WideShapes Go.ChangeAt Go.RowKit
open Go.ChangeMaps (open_string shut_string)
set_option linter.unusedVariables false      -- a walk need not use every 'w<i>' (that an integer argument fits its kind)

theorem own : ownKnob Try.prog.godebug = none := by kernel_rfl

theorem u8_back (x : Int) (h0 : 0 ≤ x) (h1 : x < 256) : ((UInt8.ofNat x.toNat).toNat : Int) = x := by
  rw [UInt8.toNat_ofNat']
  omega

theorem walk (a0 : Int) (a1 : Bool) (a2 : Int) (w : World) :
    Calls Try.prog 3 #[.int .i64 a0, .bool a1, .int .i64 a2] w fun e w' => e = .returned (.bool true) ∧ Below w.heap.size w w' := by
  have same : ∀ (e : Ending) (w' : World), e = .returned (.bool true) ∧ w' = w → e = .returned (.bool true) ∧ Below w.heap.size w w' := by
    rintro e w' ⟨rfl, rfl⟩; exact ⟨rfl, Below.refl _ _⟩
  have down : ∀ (W W' : World), W' = W.drew → Below W.heap.size W W' := by
    rintro W W' rfl; exact (Below.refl _ _).drew
  by_cases hout : a0 < 0 ∨ 1000 < a0 ∨ a2 < 0 ∨ 3 < a2
  · exact (early1 a0 a2 a1 hout w).mono same
  have h0 : 0 ≤ a0 := by omega
  have h1 : a0 ≤ 1000 := by omega
  have hd : a2 = 0 ∨ a2 = 1 ∨ a2 = 2 ∨ a2 = 3 := by omega
  cases a1 with
  | false =>
    by_cases hpos : 0 < a2
    · exact (early2 a0 a2 h0 h1 hpos (by omega) w).mono same
    obtain rfl : a2 = 0 := by omega
    by_cases hm : a0 % 1000 = 0
    · have hc : a0 = 0 ∨ a0 = 1000 := by omega
      rcases hc with rfl | rfl
      · exact coreF 0 1000 ⟨#[48]⟩ (by omega) (by omega) pow3 (by omega) (by decide) (render0 0 (by omega) (by omega) 0) (fun w => (parse48 w).mono (by rintro e w' ⟨rfl, rfl⟩; exact ⟨rfl, Below.refl _ _⟩)) w
      · exact coreF 1000 1000 ⟨#[49]⟩ (by omega) (by omega) pow3 (by omega) (by decide) (render0 1000 (by omega) (by omega) 0) (fun w => (parse49 w).mono (by rintro e w' ⟨rfl, rfl⟩; exact ⟨rfl, Below.refl _ _⟩)) w
    · exact (earlyF a0 1000 h0 h1 pow3 (by omega) (by simpa using hm) w).mono same
  | true =>
    rcases hd with rfl | rfl | rfl | rfl
    · by_cases hm : a0 % 1000 = 0
      · have hc : a0 = 0 ∨ a0 = 1000 := by omega
        rcases hc with rfl | rfl
        · exact coreT 0 1000 0 (by omega) (by omega) ⟨#[48, 46]⟩ (by omega) (by omega) pow3 (by omega) (by decide) (render1 0 (by omega) (by omega)) (fun w => (parse48_0 0 rfl (by omega) w).mono fun e w' h => ⟨h.1, down _ _ h.2⟩) w
        · exact coreT 1000 1000 0 (by omega) (by omega) ⟨#[49, 46]⟩ (by omega) (by omega) pow3 (by omega) (by decide) (render1 1000 (by omega) (by omega)) (fun w => (parse49_0 1000 rfl (by omega) w).mono fun e w' h => ⟨h.1, down _ _ h.2⟩) w
      · exact (earlyT a0 1000 0 (by omega) (by omega) h0 h1 pow3 (by omega) (by simpa using hm) w).mono same
    · by_cases hm : a0 % 100 = 0
      · by_cases hk : a0 = 1000
        · subst hk
          exact coreT 1000 100 1 (by omega) (by omega) ⟨#[49, 46, 48]⟩ (by omega) (by omega) pow2 (by omega) (by decide) (render2 1000 (by omega) (by omega)) (fun w => (parse49_1 48 (by decide) (by decide) 1000 rfl (by omega) w).mono fun e w' h => ⟨h.1, down _ _ h.2⟩) w
        · have e0 : 48 + a0 / 1000 = 48 := by omega
          have b1 := u8_back (48 + a0 % 1000 / 100 % 10) (by omega) (by omega)
          have hr := render2 a0 h0 h1
          rw [e0] at hr
          exact coreT a0 100 1 (by omega) (by omega) ⟨#[48, 46, UInt8.ofNat (48 + a0 % 1000 / 100 % 10).toNat]⟩ h0 h1 pow2 (by omega) (by simpa using hm) hr (fun w => (parse48_1 (UInt8.ofNat (48 + a0 % 1000 / 100 % 10).toNat) (by rw [b1]; omega) (by rw [b1]; omega) a0 (by rw [b1]; omega) h1 w).mono fun e w' h => ⟨h.1, down _ _ h.2⟩) w
      · exact (earlyT a0 100 1 (by omega) (by omega) h0 h1 pow2 (by omega) (by simpa using hm) w).mono same
    · by_cases hm : a0 % 10 = 0
      · by_cases hk : a0 = 1000
        · subst hk
          exact coreT 1000 10 2 (by omega) (by omega) ⟨#[49, 46, 48, 48]⟩ (by omega) (by omega) pow1 (by omega) (by decide) (render3 1000 (by omega) (by omega)) (fun w => (parse49_2 48 48 (by decide) (by decide) (by decide) (by decide) 1000 rfl (by omega) w).mono fun e w' h => ⟨h.1, down _ _ h.2⟩) w
        · have e0 : 48 + a0 / 1000 = 48 := by omega
          have b1 := u8_back (48 + a0 % 1000 / 100 % 10) (by omega) (by omega)
          have b2 := u8_back (48 + a0 % 1000 / 10 % 10) (by omega) (by omega)
          have hr := render3 a0 h0 h1
          rw [e0] at hr
          exact coreT a0 10 2 (by omega) (by omega) ⟨#[48, 46, UInt8.ofNat (48 + a0 % 1000 / 100 % 10).toNat, UInt8.ofNat (48 + a0 % 1000 / 10 % 10).toNat]⟩ h0 h1 pow1 (by omega) (by simpa using hm) hr
            (fun w => (parse48_2 (UInt8.ofNat (48 + a0 % 1000 / 100 % 10).toNat) (UInt8.ofNat (48 + a0 % 1000 / 10 % 10).toNat) (by rw [b1]; omega) (by rw [b1]; omega) (by rw [b2]; omega) (by rw [b2]; omega) a0 (by rw [b1, b2]; omega) h1 w).mono fun e w' h => ⟨h.1, down _ _ h.2⟩) w
      · exact (earlyT a0 10 2 (by omega) (by omega) h0 h1 pow1 (by omega) (by simpa using hm) w).mono same
    · by_cases hk : a0 = 1000
      · subst hk
        exact coreT 1000 1 3 (by omega) (by omega) ⟨#[49, 46, 48, 48, 48]⟩ (by omega) (by omega) pow0 (by omega) (by decide) (render4 1000 (by omega) (by omega)) (fun w => (parse49_3 48 48 48 (by decide) (by decide) (by decide) (by decide) (by decide) (by decide) 1000 rfl (by omega) w).mono fun e w' h => ⟨h.1, down _ _ h.2⟩) w
      · have e0 : 48 + a0 / 1000 = 48 := by omega
        have b1 := u8_back (48 + a0 % 1000 / 100 % 10) (by omega) (by omega)
        have b2 := u8_back (48 + a0 % 1000 / 10 % 10) (by omega) (by omega)
        have b3 := u8_back (48 + a0 % 10) (by omega) (by omega)
        have hr := render4 a0 h0 h1
        rw [e0] at hr
        exact coreT a0 1 3 (by omega) (by omega) ⟨#[48, 46, UInt8.ofNat (48 + a0 % 1000 / 100 % 10).toNat, UInt8.ofNat (48 + a0 % 1000 / 10 % 10).toNat, UInt8.ofNat (48 + a0 % 10).toNat]⟩ h0 h1 pow0 (by omega) (by simp) hr
          (fun w => (parse48_3 (UInt8.ofNat (48 + a0 % 1000 / 100 % 10).toNat) (UInt8.ofNat (48 + a0 % 1000 / 10 % 10).toNat) (UInt8.ofNat (48 + a0 % 10).toNat) (by rw [b1]; omega) (by rw [b1]; omega) (by rw [b2]; omega) (by rw [b2]; omega) (by rw [b3]; omega) (by rw [b3]; omega) a0 (by rw [b1, b2, b3]; omega) h1 w).mono fun e w' h => ⟨h.1, down _ _ h.2⟩) w

/-! ### THE ROW's STEP: WRITTEN OUT: LEAVE IT -/
set_option maxRecDepth 100000 in
theorem lifted (os : Os) (started : os.Started) (H : Type) (enc : TypeId × Value → H) :
    ReturnsInHanded {} Try.checked os 3 .any (Rows.fnQvalueRoundTripSpec.pre6 enc Try.prog Try.f3 Rows.fnQvalueRoundTripRow.domain false) (Rows.fnQvalueRoundTripSpec.post enc Try.prog Try.f3 false true false false) := by
  refine returnsInHanded_of_change (C := Try.checked) own started (by kernel_rfl) Try.func3
    (ChangeSpec.witness6 (enc := enc) (C := Try.checked) false ⟨#[], #[.int .i64 0, .bool false, .int .i64 0], []⟩ 8 (by kernel_rfl) (by kernel_rfl) (by kernel_rfl) (by kernel_rfl)) ?_
  intro W base args ds gs before hval0 hW hcnd _
  have hval : ∀ (j : Nat) t v, Try.f3.params[j]? = some t → args[j]? = some v → Value.okWide Try.prog W .any base t v := hval0
  have hW' := hW
  obtain ⟨p, q, hA0, hV, rfl, hfz, hnd⟩ := hW
  have hA : DataW.TrodAll enc Try.prog W 0 (fun _ => true) true Try.f3.params.toList args.toList ds p := hA0
  rw [Try.params3] at hA hval
  obtain ⟨v0, vs0, d0, ds0, p0, q0, hargs, rfl, rfl, h0, r0⟩ := trodAll_cons hA
  obtain ⟨v1, vs1, d1, ds1, p1, q1, rfl, rfl, rfl, h1, r1⟩ := trodAll_cons r0
  obtain ⟨v2, vs2, d2, ds2, p2, q2, rfl, rfl, rfl, h2, r2⟩ := trodAll_cons r1
  obtain ⟨rfl, rfl, rfl⟩ := trodAll_nil r2
  obtain rfl : args = #[v0, v1, v2] := by cases args; simp_all
  obtain ⟨rfl, rfl⟩ := trodVars_none hV
  obtain ⟨a0, rfl, rfl, rfl, w0⟩ := open_int Try.underlying3 (hval 0 3 v0 rfl rfl) h0
  obtain ⟨a1, rfl, rfl, rfl⟩ := open_bool Try.underlying4 (hval 1 4 v1 rfl rfl) h1
  obtain ⟨a2, rfl, rfl, rfl, w2⟩ := open_int Try.underlying3 (hval 2 3 v2 rfl rfl) h2
  clear hA0 hval0
  simp only [List.append_nil] at hW'
  refine (walk a0 a1 a2 W).mono fun e W' ⟨he, bel⟩ => ?_
  subst he
  exact ⟨_, rfl, _, _, _, [], [], [], hW', trodAll_mk1 (shut_bool Try.underlying4 _), (trodAll_cons_mk (shut_int Try.underlying3 w0) (trodAll_cons_mk (shut_bool Try.underlying4 _) (trodAll_cons_mk (shut_int Try.underlying3 w2) trodAll_mk0))), rfl, bel.frame _, fun h => by cases h⟩

theorem over : Rows.fnQvalueRoundTripRow.holds Try.pinned (OpenSpec.ofChange Rows.fnQvalueRoundTripSpec) :=
  OpenClaim.holds_of_wide 3 Try.f3 rfl rfl rfl rfl rfl rfl rfl ⟨rfl, rfl, rfl, rfl, rfl⟩ rfl rfl rfl rfl rfl (by kernel_rfl) Try.func3 (by kernel_rfl)
    (of_decide_eq_true (by kernel_rfl)) (by unfold Func.isWrapper; first | (rw [if_pos (by decide +kernel)]; kernel_rfl) | (rw [if_neg (by decide +kernel)]; exact ⟨rfl, rfl⟩))
    (fun os started H enc _ => lifted os started H enc)

/-- ████ THE STATEMENT ████ -/
theorem proved : Rows.FnQvalueRoundTripSaid :=
  over
end Go.Proofs.Qxb6000743a.fnQvalueRoundTrip
