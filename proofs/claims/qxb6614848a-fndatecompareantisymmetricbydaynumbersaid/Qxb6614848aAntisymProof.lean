/-
  A proof of 'Rows.FnDateCompareAntisymmetricByDayNumberSaid'. The frame after the guide's template; the walk is ours.
-/
import Derived.Test.Qxb6614848aCal
import Derived.ShutString
namespace Go.Proofs.Qxb6614848a.fnDateCompareAntisymmetricByDayNumber
open Go.ChangeShapes Go.WideShapes Go.ChangeAt Go.RowKit
open Go.ChangeMaps (open_string shut_string)
set_option linter.unusedVariables false      -- a walk need not use every 'w<i>' (that an integer argument fits its kind)

theorem own : ownKnob Try.prog.godebug = none := by kernel_rfl

/-! ### The walk: the Go text returns true and turns nothing that was there. -/
theorem walk (a0 : Int) (a1 : Int) (a2 : Int) (a3 : Int) (a4 : Int) (a5 : Int) (w0 : (Lit.int .i64 a0).wf = true) (w1 : (Lit.int .i64 a1).wf = true) (w2 : (Lit.int .i64 a2).wf = true) (w3 : (Lit.int .i64 a3).wf = true) (w4 : (Lit.int .i64 a4).wf = true) (w5 : (Lit.int .i64 a5).wf = true) (w : World) :
    Calls Try.prog 3 #[.int .i64 a0, .int .i64 a1, .int .i64 a2, .int .i64 a3, .int .i64 a4, .int .i64 a5] w fun e w' => e = .returned (.bool true) ∧ Below w.heap.size w w' := by
  go_enter Try.func3, Try.ntmps3
  go_wp2_with fail
  refine (cal_any a0 a1 a2 _).mono ?_
  rintro e w' ⟨b1, rfl, hb1, rfl⟩
  cases b1
  · clear hb1
    go_wp2
    go_ret
    exact ⟨rfl, Below.refl _ _⟩
  have D1 := hb1 rfl
  clear hb1
  go_wp2_with fail
  refine (cal_any a3 a4 a5 _).mono ?_
  rintro e w' ⟨b2, rfl, hb2, rfl⟩
  cases b2
  · clear hb2
    go_wp2
    go_ret
    exact ⟨rfl, Below.refl _ _⟩
  have D2 := hb2 rfl
  clear hb2
  go_wp2_with (go_at_call 6; refine (newDate_any _ _ _ _).mono ?_; rintro e w' ⟨rfl, rfl⟩)
  refine (dayNo_any a0 a1 a2 D1 _).mono ?_
  rintro e w1 ⟨rfl, rfl⟩
  go_wp2_with fail
  refine (dayNo_any a3 a4 a5 D2 _).mono ?_
  rintro e w1 ⟨rfl, rfl⟩
  obtain ⟨hn1, hn2⟩ := D1.no
  obtain ⟨hn3, hn4⟩ := D2.no
  go_wp2_with fail
  obtain ⟨s, hs⟩ : ∃ s, sgn (dayNo a0 a1 a2 - dayNo a3 a4 a5) 0 = s := ⟨_, rfl⟩
  have S1 : Hid (sgn (dayNo a0 a1 a2 - dayNo a3 a4 a5) 0 = s) := hs
  have S2 : Hid (sgn (dayNo a3 a4 a5 - dayNo a0 a1 a2) 0 = -s) := by unfold Hid; rw [sgn_neg, hs]
  have hs1 : -1 ≤ s ∧ s ≤ 1 := by rw [← hs]; exact sgn_bd _ _
  obtain ⟨hs1, hs2⟩ := hs1
  refine (sign_is _ s _ hs).mono ?_
  rintro e w1 ⟨rfl, rfl⟩
  clear hs hn1 hn2 hn3 hn4
  go_wp2_with fail
  refine (compare_day _ _ _ _ _ _ s D1 D2 _ S1.out).mono ?_
  rintro e w1 ⟨rfl, hb1⟩
  obtain ⟨hc1, hf1⟩ := bcell hb1
  go_wp2_with fail
  have hz1 : w'.heap.size + 1 + 1 + 1 < w1.heap.size := by have := hb1.size; simp at this; omega
  refine (compare_day _ _ _ _ _ _ (-s) D2 D1 _ S2.out).mono ?_
  rintro e w2 ⟨rfl, hb2⟩
  obtain ⟨hc2, hf2⟩ := bcell hb2
  have l0 : w2.cell? ⟨w'.heap.size + 1, 0, none⟩ = some (.int .i64 a0) := by rw [hc2 _ _ (by omega), hc1 _ _ (by simp)]; simp [go_sem]
  have l1 : w2.cell? ⟨w'.heap.size + 1, 1, none⟩ = some (.int .i64 a1) := by rw [hc2 _ _ (by omega), hc1 _ _ (by simp)]; simp [go_sem]
  have l2 : w2.cell? ⟨w'.heap.size + 1, 2, none⟩ = some (.int .i64 a2) := by rw [hc2 _ _ (by omega), hc1 _ _ (by simp)]; simp [go_sem]
  clear hc1 hc2 hf1 hf2
  go_wp2_with fail
  refine (compare_day _ _ _ _ _ _ 0 D1 D1 _ (sgn_self _)).mono ?_
  rintro e w3 ⟨rfl, hb3⟩
  go_wp2_with fail
  go_ret
  refine ⟨rfl, ?_⟩
  have B0 : Below w'.heap.size w' ((((w'.alloc (.cells #[.int .i64 a0, .int .i64 a1, .int .i64 a2] 25)).alloc (.cells #[.int .i64 a0, .int .i64 a1, .int .i64 a2] 25)).alloc (.cells #[.int .i64 a3, .int .i64 a4, .int .i64 a5] 25)).alloc (.cells #[.int .i64 a3, .int .i64 a4, .int .i64 a5] 25)) :=
    ((((Below.refl _ _).alloc (by simp) _).alloc (by simp) _).alloc (by simp; omega) _).alloc (by simp; omega) _
  exact ((B0.trans (hb1.mono (by simp; omega))).trans (hb2.mono (by omega))).trans (hb3.mono (by have := hb2.size; omega))

/-! ### THE ROW's STEP: WRITTEN OUT: LEAVE IT -/
set_option maxRecDepth 100000 in
theorem lifted (os : Os) (started : os.Started) (H : Type) (enc : TypeId × Value → H) :
    ReturnsInHanded {} Try.checked os 3 .any (Rows.fnDateCompareAntisymmetricByDayNumberSpec.pre6 enc Try.prog Try.f3 Rows.fnDateCompareAntisymmetricByDayNumberRow.domain false) (Rows.fnDateCompareAntisymmetricByDayNumberSpec.post enc Try.prog Try.f3 false true false false) := by
  refine returnsInHanded_of_change (C := Try.checked) own started (by kernel_rfl) Try.func3
    (ChangeSpec.witness6 (enc := enc) (C := Try.checked) false ⟨#[], #[.int .i64 0, .int .i64 0, .int .i64 0, .int .i64 0, .int .i64 0, .int .i64 0], []⟩ 8 (by kernel_rfl) (by kernel_rfl) (by kernel_rfl) (by kernel_rfl)) ?_
  intro W base args ds gs before hval0 hW hcnd _
  have hval : ∀ (j : Nat) t v, Try.f3.params[j]? = some t → args[j]? = some v → Value.okWide Try.prog W .any base t v := hval0
  have hW' := hW
  obtain ⟨p, q, hA0, hV, rfl, hfz, hnd⟩ := hW
  have hA : DataW.TrodAll enc Try.prog W 0 (fun _ => true) true Try.f3.params.toList args.toList ds p := hA0
  rw [Try.params3] at hA hval
  obtain ⟨v0, vs0, d0, ds0, p0, q0, hargs, rfl, rfl, h0, r0⟩ := trodAll_cons hA
  obtain ⟨v1, vs1, d1, ds1, p1, q1, rfl, rfl, rfl, h1, r1⟩ := trodAll_cons r0
  obtain ⟨v2, vs2, d2, ds2, p2, q2, rfl, rfl, rfl, h2, r2⟩ := trodAll_cons r1
  obtain ⟨v3, vs3, d3, ds3, p3, q3, rfl, rfl, rfl, h3, r3⟩ := trodAll_cons r2
  obtain ⟨v4, vs4, d4, ds4, p4, q4, rfl, rfl, rfl, h4, r4⟩ := trodAll_cons r3
  obtain ⟨v5, vs5, d5, ds5, p5, q5, rfl, rfl, rfl, h5, r5⟩ := trodAll_cons r4
  obtain ⟨rfl, rfl, rfl⟩ := trodAll_nil r5
  obtain rfl : args = #[v0, v1, v2, v3, v4, v5] := by cases args; simp_all
  obtain ⟨rfl, rfl⟩ := trodVars_none hV
  obtain ⟨a0, rfl, rfl, rfl, w0⟩ := open_int Try.underlying3 (hval 0 3 v0 rfl rfl) h0
  obtain ⟨a1, rfl, rfl, rfl, w1⟩ := open_int Try.underlying3 (hval 1 3 v1 rfl rfl) h1
  obtain ⟨a2, rfl, rfl, rfl, w2⟩ := open_int Try.underlying3 (hval 2 3 v2 rfl rfl) h2
  obtain ⟨a3, rfl, rfl, rfl, w3⟩ := open_int Try.underlying3 (hval 3 3 v3 rfl rfl) h3
  obtain ⟨a4, rfl, rfl, rfl, w4⟩ := open_int Try.underlying3 (hval 4 3 v4 rfl rfl) h4
  obtain ⟨a5, rfl, rfl, rfl, w5⟩ := open_int Try.underlying3 (hval 5 3 v5 rfl rfl) h5
  clear hA0 hval0
  refine (walk a0 a1 a2 a3 a4 a5 w0 w1 w2 w3 w4 w5 W).mono fun e W' ⟨he, bel⟩ => ?_
  subst he
  exact ⟨_, rfl, _, _, _, [], _, [], hW', trodAll_mk1 (shut_bool Try.underlying4 _), (trodAll_cons_mk (shut_int Try.underlying3 w0) (trodAll_cons_mk (shut_int Try.underlying3 w1) (trodAll_cons_mk (shut_int Try.underlying3 w2) (trodAll_cons_mk (shut_int Try.underlying3 w3) (trodAll_cons_mk (shut_int Try.underlying3 w4) (trodAll_cons_mk (shut_int Try.underlying3 w5) trodAll_mk0)))))), rfl, bel.frame _, fun h => by cases h⟩

theorem over : Rows.fnDateCompareAntisymmetricByDayNumberRow.holds Try.pinned (OpenSpec.ofChange Rows.fnDateCompareAntisymmetricByDayNumberSpec) :=
  OpenClaim.holds_of_wide 3 Try.f3 rfl rfl rfl rfl rfl rfl rfl ⟨rfl, rfl, rfl, rfl, rfl⟩ rfl rfl rfl rfl rfl (by kernel_rfl) Try.func3 (by kernel_rfl)
    (of_decide_eq_true (by kernel_rfl)) (by unfold Func.isWrapper; first | (rw [if_pos (by decide +kernel)]; kernel_rfl) | (rw [if_neg (by decide +kernel)]; exact ⟨rfl, rfl⟩))
    (fun os started H enc _ => lifted os started H enc)

/-- ████ THE STATEMENT ████ -/
theorem proved : Rows.FnDateCompareAntisymmetricByDayNumberSaid :=
  over
end Go.Proofs.Qxb6614848a.fnDateCompareAntisymmetricByDayNumber
