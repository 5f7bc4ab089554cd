/-
  A proof of 'Rows.FnDateCompareTransitiveByDayNumberSaid'. The frame after the guide's template; the walk is ours.
-/
import Derived.Test.Qxb6614848aCal
import Derived.ShutString
namespace Go.Proofs.Qxb6614848a.fnDateCompareTransitiveByDayNumber
open Go.ChangeShapes Go.WideShapes Go.ChangeAt Go.RowKit
open Go.ChangeMaps (open_string shut_string)
set_option linter.unusedVariables false      -- a walk need not use every 'w<i>' (that an integer argument fits its kind)

theorem own : ownKnob Try.prog.godebug = none := by kernel_rfl

/-! ### The walk: the Go text returns true and turns nothing that was there. -/
set_option maxHeartbeats 1000000 in
theorem walk (a0 : Int) (a1 : Int) (a2 : Int) (a3 : Int) (a4 : Int) (a5 : Int) (a6 : Int) (a7 : Int) (a8 : Int) (w0 : (Lit.int .i64 a0).wf = true) (w1 : (Lit.int .i64 a1).wf = true) (w2 : (Lit.int .i64 a2).wf = true) (w3 : (Lit.int .i64 a3).wf = true) (w4 : (Lit.int .i64 a4).wf = true) (w5 : (Lit.int .i64 a5).wf = true) (w6 : (Lit.int .i64 a6).wf = true) (w7 : (Lit.int .i64 a7).wf = true) (w8 : (Lit.int .i64 a8).wf = true) (w : World) :
    Calls Try.prog 4 #[.int .i64 a0, .int .i64 a1, .int .i64 a2, .int .i64 a3, .int .i64 a4, .int .i64 a5, .int .i64 a6, .int .i64 a7, .int .i64 a8] w fun e w' => e = .returned (.bool true) ∧ Below w.heap.size w w' := by
  go_enter Try.func4, Try.ntmps4
  go_wp2_with fail
  refine (cal_any a0 a1 a2 _).mono ?_
  rintro e w' ⟨b1, rfl, hb1, rfl⟩
  cases b1
  · clear hb1
    go_wp2
    go_ret
    exact ⟨rfl, Below.refl _ _⟩
  have D1 := hb1 rfl
  clear hb1
  go_wp2_with fail
  refine (cal_any a3 a4 a5 _).mono ?_
  rintro e w' ⟨b2, rfl, hb2, rfl⟩
  cases b2
  · clear hb2
    go_wp2
    go_ret
    exact ⟨rfl, Below.refl _ _⟩
  have D2 := hb2 rfl
  clear hb2
  go_wp2_with fail
  refine (cal_any a6 a7 a8 _).mono ?_
  rintro e w' ⟨b3, rfl, hb3, rfl⟩
  cases b3
  · clear hb3
    go_wp2
    go_ret
    exact ⟨rfl, Below.refl _ _⟩
  have D3 := hb3 rfl
  clear hb3
  obtain ⟨x12, hx12⟩ : ∃ s, sgn (dayNo a0 a1 a2 - dayNo a3 a4 a5) 0 = s := ⟨_, rfl⟩
  obtain ⟨x23, hx23⟩ : ∃ s, sgn (dayNo a3 a4 a5 - dayNo a6 a7 a8) 0 = s := ⟨_, rfl⟩
  obtain ⟨x13, hx13⟩ : ∃ s, sgn (dayNo a0 a1 a2 - dayNo a6 a7 a8) 0 = s := ⟨_, rfl⟩
  obtain ⟨t1, t2⟩ := sgn_trans _ _ _ _ _ _ hx12 hx23 hx13
  have S12 : Hid (sgn (dayNo a0 a1 a2 - dayNo a3 a4 a5) 0 = x12) := hx12
  have S23 : Hid (sgn (dayNo a3 a4 a5 - dayNo a6 a7 a8) 0 = x23) := hx23
  have S13 : Hid (sgn (dayNo a0 a1 a2 - dayNo a6 a7 a8) 0 = x13) := hx13
  have T1 : Hid (x12 ≤ 0 → x23 ≤ 0 → x13 ≤ 0) := t1
  have T2 : Hid (0 ≤ x12 → 0 ≤ x23 → 0 ≤ x13) := t2
  clear hx12 hx23 hx13 t1 t2
  go_wp2_with (go_at_call 6; refine (newDate_any _ _ _ _).mono ?_; rintro e w' ⟨rfl, rfl⟩)
  refine (compare_day _ _ _ _ _ _ x12 D1 D2 _ S12.out).mono ?_
  rintro e u1 ⟨rfl, hb1⟩
  have hz1 : w'.heap.size + 1 + 1 + 1 + 1 + 1 < u1.heap.size := by have := hb1.size; simp at this; omega
  obtain ⟨hc1, hf1⟩ := bcell hb1
  have l30 : u1.cell? ⟨w'.heap.size + 1 + 1 + 1, 0, none⟩ = some (.int .i64 a3) := by rw [hc1 _ _ (by simp; try omega)]; simp [go_sem]
  have l31 : u1.cell? ⟨w'.heap.size + 1 + 1 + 1, 1, none⟩ = some (.int .i64 a4) := by rw [hc1 _ _ (by simp; try omega)]; simp [go_sem]
  have l32 : u1.cell? ⟨w'.heap.size + 1 + 1 + 1, 2, none⟩ = some (.int .i64 a5) := by rw [hc1 _ _ (by simp; try omega)]; simp [go_sem]
  have l50 : u1.cell? ⟨w'.heap.size + 1 + 1 + 1 + 1 + 1, 0, none⟩ = some (.int .i64 a6) := by rw [hc1 _ _ (by simp; try omega)]; simp [go_sem]
  have l51 : u1.cell? ⟨w'.heap.size + 1 + 1 + 1 + 1 + 1, 1, none⟩ = some (.int .i64 a7) := by rw [hc1 _ _ (by simp; try omega)]; simp [go_sem]
  have l52 : u1.cell? ⟨w'.heap.size + 1 + 1 + 1 + 1 + 1, 2, none⟩ = some (.int .i64 a8) := by rw [hc1 _ _ (by simp; try omega)]; simp [go_sem]
  have l10 : u1.cell? ⟨w'.heap.size + 1, 0, none⟩ = some (.int .i64 a0) := by rw [hc1 _ _ (by simp; try omega)]; simp [go_sem]
  have l11 : u1.cell? ⟨w'.heap.size + 1, 1, none⟩ = some (.int .i64 a1) := by rw [hc1 _ _ (by simp; try omega)]; simp [go_sem]
  have l12 : u1.cell? ⟨w'.heap.size + 1, 2, none⟩ = some (.int .i64 a2) := by rw [hc1 _ _ (by simp; try omega)]; simp [go_sem]
  clear hc1 hf1
  go_wp2_with fail
  refine (compare_day _ _ _ _ _ _ x23 D2 D3 _ S23.out).mono ?_
  rintro e u2 ⟨rfl, hb2⟩
  obtain ⟨hc2, hf2⟩ := bcell hb2
  have m10 : u2.cell? ⟨w'.heap.size + 1, 0, none⟩ = some (.int .i64 a0) := (hc2 _ _ (by omega)).trans l10
  have m11 : u2.cell? ⟨w'.heap.size + 1, 1, none⟩ = some (.int .i64 a1) := (hc2 _ _ (by omega)).trans l11
  have m12 : u2.cell? ⟨w'.heap.size + 1, 2, none⟩ = some (.int .i64 a2) := (hc2 _ _ (by omega)).trans l12
  have m50 : u2.cell? ⟨w'.heap.size + 1 + 1 + 1 + 1 + 1, 0, none⟩ = some (.int .i64 a6) := (hc2 _ _ (by omega)).trans l50
  have m51 : u2.cell? ⟨w'.heap.size + 1 + 1 + 1 + 1 + 1, 1, none⟩ = some (.int .i64 a7) := (hc2 _ _ (by omega)).trans l51
  have m52 : u2.cell? ⟨w'.heap.size + 1 + 1 + 1 + 1 + 1, 2, none⟩ = some (.int .i64 a8) := (hc2 _ _ (by omega)).trans l52
  clear hc2 hf2 l30 l31 l32 l50 l51 l52 l10 l11 l12
  go_wp2_with fail
  refine (compare_day _ _ _ _ _ _ x13 D1 D3 _ S13.out).mono ?_
  rintro e u3 ⟨rfl, hb3⟩
  have hB : Below w'.heap.size w' u3 := by
    have B0 := ((((((Below.refl w'.heap.size w').alloc (by simp) (.cells #[.int .i64 a0, .int .i64 a1, .int .i64 a2] 25)).alloc (by simp) (.cells #[.int .i64 a0, .int .i64 a1, .int .i64 a2] 25)).alloc (by simp; omega) (.cells #[.int .i64 a3, .int .i64 a4, .int .i64 a5] 25)).alloc (by simp; omega) (.cells #[.int .i64 a3, .int .i64 a4, .int .i64 a5] 25)).alloc (by simp; omega) (.cells #[.int .i64 a6, .int .i64 a7, .int .i64 a8] 25)).alloc (by simp; omega) (.cells #[.int .i64 a6, .int .i64 a7, .int .i64 a8] 25)
    exact ((B0.trans (hb1.mono (by simp; omega))).trans (hb2.mono (by omega))).trans (hb3.mono (by have := hb2.size; omega))
  clear hb1 hb2 hb3 hz1 m10 m11 m12 m50 m51 m52
  obtain ⟨hn1, hn2⟩ := D1.no
  obtain ⟨hn3, hn4⟩ := D2.no
  obtain ⟨hn5, hn6⟩ := D3.no
  go_wp2_with fail
  refine (dayNo_any a0 a1 a2 D1 _).mono ?_
  rintro e wx ⟨rfl, rfl⟩
  go_wp2_with fail
  refine (dayNo_any a3 a4 a5 D2 _).mono ?_
  rintro e wx ⟨rfl, rfl⟩
  go_wp2_with fail
  refine (sign_is _ x12 _ S12.out).mono ?_
  rintro e wx ⟨rfl, rfl⟩
  go_wp2_with fail
  refine (dayNo_any a3 a4 a5 D2 _).mono ?_
  rintro e wx ⟨rfl, rfl⟩
  go_wp2_with fail
  refine (dayNo_any a6 a7 a8 D3 _).mono ?_
  rintro e wx ⟨rfl, rfl⟩
  go_wp2_with fail
  refine (sign_is _ x23 _ S23.out).mono ?_
  rintro e wx ⟨rfl, rfl⟩
  go_wp2_with fail
  refine (dayNo_any a0 a1 a2 D1 _).mono ?_
  rintro e wx ⟨rfl, rfl⟩
  go_wp2_with fail
  refine (dayNo_any a6 a7 a8 D3 _).mono ?_
  rintro e wx ⟨rfl, rfl⟩
  go_wp2_with fail
  refine (sign_is _ x13 _ S13.out).mono ?_
  rintro e wx ⟨rfl, rfl⟩
  clear hn1 hn2 hn3 hn4 hn5 hn6
  rcases (show x12 < 0 ∨ (x12 ≤ 0 ∧ 0 ≤ x12) ∨ 0 < x12 from by omega) with p1 | ⟨p1, p1'⟩ | p1
  all_goals rcases (show x23 < 0 ∨ (x23 ≤ 0 ∧ 0 ≤ x23) ∨ 0 < x23 from by omega) with p2 | ⟨p2, p2'⟩ | p2
  all_goals try (have p3 : x13 ≤ 0 := T1.out (by omega) (by omega))
  all_goals try (have p4 : 0 ≤ x13 := T2.out (by omega) (by omega))
  all_goals go_wp2
  all_goals go_ret
  all_goals exact ⟨rfl, hB⟩

/-! ### THE ROW's STEP: WRITTEN OUT: LEAVE IT -/
set_option maxRecDepth 100000 in
theorem lifted (os : Os) (started : os.Started) (H : Type) (enc : TypeId × Value → H) :
    ReturnsInHanded {} Try.checked os 4 .any (Rows.fnDateCompareTransitiveByDayNumberSpec.pre6 enc Try.prog Try.f4 Rows.fnDateCompareTransitiveByDayNumberRow.domain false) (Rows.fnDateCompareTransitiveByDayNumberSpec.post enc Try.prog Try.f4 false true false false) := by
  refine returnsInHanded_of_change (C := Try.checked) own started (by kernel_rfl) Try.func4
    (ChangeSpec.witness6 (enc := enc) (C := Try.checked) false ⟨#[], #[.int .i64 0, .int .i64 0, .int .i64 0, .int .i64 0, .int .i64 0, .int .i64 0, .int .i64 0, .int .i64 0, .int .i64 0], []⟩ 8 (by kernel_rfl) (by kernel_rfl) (by kernel_rfl) (by kernel_rfl)) ?_
  intro W base args ds gs before hval0 hW hcnd _
  have hval : ∀ (j : Nat) t v, Try.f4.params[j]? = some t → args[j]? = some v → Value.okWide Try.prog W .any base t v := hval0
  have hW' := hW
  obtain ⟨p, q, hA0, hV, rfl, hfz, hnd⟩ := hW
  have hA : DataW.TrodAll enc Try.prog W 0 (fun _ => true) true Try.f4.params.toList args.toList ds p := hA0
  rw [Try.params4] at hA hval
  obtain ⟨v0, vs0, d0, ds0, p0, q0, hargs, rfl, rfl, h0, r0⟩ := trodAll_cons hA
  obtain ⟨v1, vs1, d1, ds1, p1, q1, rfl, rfl, rfl, h1, r1⟩ := trodAll_cons r0
  obtain ⟨v2, vs2, d2, ds2, p2, q2, rfl, rfl, rfl, h2, r2⟩ := trodAll_cons r1
  obtain ⟨v3, vs3, d3, ds3, p3, q3, rfl, rfl, rfl, h3, r3⟩ := trodAll_cons r2
  obtain ⟨v4, vs4, d4, ds4, p4, q4, rfl, rfl, rfl, h4, r4⟩ := trodAll_cons r3
  obtain ⟨v5, vs5, d5, ds5, p5, q5, rfl, rfl, rfl, h5, r5⟩ := trodAll_cons r4
  obtain ⟨v6, vs6, d6, ds6, p6, q6, rfl, rfl, rfl, h6, r6⟩ := trodAll_cons r5
  obtain ⟨v7, vs7, d7, ds7, p7, q7, rfl, rfl, rfl, h7, r7⟩ := trodAll_cons r6
  obtain ⟨v8, vs8, d8, ds8, p8, q8, rfl, rfl, rfl, h8, r8⟩ := trodAll_cons r7
  obtain ⟨rfl, rfl, rfl⟩ := trodAll_nil r8
  obtain rfl : args = #[v0, v1, v2, v3, v4, v5, v6, v7, v8] := by cases args; simp_all
  obtain ⟨rfl, rfl⟩ := trodVars_none hV
  obtain ⟨a0, rfl, rfl, rfl, w0⟩ := open_int Try.underlying3 (hval 0 3 v0 rfl rfl) h0
  obtain ⟨a1, rfl, rfl, rfl, w1⟩ := open_int Try.underlying3 (hval 1 3 v1 rfl rfl) h1
  obtain ⟨a2, rfl, rfl, rfl, w2⟩ := open_int Try.underlying3 (hval 2 3 v2 rfl rfl) h2
  obtain ⟨a3, rfl, rfl, rfl, w3⟩ := open_int Try.underlying3 (hval 3 3 v3 rfl rfl) h3
  obtain ⟨a4, rfl, rfl, rfl, w4⟩ := open_int Try.underlying3 (hval 4 3 v4 rfl rfl) h4
  obtain ⟨a5, rfl, rfl, rfl, w5⟩ := open_int Try.underlying3 (hval 5 3 v5 rfl rfl) h5
  obtain ⟨a6, rfl, rfl, rfl, w6⟩ := open_int Try.underlying3 (hval 6 3 v6 rfl rfl) h6
  obtain ⟨a7, rfl, rfl, rfl, w7⟩ := open_int Try.underlying3 (hval 7 3 v7 rfl rfl) h7
  obtain ⟨a8, rfl, rfl, rfl, w8⟩ := open_int Try.underlying3 (hval 8 3 v8 rfl rfl) h8
  clear hA0 hval0
  refine (walk a0 a1 a2 a3 a4 a5 a6 a7 a8 w0 w1 w2 w3 w4 w5 w6 w7 w8 W).mono fun e W' ⟨he, bel⟩ => ?_
  subst he
  exact ⟨_, rfl, _, _, _, [], _, [], hW', trodAll_mk1 (shut_bool Try.underlying4 _), (trodAll_cons_mk (shut_int Try.underlying3 w0) (trodAll_cons_mk (shut_int Try.underlying3 w1) (trodAll_cons_mk (shut_int Try.underlying3 w2) (trodAll_cons_mk (shut_int Try.underlying3 w3) (trodAll_cons_mk (shut_int Try.underlying3 w4) (trodAll_cons_mk (shut_int Try.underlying3 w5) (trodAll_cons_mk (shut_int Try.underlying3 w6) (trodAll_cons_mk (shut_int Try.underlying3 w7) (trodAll_cons_mk (shut_int Try.underlying3 w8) trodAll_mk0))))))))), rfl, bel.frame _, fun h => by cases h⟩

theorem over : Rows.fnDateCompareTransitiveByDayNumberRow.holds Try.pinned (OpenSpec.ofChange Rows.fnDateCompareTransitiveByDayNumberSpec) :=
  OpenClaim.holds_of_wide 4 Try.f4 rfl rfl rfl rfl rfl rfl rfl ⟨rfl, rfl, rfl, rfl, rfl⟩ rfl rfl rfl rfl rfl (by kernel_rfl) Try.func4 (by kernel_rfl)
    (of_decide_eq_true (by kernel_rfl)) (by unfold Func.isWrapper; first | (rw [if_pos (by decide +kernel)]; kernel_rfl) | (rw [if_neg (by decide +kernel)]; exact ⟨rfl, rfl⟩))
    (fun os started H enc _ => lifted os started H enc)

/-- ████ THE STATEMENT ████ -/
theorem proved : Rows.FnDateCompareTransitiveByDayNumberSaid :=
  over
end Go.Proofs.Qxb6614848a.fnDateCompareTransitiveByDayNumber
