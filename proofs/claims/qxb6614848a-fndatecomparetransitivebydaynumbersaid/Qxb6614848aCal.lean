/-
  The contracts of calendarDay, dayNumber, signOf; the plain law: the order of day numbers is the order of year, month, day.
-/
import Derived.Test.Qxb6614848aComp
namespace Go.Proofs.Qxb6614848a
open Go.ChangeShapes Go.WideShapes Go.ChangeAt Go.RowKit
set_option linter.unusedVariables false

theorem leap_any (y : Int) (w : World) :
    Calls Try.prog 14 #[.int .i64 y] w fun e w' => ∃ b, e = .returned (.bool b) ∧ w' = w := by
  go_enter Try.func14, Try.ntmps14
  go_wp2
  all_goals go_ret
  all_goals exact ⟨_, rfl, rfl⟩

theorem dim_any (y m : Int) (w : World) :
    Calls Try.prog 10 #[.int .i64 y, .int .i64 m] w fun e w' => ∃ n : Int, e = .returned (.int .i64 n) ∧ n ≤ 31 ∧ w' = w := by
  by_cases h2 : m = 2
  · subst h2
    go_enter Try.func10, Try.ntmps10
    go_wp2_with fail
    refine (leap_any _ _).mono ?_
    rintro e w' ⟨b, rfl, rfl⟩
    cases b
    all_goals go_wp2
    all_goals go_ret
    all_goals exact ⟨_, rfl, by omega, rfl⟩
  · have h2' : (m == 2) = false := by simp [h2]
    go_enter Try.func10, Try.ntmps10
    go_wp2
    all_goals go_ret
    all_goals exact ⟨_, rfl, by omega, rfl⟩

/-- What a calendar day's numbers are bounded by. -/
structure Day (y m d : Int) : Prop where
  y0 : -1099511627776 ≤ y
  y1 : y ≤ 1099511627776
  m0 : 1 ≤ m
  m1 : m ≤ 12
  d0 : 1 ≤ d
  d1 : d ≤ 31

theorem cal_any (y m d : Int) (w : World) :
    Calls Try.prog 5 #[.int .i64 y, .int .i64 m, .int .i64 d] w fun e w' => ∃ b, e = .returned (.bool b) ∧ (b = true → Day y m d) ∧ w' = w := by
  by_cases hb : -1099511627776 ≤ y ∧ y ≤ 1099511627776 ∧ 1 ≤ m ∧ m ≤ 12 ∧ 1 ≤ d
  · obtain ⟨h0, h1, h2, h3, h4⟩ := hb
    go_enter Try.func5, Try.ntmps5
    go_wp2_with fail
    refine (dim_any _ _ _).mono ?_
    rintro e w' ⟨n, rfl, hn, rfl⟩
    go_wp2
    all_goals go_ret
    all_goals exact ⟨_, rfl, fun h => ⟨h0, h1, h2, h3, h4, by simp at h; omega⟩, rfl⟩
  · rcases (show y < -1099511627776 ∨ (-1099511627776 ≤ y ∧ 1099511627776 < y) ∨ (-1099511627776 ≤ y ∧ y ≤ 1099511627776 ∧ m < 1) ∨ (-1099511627776 ≤ y ∧ y ≤ 1099511627776 ∧ 1 ≤ m ∧ 12 < m) ∨ (-1099511627776 ≤ y ∧ y ≤ 1099511627776 ∧ 1 ≤ m ∧ m ≤ 12 ∧ d < 1) from by omega) with h | ⟨h0, h⟩ | ⟨h0, h1, h⟩ | ⟨h0, h1, h2, h⟩ | ⟨h0, h1, h2, h3, h⟩
    all_goals clear hb
    all_goals go_enter Try.func5, Try.ntmps5
    all_goals go_wp2
    all_goals go_ret
    all_goals exact ⟨_, rfl, (by intro h; cases h), rfl⟩

def dayNo (y m d : Int) : Int := (y * 12 + (m - 1)) * 31 + (d - 1)

theorem dayNo_any (y m d : Int) (h : Day y m d) (w : World) :
    Calls Try.prog 8 #[.int .i64 y, .int .i64 m, .int .i64 d] w fun e w' => e = .returned (.int .i64 (dayNo y m d)) ∧ w' = w := by
  obtain ⟨h0, h1, h2, h3, h4, h5⟩ := h
  go_enter Try.func8, Try.ntmps8
  go_wp2
  go_ret
  exact ⟨rfl, rfl⟩

theorem sign_any (x : Int) (w : World) :
    Calls Try.prog 7 #[.int .i64 x] w fun e w' => e = .returned (.int .i64 (sgn x 0)) ∧ w' = w := by
  rcases (show x < 0 ∨ 0 < x ∨ x = 0 from by omega) with h | h | h
  · have hs : Hid (sgn x 0 = -1) := sgn_lt h
    go_enter Try.func7, Try.ntmps7
    go_wp2
    go_ret
    exact ⟨ret_int hs.out.symm, rfl⟩
  · have hs : Hid (sgn x 0 = 1) := sgn_gt h
    go_enter Try.func7, Try.ntmps7
    go_wp2
    go_ret
    exact ⟨ret_int hs.out.symm, rfl⟩
  · have hs : Hid (sgn x 0 = 0) := sgn_eq h
    subst h
    go_enter Try.func7, Try.ntmps7
    go_wp2
    go_ret
    exact ⟨ret_int hs.out.symm, rfl⟩

theorem newDate_any (y m d : Int) (w : World) :
    Calls Try.prog 6 #[.int .i64 y, .int .i64 m, .int .i64 d] w fun e w' => e = .returned (dv y m d) ∧ w' = w.alloc (.cells #[.int .i64 y, .int .i64 m, .int .i64 d] 25) := by
  go_enter Try.func6, Try.ntmps6
  go_wp2
  exact bodyPost_ret (v := dv y m d) (by simp [results, Try.results6, go_sem]) rfl ⟨rfl, rfl⟩

theorem bcell {W w1 : World} (hb : Below W.heap.size W w1) : (∀ b o, b < W.heap.size → w1.cell? ⟨b, o, none⟩ = W.cell? ⟨b, o, none⟩) ∧ (∀ b o, b < W.heap.size → w1.frozen? ⟨b, o, none⟩ = W.frozen? ⟨b, o, none⟩) :=
  ⟨fun b o h => hb.cell (p := ⟨b, o, none⟩) h, fun b o h => hb.frozen (p := ⟨b, o, none⟩) h⟩

/-- THE PLAIN LAW. -/
theorem cmp3_eq (y m d y2 m2 d2 : Int) (h : Day y m d) (h2 : Day y2 m2 d2) : cmp3 y m d y2 m2 d2 = sgn (dayNo y m d - dayNo y2 m2 d2) 0 := by
  obtain ⟨a0, a1, a2, a3, a4, a5⟩ := h
  obtain ⟨b0, b1, b2, b3, b4, b5⟩ := h2
  unfold cmp3 or3 sgn dayNo
  split <;> (try split) <;> (try split) <;> (try split) <;> (try split) <;> (try split) <;> (try split) <;> (try split) <;> (try split) <;> omega
theorem Day.no {y m d : Int} (h : Day y m d) : -500000000000000 ≤ dayNo y m d ∧ dayNo y m d ≤ 500000000000000 := by
  obtain ⟨a0, a1, a2, a3, a4, a5⟩ := h
  unfold dayNo
  omega

theorem sgn_bd (x y : Int) : -1 ≤ sgn x y ∧ sgn x y ≤ 1 := by unfold sgn; split <;> (try split) <;> omega
theorem sgn_neg (a b : Int) : sgn (b - a) 0 = -sgn (a - b) 0 := by unfold sgn; repeat (first | omega | split)
theorem sgn_self (a : Int) : sgn (a - a) 0 = 0 := sgn_eq (by omega)

theorem sgn_trans (a b c x y z : Int) (hx : sgn (a - b) 0 = x) (hy : sgn (b - c) 0 = y) (hz : sgn (a - c) 0 = z) : (x ≤ 0 → y ≤ 0 → z ≤ 0) ∧ (0 ≤ x → 0 ≤ y → 0 ≤ z) := by
  have k : ∀ t : Int, (sgn t 0 ≤ 0 ↔ t ≤ 0) ∧ (0 ≤ sgn t 0 ↔ 0 ≤ t) := by
    intro t; unfold sgn; split <;> (try split) <;> omega
  have k1 := k (a - b); have k2 := k (b - c); have k3 := k (a - c)
  rw [hx] at k1; rw [hy] at k2; rw [hz] at k3
  omega

/-- Compare, of two calendar days, by the sign of their numbers' difference. -/
theorem compare_day (y m d y2 m2 d2 s : Int) (h : Day y m d) (h2 : Day y2 m2 d2) (w : World) (hs : sgn (dayNo y m d - dayNo y2 m2 d2) 0 = s) :
    Calls Try.prog 9 #[dv y m d, dv y2 m2 d2] w fun e w' => e = .returned (.int .i64 s) ∧ Below w.heap.size w w' :=
  (compare_any y m d y2 m2 d2 w).mono fun e w' ⟨he, hb⟩ => ⟨by rw [he, cmp3_eq _ _ _ _ _ _ h h2, hs], hb⟩

theorem sign_is (x s : Int) (w : World) (hs : sgn x 0 = s) :
    Calls Try.prog 7 #[.int .i64 x] w fun e w' => e = .returned (.int .i64 s) ∧ w' = w :=
  (sign_any x w).mono fun e w' ⟨he, hb⟩ => ⟨by rw [he, hs], hb⟩
end Go.Proofs.Qxb6614848a
