/-
  The contract of (Date).Compare.
-/
import Derived.Test.Qxb6614848aParts
namespace Go.Proofs.Qxb6614848a
open Go.ChangeShapes Go.WideShapes Go.ChangeAt Go.RowKit
set_option linter.unusedVariables false
attribute [local go_sem ↓] Go.wp_at_zero Go.wp_at_succ

/-- A date as a value. -/
abbrev dv (y m d : Int) : Value := .agg #[.int .i64 y, .int .i64 m, .int .i64 d]
def cmp3 (y m d y2 m2 d2 : Int) : Int := or3 (sgn y y2) (sgn m m2) (sgn d d2)

theorem cells_new3 (W : World) (n : Nat) (hn : n = W.heap.size) (a b c : Int) (t : TypeId) (j : Nat) (hj : j < 3) :
    (W.alloc (.cells #[.int .i64 a, .int .i64 b, .int .i64 c] t)).cell? ⟨n, j, none⟩ = some (.int .i64 (nth3 a b c j)) := by
  subst hn
  match j, hj with
  | 0, _ => simp [nth3]
  | 1, _ => simp [nth3]
  | 2, _ => simp [nth3]

set_option maxHeartbeats 1000000 in
theorem compare_any (y m d y2 m2 d2 : Int) (w : World) :
    Calls Try.prog 9 #[dv y m d, dv y2 m2 d2] w fun e w' => e = .returned (.int .i64 (cmp3 y m d y2 m2 d2)) ∧ Below w.heap.size w w' := by
  go_enter Try.func9, Try.ntmps9
  go_wp2_with fail
  go_region_held3 (fun w' => w'.cell? ⟨w.heap.size, 0, none⟩ = some (.int .i64 y) ∧ w'.cell? ⟨w.heap.size, 1, none⟩ = some (.int .i64 m) ∧ w'.cell? ⟨w.heap.size, 2, none⟩ = some (.int .i64 d) ∧
      w'.cell? ⟨w.heap.size + 1, 0, none⟩ = some (.int .i64 y2) ∧ w'.cell? ⟨w.heap.size + 1, 1, none⟩ = some (.int .i64 m2) ∧ w'.cell? ⟨w.heap.size + 1, 2, none⟩ = some (.int .i64 d2)) (go_keep)
    (first
      | (go_at_call 12; refine (cmp_int _ _ _).mono ?_; rintro e w' ⟨rfl, rfl⟩)
      | (go_at_call 13; refine (cmp_month _ _ _).mono ?_; rintro e w' ⟨rfl, rfl⟩)
      | (go_at_call 11; refine (or_three _ (sgn y y2) (sgn m m2) (sgn d d2) _ ?_).mono ?_; (refine cells_new3 _ _ ?_ _ _ _ _; simp); rintro e w' ⟨rfl, rfl⟩))
  all_goals go_wp2
  all_goals go_ret
  all_goals exact ⟨rfl, by repeat (first | exact Below.refl _ _ | refine Below.drew ?_ | refine Below.alloc ?_ (by simp; try omega) _)⟩
end Go.Proofs.Qxb6614848a
