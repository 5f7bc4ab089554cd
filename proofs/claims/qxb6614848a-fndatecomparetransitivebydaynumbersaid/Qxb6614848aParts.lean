/-
  The contracts of the functions under the two date laws: each Go function computes a plain Lean function.
-/
import Derived.Test.Qxb6614848aRows
import Derived.WalkKit
import Derived.ProofKit
import Derived.OpenShut
import Derived.Deep.RegionHeld3
import Derived.Deep.DrawnRows
namespace Go.Proofs.Qxb6614848a
open Go.ChangeShapes Go.WideShapes Go.ChangeAt Go.RowKit
set_option linter.unusedVariables false

/-- The sign of 'x against y'. -/
def sgn (x y : Int) : Int := if x < y then -1 else if y < x then 1 else 0
theorem sgn_lt {x y : Int} (h : x < y) : sgn x y = -1 := by simp [sgn, h]
theorem sgn_gt {x y : Int} (h : y < x) : sgn x y = 1 := by have : ¬ x < y := by omega
                                                           simp [sgn, h, this]
theorem sgn_eq {x y : Int} (h : x = y) : sgn x y = 0 := by subst h; simp [sgn]

theorem ret_int {k : IntKind} {a b : Int} (h : a = b) : Ending.returned (.int k a) = .returned (.int k b) := by rw [h]

theorem cmp_int (x y : Int) (w : World) :
    Calls Try.prog 12 #[.int .i64 x, .int .i64 y] w fun e w' => e = .returned (.int .i64 (sgn x y)) ∧ w' = w := by
  rcases (show x < y ∨ y < x ∨ x = y from by omega) with h | h | h
  · have hs : Hid (sgn x y = -1) := sgn_lt h
    go_enter Try.func12, Try.ntmps12
    go_wp2
    go_ret
    exact ⟨ret_int hs.out.symm, rfl⟩
  · have hs : Hid (sgn x y = 1) := sgn_gt h
    go_enter Try.func12, Try.ntmps12
    go_wp2
    go_ret
    exact ⟨ret_int hs.out.symm, rfl⟩
  · have hs : Hid (sgn x y = 0) := sgn_eq h
    subst h
    go_enter Try.func12, Try.ntmps12
    go_wp2
    go_ret
    exact ⟨ret_int hs.out.symm, rfl⟩

theorem cmp_month (x y : Int) (w : World) :
    Calls Try.prog 13 #[.int .i64 x, .int .i64 y] w fun e w' => e = .returned (.int .i64 (sgn x y)) ∧ w' = w := by
  rcases (show x < y ∨ y < x ∨ x = y from by omega) with h | h | h
  · have hs : Hid (sgn x y = -1) := sgn_lt h
    go_enter Try.func13, Try.ntmps13
    go_wp2
    go_ret
    exact ⟨ret_int hs.out.symm, rfl⟩
  · have hs : Hid (sgn x y = 1) := sgn_gt h
    go_enter Try.func13, Try.ntmps13
    go_wp2
    go_ret
    exact ⟨ret_int hs.out.symm, rfl⟩
  · have hs : Hid (sgn x y = 0) := sgn_eq h
    subst h
    go_enter Try.func13, Try.ntmps13
    go_wp2
    go_ret
    exact ⟨ret_int hs.out.symm, rfl⟩

/-- 'cmp.Or' of three numbers: the first that is not 0. -/
def or3 (a b c : Int) : Int := if a ≠ 0 then a else if b ≠ 0 then b else c

def nth3 (a b c : Int) : Nat → Int
  | 0 => a
  | 1 => b
  | _ => c

set_option maxHeartbeats 400000 in
theorem or_three (g : Nat) (a b c : Int) (w : World)
    (hc : ∀ j, j < 3 → w.cell? ⟨g, j, none⟩ = some (.int .i64 (nth3 a b c j))) :
    Calls Try.prog 11 #[.slice (some ⟨g, 0, none⟩) 3 3] w fun e w' => e = .returned (.int .i64 (or3 a b c)) ∧ w' = w := by
  go_enter Try.func11, Try.ntmps11
  go_wp2
  go_loop [8] (fun i => ∃ k : Nat, k ≤ 3 ∧ i = .int .i64 k ∧ ∀ j, j < k → nth3 a b c j = 0) (fun i => 3 - (intOf i).toNat)
  case atStart => exact ⟨0, by omega, rfl, by omega⟩
  case round =>
    obtain ⟨k, hk, rfl, hz⟩ := hrel
    by_cases hlt : k < 3
    · have hck := hc k hlt
      generalize hn : nth3 a b c k = n at hck
      have Hn : Hid (nth3 a b c k = n) := hn
      have Hz : Hid (∀ j, j < k → nth3 a b c j = 0) := hz
      clear hn hc hz
      by_cases hn0 : n = 0
      · subst hn0
        go_wp2
        go_round
        case rel =>
          refine ⟨k + 1, by omega, by go_num, ?_⟩
          intro j hj
          by_cases e : j = k
          · subst e; exact Hn.out
          · exact Hz.out j (by omega)
        case measure => simp [intOf]; omega
      · have hne : (n == 0) = false := by simp [hn0]
        have hr : Hid (or3 a b c = n) := by
          have h1 := Hn.out
          have h2 := Hz.out
          unfold Hid or3
          match k, hlt with
          | 0, _ => simp [nth3] at h1; subst h1; simp [hn0]
          | 1, _ => have := h2 0 (by omega); simp [nth3] at h1 this; subst h1 this; simp [hn0]
          | 2, _ => have h3 := h2 0 (by omega); have h4 := h2 1 (by omega); simp [nth3] at h1 h3 h4; subst h1 h3 h4; simp
        go_wp2
        go_ret
        exact ⟨ret_int hr.out.symm, rfl⟩
    · have h3 : k = 3 := by omega
      subst h3
      have hr : Hid (or3 a b c = 0) := by
        unfold Hid or3
        have h0 := hz 0 (by omega); have h1 := hz 1 (by omega); have h2 := hz 2 (by omega)
        simp [nth3] at h0 h1 h2; subst h0 h1 h2; simp
      clear hz hc
      go_wp2
      go_ret
      exact ⟨ret_int hr.out.symm, rfl⟩
end Go.Proofs.Qxb6614848a
