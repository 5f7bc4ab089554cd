/-
  zzSame: where the columns hold the tokens, it answers true.
-/
import Derived.Test.Qxb6615028aZZ
namespace Go.Proofs.Qxb6615028a
open Go.ChangeShapes Go.WideShapes Go.ChangeAt Go.RowKit
set_option linter.unusedVariables false

theorem Cols.take {w : World} {a b c : Nat} {ts : List Tk} (h : Cols w a b c ts) (k : Nat) : Cols w a b c (ts.take k) := by
  have hh : ∀ j t, (ts.take k)[j]? = some t → ts[j]? = some t := fun j t e => by rw [List.getElem?_take] at e; split at e; exact e; cases e
  exact ⟨h.la, h.lb, h.lc, fun j t e => h.ka j t (hh j t e), fun j t e => h.kb j t (hh j t e), fun j t e => h.kc j t (hh j t e)⟩

def SamePost (w : World) (e : Ending) (w' : World) : Prop := e = .returned (.bool true) ∧ Below w.heap.size w w'
def SameRel (m : Nat) (w : World) (i : Value) (wr : World) : Prop := ∃ k : Nat, k ≤ m ∧ i = .int .i64 k ∧ Below w.heap.size w wr

set_option maxHeartbeats 2000000 in
theorem same_any (a b c m c1 c2 c3 c4 : Nat) (ao : Option Addr) (ts : List Tk) (w : World) (hc : Cols w a b c ts) (hs : TokSlice w ao m ts) (hm : m ≤ 1048576) :
    Calls Try.prog 11 #[.slice (some ⟨a, 0, none⟩) m c1, .slice (some ⟨b, 0, none⟩) m c2, .slice (some ⟨c, 0, none⟩) m c3, .slice ao m c4] w (SamePost w) := by
  have HC : Hid (Cols w a b c ts) := hc
  have HS : Hid (TokSlice w ao m ts) := hs
  clear hc hs
  go_enter Try.func11, Try.ntmps11
  go_wp2_with fail
  go_loopw [9] (fun i wr => SameRel m w i wr) (fun i _ => m - (intOf i).toNat)
  case atStart => exact ⟨0, Nat.zero_le _, rfl, Below.refl _ _⟩
  case round =>
    obtain ⟨k, hk, rfl, hbr⟩ := hrel
    by_cases hlt : k < m
    · obtain ⟨t, ht⟩ := getTk HS.out.len hlt
      obtain ⟨d, off, rfl, hr0⟩ := HS.out.row (by omega)
      have hr := hr0.below hbr hr0.lt
      have CR := HC.out.below hbr (Nat.le_refl _)
      have h0 := CR.ka k t ht
      have h1 := CR.kb k t ht
      have h2 := CR.kc k t ht
      have g0 := hr.c0 k t ht
      have g1 := hr.c1 k t ht
      have g2 := hr.c2 k t ht
      clear ht hr CR hr0
      have hi0 : (0 : Int) ≤ (k : Int) := by omega
      have hi : (k : Int) < (m : Int) := by omega
      go_wp2_with fail
      go_quiet (fail)
      go_wp2_with fail
      go_roundw
      case rel => exact ⟨k + 1, by omega, by go_num, below_drewN hbr _⟩
      case measure => simp [intOf]; omega
    · go_wp2_with fail
      go_ret
      exact ⟨rfl, hbr⟩
end Go.Proofs.Qxb6615028a
