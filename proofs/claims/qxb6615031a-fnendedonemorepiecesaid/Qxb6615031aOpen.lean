/-
  Slices of ints and of bools that came in, opened.
-/
import Derived.Test.Qxb6615031aParts
import Derived.Deep.Slices
import Derived.ShutString
import Derived.ChangeOld
import Derived.Below
namespace Go.Proofs.Qxb6615031a
open Go.ChangeShapes Go.WideShapes Go.ChangeAt Go.RowKit
set_option linter.unusedVariables false

theorem Try.cells3 : Try.prog.cellsOf 3 = 1 := by kernel_rfl
theorem Try.cells4 : Try.prog.cellsOf 4 = 1 := by kernel_rfl

theorem open_isl {H : Type} {enc : TypeId × Value → H} {w : World} {base : Nat} {spare : Nat → Bool} {held : Bool} {fuel : Nat} {a0 : Option Addr} {len cap : Nat} {x : DataW H × List MemPlace} (h : DataW.trod enc Try.prog w base spare held fuel 22 [.slice a0 len cap] = some x) :
    (∃ zs, ISl w a0 len cap zs) ∧ len ≤ maxLen := by
  rcases open_ints Try.underlying22 Try.underlying3 Try.cells3 h with ⟨hcs, _⟩ | ⟨a, len', cap', zs, hcs, _, hl, hm, hz, _, hcell, _⟩
  · simp at hcs
    obtain ⟨rfl, rfl, rfl⟩ := hcs
    exact ⟨⟨[], rfl, Nat.le_refl _, fun _ => rfl, by simp⟩, by simp [maxLen]⟩
  · simp at hcs
    obtain ⟨rfl, rfl, rfl⟩ := hcs
    have hzl : len ≤ zs.length := by rw [hz]; split <;> omega
    refine ⟨⟨zs.take len, by simp; omega, hl, by simp, ?_⟩, by omega⟩
    intro b hb j z hj
    cases hb
    rw [List.getElem?_take] at hj
    split at hj
    · have := hcell j (by omega)
      rw [List.getD_eq_getElem?_getD, hj] at this
      exact this
    · cases hj

theorem open_bools {H : Type} {enc : TypeId × Value → H} {w : World} {base : Nat} {spare : Nat → Bool} {held : Bool} {fuel : Nat} {a0 : Option Addr} {len cap : Nat} {x : DataW H × List MemPlace} (h : DataW.trod enc Try.prog w base spare held fuel 23 [.slice a0 len cap] = some x) :
    (∃ bs, VRow fB w a0 len bs) ∧ len ≤ maxLen := by
  rcases Go.Deep.open_slice1 Try.underlying23 Try.cells4 h with ⟨hcs, _⟩ | ⟨a, len', cap', m, n, V, D, Pl, hcs, _, hl, hm, hmm, _, hel⟩
  · simp at hcs
    obtain ⟨rfl, rfl, rfl⟩ := hcs
    exact ⟨⟨[], rfl, by omega⟩, by simp [maxLen]⟩
  · simp at hcs
    obtain ⟨rfl, rfl, rfl⟩ := hcs
    have hlm : len ≤ m := by rw [hmm]; split <;> omega
    refine ⟨?_, by omega⟩
    have each : ∀ i, i < len → ∃ b : Bool, w.cell? (a.add i) = some (.bool b) := by
      intro i hi
      obtain ⟨h1, h2⟩ := hel i (by omega)
      obtain ⟨b, e, _⟩ := DataW.trod_bool Try.underlying4 h2
      simp at e
      exact ⟨b, by rw [h1, e]⟩
    obtain ⟨f, hf⟩ := Go.Deep.choose_lt each
    refine ⟨(List.range len).map f, by simp, fun hpos => ?_⟩
    obtain ⟨b, off, spot⟩ := a
    have hspot : spot = none := by simpa [Addr.add] using World.cell?_spot (hf 0 hpos)
    subst hspot
    have hblk := World.block_lt_of_cell? w _ (hf 0 hpos)
    rw [add_block] at hblk
    refine ⟨b, off, rfl, hblk, ?_⟩
    intro j x hx
    have hj : j < len := by have := (List.getElem?_eq_some_iff.1 hx).1; simpa using this
    have e : f j = x := by simpa [hj] using hx
    have := hf j hj
    rw [add_plain, e] at this
    exact this
end Go.Proofs.Qxb6615031a
