/-
  A slice of tokens that came in, opened.
-/
import Derived.Test.Qxb6615028aCur
import Derived.Deep.Strs
import Derived.ShutString
import Derived.ChangeOld
import Derived.Below
namespace Go.Proofs.Qxb6615028a
open Go.ChangeShapes Go.WideShapes Go.ChangeAt Go.RowKit
set_option linter.unusedVariables false

theorem Try.cells28 : Try.prog.cellsOf 28 = 3 := by kernel_rfl
theorem Try.cells3 : Try.prog.cellsOf 3 = 1 := by kernel_rfl
theorem Try.cells9 : Try.prog.cellsOf 9 = 1 := by kernel_rfl

theorem open_tok {H : Type} {enc : TypeId × Value → H} {w : World} {base : Nat} {spare : Nat → Bool} {held : Bool} {n : Nat} {cs : List Value} {x : DataW H × List MemPlace} (h : DataW.trod enc Try.prog w base spare held n 28 cs = some x) :
    ∃ t : Tk, cs = [.int .i64 t.kind, .string t.text, .int .i64 t.line] ∧ t.text.size ≤ maxLen := by
  obtain ⟨y0, y1, y2, m, rfl, hl, h0, h1, h2⟩ := Go.Deep.trod_struct3 Try.underlying28 h
  rw [Try.cells28] at hl
  match cs, hl with
  | [v0, v1, v2], _ =>
    simp only [Try.cells3, Try.cells9] at h0 h1 h2
    obtain ⟨k, e0, _, _⟩ := DataW.trod_int Try.underlying3 h0
    obtain ⟨s, e1, _, hs⟩ := DataW.trod_string Try.underlying9 h1
    obtain ⟨l, e2, _, _⟩ := DataW.trod_int Try.underlying3 h2
    simp at e0 e1 e2
    subst e0 e1 e2
    exact ⟨⟨k, s, l⟩, rfl, hs⟩

theorem open_toks {H : Type} {enc : TypeId × Value → H} {w : World} {base : Nat} {spare : Nat → Bool} {held : Bool} {fuel : Nat} {a0 : Option Addr} {len cap : Nat} {x : DataW H × List MemPlace} (h : DataW.trod enc Try.prog w base spare held fuel 22 [.slice a0 len cap] = some x) :
    (∃ ts, TokSlice w a0 len ts) ∧ len ≤ maxLen := by
  rcases Go.Deep.open_slice Try.underlying22 h with ⟨hcs, _⟩ | ⟨a, len', cap', m, n, D, Pl, hcs, hb, hl, hm, hmm, _, hel⟩
  · simp at hcs
    obtain ⟨rfl, rfl, rfl⟩ := hcs
    exact ⟨⟨[], rfl, by omega⟩, by simp [maxLen]⟩
  · simp at hcs
    obtain ⟨rfl, rfl, rfl⟩ := hcs
    refine ⟨?_, by omega⟩
    have hlm : len ≤ m := by rw [hmm]; split <;> omega
    rw [Try.cells28] at hel
    have each : ∀ i, i < len → ∃ t : Tk, w.cell? (a.add (i * 3)) = some (.int .i64 t.kind) ∧ w.cell? (a.add (i * 3 + 1)) = some (.string t.text) ∧ w.cell? (a.add (i * 3 + 2)) = some (.int .i64 t.line) ∧ t.text.size ≤ maxLen := by
      intro i hi
      obtain ⟨cs', h1, h2⟩ := hel i (by omega)
      obtain ⟨_, hlen, hcell⟩ := World.cells?_some h1
      obtain ⟨t, rfl, hs⟩ := open_tok h2
      have e0 := hcell 0 (by omega)
      have e1 := hcell 1 (by omega)
      have e2 := hcell 2 (by omega)
      rw [Go.Deep.add_add] at e0 e1 e2
      exact ⟨t, by simpa using e0, by simpa using e1, by simpa using e2, hs⟩
    letI : Inhabited Tk := ⟨noTk⟩
    obtain ⟨f, hf⟩ := Go.Deep.choose_lt each
    refine ⟨(List.range len).map f, by simp, fun hpos => ?_⟩
    obtain ⟨b, off, spot⟩ := a
    have hspot : spot = none := by simpa [Addr.add] using World.cell?_spot (hf 0 hpos).1
    subst hspot
    have hget : ∀ j t, ((List.range len).map f)[j]? = some t → j < len ∧ f j = t := by
      intro j t ht
      have hj : j < len := by have := (List.getElem?_eq_some_iff.1 ht).1; simpa using this
      refine ⟨hj, ?_⟩
      simpa [hj] using ht
    refine ⟨b, off, rfl, World.block_lt_of_cell? w _ (hf 0 hpos).1, ?_, ?_, ?_, ?_⟩
    · intro j t ht
      obtain ⟨hj, rfl⟩ := hget j t ht
      have := (hf j hj).1
      rwa [add_plain] at this
    · intro j t ht
      obtain ⟨hj, rfl⟩ := hget j t ht
      have := (hf j hj).2.1
      rwa [add_plain] at this
    · intro j t ht
      obtain ⟨hj, rfl⟩ := hget j t ht
      have := (hf j hj).2.2.1
      rwa [add_plain] at this
    · intro t ht
      obtain ⟨j, hj, rfl⟩ := List.mem_map.1 ht
      exact (hf j (List.mem_range.1 hj)).2.2.2
end Go.Proofs.Qxb6615028a
