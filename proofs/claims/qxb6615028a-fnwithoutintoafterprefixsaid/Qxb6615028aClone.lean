/-
  slices.Clone at []token.
-/
import Derived.Test.Qxb6615028aSkip
namespace Go.Proofs.Qxb6615028a
open Go.ChangeShapes Go.WideShapes Go.ChangeAt Go.RowKit
set_option linter.unusedVariables false

/-- The cells of a list of tokens. -/
def tcs : List Tk → List Value
  | [] => []
  | t :: ts => .int .i64 t.kind :: .string t.text :: .int .i64 t.line :: tcs ts
theorem tcs_len (ts : List Tk) : (tcs ts).length = ts.length * 3 := by
  induction ts with
  | nil => rfl
  | cons t ts ih => simp [tcs, ih]; omega
theorem tcs_append (a b : List Tk) : tcs (a ++ b) = tcs a ++ tcs b := by
  induction a with
  | nil => rfl
  | cons t a ih => simp [tcs, ih]
theorem tcs_at (ts : List Tk) : ∀ (j : Nat) (t : Tk), ts[j]? = some t → (tcs ts)[j * 3]? = some (.int .i64 t.kind) ∧ (tcs ts)[j * 3 + 1]? = some (.string t.text) ∧ (tcs ts)[j * 3 + 2]? = some (.int .i64 t.line) := by
  induction ts with
  | nil => intro j t h; simp at h
  | cons x ts ih =>
    intro j t h
    cases j with
    | zero => simp at h; subst h; simp [tcs]
    | succ j =>
      have := ih j t (by simpa using h)
      have e0 : (j + 1) * 3 = j * 3 + 1 + 1 + 1 := by omega
      have e1 : (j + 1) * 3 + 1 = j * 3 + 1 + 1 + 1 + 1 := by omega
      have e2 : (j + 1) * 3 + 2 = j * 3 + 2 + 1 + 1 + 1 := by omega
      rw [e1, e2, e0]
      simp only [tcs, List.getElem?_cons_succ]
      exact this
theorem tcs_one (ts : List Tk) : ∀ u ∈ tcs ts, u.oneCell' = true := by
  induction ts with
  | nil => intro u h; simp [tcs] at h
  | cons x ts ih =>
    intro u h
    simp [tcs] at h
    rcases h with rfl | rfl | rfl | h
    · rfl
    · rfl
    · rfl
    · exact ih u h
/-- What lies in a row of tokens, cell by cell. -/
theorem TokRow.news {w : World} {b off : Nat} {ts : List Tk} (h : TokRow w b off ts) : ∀ j u, (tcs ts)[j]? = some u → w.cell? ((⟨b, off, none⟩ : Addr).add j) = some u := by
  intro j u hu
  have hadd : (⟨b, off, none⟩ : Addr).add j = ⟨b, off + j, none⟩ := by unfold Addr.add; split <;> simp_all
  rw [hadd]
  have hj : j < ts.length * 3 := by have := (List.getElem?_eq_some_iff.1 hu).1; rw [tcs_len] at this; exact this
  obtain ⟨t, ht⟩ : ∃ t, ts[j / 3]? = some t := ⟨_, List.getElem?_eq_getElem (by omega)⟩
  have ha := tcs_at ts (j / 3) t ht
  rcases (show j = j / 3 * 3 ∨ j = j / 3 * 3 + 1 ∨ j = j / 3 * 3 + 2 from by omega) with e | e | e
  · rw [e, ha.1] at hu; cases hu; rw [e]; exact h.c0 _ t ht
  · rw [e, ha.2.1] at hu; cases hu; rw [e, ← Nat.add_assoc]; exact h.c1 _ t ht
  · rw [e, ha.2.2] at hu; cases hu; rw [e, ← Nat.add_assoc]; exact h.c2 _ t ht
/-- A part of a row. -/
theorem TokRow.take {w : World} {b off : Nat} {ts : List Tk} (h : TokRow w b off ts) (k : Nat) : TokRow w b off (ts.take k) := by
  have hh : ∀ j t, (ts.take k)[j]? = some t → ts[j]? = some t := fun j t e => by rw [List.getElem?_take] at e; split at e; exact e; cases e
  exact ⟨h.lt, fun j t e => h.c0 j t (hh j t e), fun j t e => h.c1 j t (hh j t e), fun j t e => h.c2 j t (hh j t e), fun t ht => h.sz t (List.mem_of_mem_take ht)⟩
theorem TokRow.drop {w : World} {b off : Nat} {ts : List Tk} (h : TokRow w b off ts) (k : Nat) : TokRow w b (off + k * 3) (ts.drop k) := by
  have hh : ∀ j t, (ts.drop k)[j]? = some t → ts[k + j]? = some t := fun j t e => by rw [List.getElem?_drop] at e; exact e
  have e0 : ∀ j, off + k * 3 + j * 3 = off + (k + j) * 3 := fun j => by omega
  exact ⟨h.lt, fun j t e => by rw [e0]; exact h.c0 _ t (hh j t e), fun j t e => by rw [e0]; exact h.c1 _ t (hh j t e), fun j t e => by rw [e0]; exact h.c2 _ t (hh j t e), fun t ht => h.sz t (List.mem_of_mem_drop ht)⟩
/-- An owned row of tokens is a slice of tokens. -/
theorem TokSlice.of_owns {w : World} {base : Nat} {v : Value} {m : Nat} {ts : List Tk} (h : w.ownsRow base 43 3 v m (tcs ts)) (hl : ts.length = m) (hsz : ∀ t ∈ ts, t.text.size ≤ maxLen) : ∃ ao c, v = .slice ao m c ∧ TokSlice w ao m ts := by
  rcases h.2 with ⟨rfl, rfl⟩ | ⟨g, cap, cur, rfl, hb, hg, hnc, hcm, hcs, htake⟩
  · exact ⟨none, 0, rfl, hl, by omega⟩
  · refine ⟨_, _, rfl, hl, fun _ => ⟨g, 0, rfl, ?_⟩⟩
    have hc : ∀ j u, (tcs ts)[j]? = some u → w.cell? ⟨g, j, none⟩ = some u := by
      intro j u hu
      rw [cell_of_row w g j cur 43 (0, 0) hg]
      rw [← htake, List.getElem?_take] at hu
      split at hu
      · simpa using hu
      · cases hu
    refine ⟨lt_of_block hg, ?_, ?_, ?_, hsz⟩
    · intro j t e; rw [Nat.zero_add]; exact hc _ _ (tcs_at ts j t e).1
    · intro j t e; rw [Nat.zero_add]; exact hc _ _ (tcs_at ts j t e).2.1
    · intro j t e; rw [Nat.zero_add]; exact hc _ _ (tcs_at ts j t e).2.2

theorem Try.info43 : (Try.prog.info? 43).map (fun i => (i.zero, i.size, i.bytes)) = some (some (.agg #[.int .i64 0, .string (ByteArray.mk #[]), .int .i64 0]), 3, 32) := by kernel_rfl

def ClonePost (k : Nat) (ts : List Tk) (w : World) (e : Ending) (w' : World) : Prop := ∃ v, e = .returned v ∧ w'.ownsRow w.heap.size 43 3 v k (tcs ts) ∧ Below w.heap.size w w'

set_option maxHeartbeats 1000000 in
theorem clone_any (b k c : Nat) (ts : List Tk) (w : World) (h : TokRow w b 0 ts) (hl : ts.length = k) (hk : k ≤ 1048576) :
    Calls Try.prog 31 #[.slice (some ⟨b, 0, none⟩) k c] w (ClonePost k ts w) := by
  obtain ⟨i0, hi, hz0, hz1, hz2⟩ := info_parts Try.info43
  have Hi : Hid (Try.prog.info? 43 = some i0 ∧ i0.zero = some (.agg #[.int .i64 0, .string (ByteArray.mk #[]), .int .i64 0]) ∧ i0.size = 3 ∧ i0.bytes = 32) := ⟨hi, hz0, hz1, hz2⟩
  have HR : Hid (TokRow w b 0 ts) := h
  have Hl : Hid (ts.length = k) := hl
  have hbw := h.lt
  clear hi hz0 hz1 hz2 h hl
  have hq : ∀ w, (binOp .eql 40 (.slice (some ⟨b, 0, none⟩) k c) (.slice none 0 0)).run Try.prog w = .ok (.bool false) w := fun w => Lib.run_eql_slice_nil w 40 43 _ _ _ _ _ Try.underlying40
  go_enter Try.func31, Try.ntmps31
  have hown : (w.alloc (.cells #[] 43)).ownsRow w.heap.size 43 3 (.slice (some ⟨w.heap.size, 0, none⟩) 0 0) 0 [] := World.ownsRow_made w #[] 0 (Nat.le_refl _) (Nat.zero_le _) rfl
  have Hown : Hid ((w.alloc (.cells #[] 43)).ownsRow w.heap.size 43 3 (.slice (some ⟨w.heap.size, 0, none⟩) 0 0) 0 []) := hown
  have hA : Below w.heap.size w (w.alloc (.cells #[] 43)) := (Below.refl _ _).alloc (Nat.le_refl _) _
  have hR : TokRow (w.alloc (.cells #[] 43)) b 0 ts := HR.out.below hA hbw
  have HR2 : Hid (TokRow (w.alloc (.cells #[] 43)) b 0 ts) := hR
  clear hown hR
  go_wp2_with (at_builtin; refine wpList_append_own _ rfl _ _ 40 rfl w.heap.size 43 i0 (.agg #[.int .i64 0, .string (ByteArray.mk #[]), .int .i64 0]) 3 32 Try.underlying40 Hi.out.1 Hi.out.2.1 Hi.out.2.2.1 Hi.out.2.2.2 rfl (by decide) _ _ _ rfl Hown.out ⟨b, 0, none⟩ k c (tcs ts) rfl ?c2 HR2.out.news (tcs_one _) ?c3 ?c4 ?c5 ?_)
  case c2 => rw [tcs_len, Hl.out]
  case c3 => unfold maxLen; omega
  case c4 => omega
  case c5 => simp
  intro v' w1 hown' hgrow hnil
  have hB : Below w.heap.size w w1 := hA.grown hgrow (by simp) (by intro k hk; simp [Value.ownBlock] at hk; omega)
  have HP : Hid (w1.ownsRow w.heap.size 43 3 v' k (tcs ts)) := hown'
  clear hown' hgrow hnil
  go_wp2_with fail
  go_ret
  exact ⟨v', rfl, HP.out, hB⟩
end Go.Proofs.Qxb6615028a
