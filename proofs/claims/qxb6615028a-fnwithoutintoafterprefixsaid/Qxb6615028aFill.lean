/-
  Rows that are filled, cell by cell: columns of tokens, and rows of tokens. zzSplit.
-/
import Derived.Test.Qxb6615028aInto
namespace Go.Proofs.Qxb6615028a
open Go.ChangeShapes Go.WideShapes Go.ChangeAt Go.RowKit
set_option linter.unusedVariables false

/-- A column in block g of n cells, filled up to k: what fv makes of each token. -/
def FillC (w : World) (g : Nat) (e : TypeId) (n k : Nat) (ts : List Tk) (fv : Tk → Value) : Prop :=
  ∃ cur : Array Value, w.heap[g]? = some (.cells cur e (0, 0)) ∧ cur.size = n ∧ ∀ j t, j < k → ts[j]? = some t → cur[j]? = some (fv t)

theorem FillC.start {w : World} {base g e n : Nat} {xs : List Value} {ts : List Tk} {fv : Tk → Value} (h : w.ownsRow base e 1 (.slice (some ⟨g, 0, none⟩) n n) n xs) : FillC w g e n 0 ts fv := by
  rcases h.2 with ⟨h', _⟩ | ⟨g', cap, cur, h', _, hg, _, _, hcs, _⟩
  · simp at h'
  · simp only [Value.slice.injEq, Option.some.injEq, Addr.mk.injEq, and_true, true_and] at h'
    obtain ⟨rfl, rfl⟩ := h'
    exact ⟨cur, hg, by omega, by omega⟩
theorem FillC.same {w w' : World} {g e n k : Nat} {ts : List Tk} {fv : Tk → Value} (h : FillC w g e n k ts fv) (hg : w'.heap[g]? = w.heap[g]?) : FillC w' g e n k ts fv := by
  obtain ⟨cur, h1, h2, h3⟩ := h
  exact ⟨cur, by rw [hg]; exact h1, h2, h3⟩
theorem FillC.lt {w : World} {g e n k : Nat} {ts : List Tk} {fv : Tk → Value} (h : FillC w g e n k ts fv) : g < w.heap.size := by
  obtain ⟨cur, h1, h2, h3⟩ := h; exact lt_of_block h1
theorem FillC.free {w : World} {g e n k : Nat} {ts : List Tk} {fv : Tk → Value} (h : FillC w g e n k ts fv) (j : Nat) : w.frozen? ⟨g, j, none⟩ = false := by
  obtain ⟨cur, h1, h2, h3⟩ := h; simp [World.frozen?, h1]
theorem FillC.old {w : World} {g e n k : Nat} {ts : List Tk} {fv : Tk → Value} (h : FillC w g e n k ts fv) {j : Nat} (hj : j < n) : ∃ v, w.cell? ⟨g, j, none⟩ = some v := by
  obtain ⟨cur, h1, h2, h3⟩ := h
  exact ⟨_, (cell_of_row w g j cur e (0, 0) h1).trans (Array.getElem?_eq_getElem (by omega))⟩
theorem FillC.put {w : World} {g e n k : Nat} {ts : List Tk} {fv : Tk → Value} {t : Tk} (h : FillC w g e n k ts fv) (ht : ts[k]? = some t) (hk : k < n) (u : Value) (hu : u = fv t) : FillC (w.setCell ⟨g, k, none⟩ u) g e n (k + 1) ts fv := by
  subst hu
  obtain ⟨cur, h1, h2, h3⟩ := h
  refine ⟨cur.setIfInBounds k (fv t), heap_setCell_same w g k cur e _ h1, by simpa using h2, ?_⟩
  intro j t' hj ht'
  by_cases e : j = k
  · subst e
    rw [ht] at ht'
    cases ht'
    rw [Array.getElem?_setIfInBounds_self_of_lt (by omega)]
  · rw [Array.getElem?_setIfInBounds_ne (by omega)]
    exact h3 j t' (by omega) ht'
theorem FillC.cell {w : World} {g e n k : Nat} {ts : List Tk} {fv : Tk → Value} (h : FillC w g e n k ts fv) (j : Nat) (t : Tk) (hj : j < k) (ht : ts[j]? = some t) : w.cell? ⟨g, j, none⟩ = some (fv t) := by
  obtain ⟨cur, h1, h2, h3⟩ := h
  exact (cell_of_row w g j cur e (0, 0) h1).trans (h3 j t hj ht)

/-- A row of n tokens in block g, filled up to k. -/
def FillT (w : World) (g : Nat) (e : TypeId) (n k : Nat) (ts : List Tk) : Prop :=
  ∃ cur : Array Value, w.heap[g]? = some (.cells cur e (0, 0)) ∧ cur.size = n * 3 ∧ ∀ j t, j < k → ts[j]? = some t → cur[j * 3]? = some (.int .i64 t.kind) ∧ cur[j * 3 + 1]? = some (.string t.text) ∧ cur[j * 3 + 2]? = some (.int .i64 t.line)

theorem FillT.start {w : World} {base g e n : Nat} {xs : List Value} {ts : List Tk} (h : w.ownsRow base e 3 (.slice (some ⟨g, 0, none⟩) n n) n xs) : FillT w g e n 0 ts := by
  rcases h.2 with ⟨h', _⟩ | ⟨g', cap, cur, h', _, hg, _, _, hcs, _⟩
  · simp at h'
  · simp only [Value.slice.injEq, Option.some.injEq, Addr.mk.injEq, and_true, true_and] at h'
    obtain ⟨rfl, rfl⟩ := h'
    exact ⟨cur, hg, hcs, by omega⟩
theorem FillT.same {w w' : World} {g e n k : Nat} {ts : List Tk} (h : FillT w g e n k ts) (hg : w'.heap[g]? = w.heap[g]?) : FillT w' g e n k ts := by
  obtain ⟨cur, h1, h2, h3⟩ := h
  exact ⟨cur, by rw [hg]; exact h1, h2, h3⟩
theorem FillT.lt {w : World} {g e n k : Nat} {ts : List Tk} (h : FillT w g e n k ts) : g < w.heap.size := by
  obtain ⟨cur, h1, h2, h3⟩ := h; exact lt_of_block h1
theorem FillT.free {w : World} {g e n k : Nat} {ts : List Tk} (h : FillT w g e n k ts) (j : Nat) : w.frozen? ⟨g, j, none⟩ = false := by
  obtain ⟨cur, h1, h2, h3⟩ := h; simp [World.frozen?, h1]
theorem FillT.old {w : World} {g e n k : Nat} {ts : List Tk} (h : FillT w g e n k ts) {j : Nat} (hj : j < n * 3) : ∃ v, w.cell? ⟨g, j, none⟩ = some v := by
  obtain ⟨cur, h1, h2, h3⟩ := h
  exact ⟨_, (cell_of_row w g j cur e (0, 0) h1).trans (Array.getElem?_eq_getElem (by omega))⟩
theorem FillT.put {w : World} {g e n k : Nat} {ts : List Tk} {t : Tk} (h : FillT w g e n k ts) (ht : ts[k]? = some t) (hk : k < n) :
    FillT (((w.setCell ⟨g, k * 3, none⟩ (.int .i64 t.kind)).setCell ⟨g, k * 3 + 1, none⟩ (.string t.text)).setCell ⟨g, k * 3 + 2, none⟩ (.int .i64 t.line)) g e n (k + 1) ts := by
  obtain ⟨cur, h1, h2, h3⟩ := h
  have a1 := heap_setCell_same w g (k * 3) cur e (.int .i64 t.kind) h1
  have a2 := heap_setCell_same _ g (k * 3 + 1) _ e (.string t.text) a1
  have a3 := heap_setCell_same _ g (k * 3 + 2) _ e (.int .i64 t.line) a2
  refine ⟨_, a3, by simpa using h2, ?_⟩
  intro j t' hj ht'
  by_cases e : j = k
  · subst e
    rw [ht] at ht'
    cases ht'
    refine ⟨?_, ?_, ?_⟩
    · rw [Array.getElem?_setIfInBounds_ne (by omega), Array.getElem?_setIfInBounds_ne (by omega), Array.getElem?_setIfInBounds_self_of_lt (by omega)]
    · rw [Array.getElem?_setIfInBounds_ne (by omega), Array.getElem?_setIfInBounds_self_of_lt (by simp; omega)]
    · rw [Array.getElem?_setIfInBounds_self_of_lt (by simp; omega)]
  · have h4 := h3 j t' (by omega) ht'
    refine ⟨?_, ?_, ?_⟩
    · rw [Array.getElem?_setIfInBounds_ne (by omega), Array.getElem?_setIfInBounds_ne (by omega), Array.getElem?_setIfInBounds_ne (by omega)]; exact h4.1
    · rw [Array.getElem?_setIfInBounds_ne (by omega), Array.getElem?_setIfInBounds_ne (by omega), Array.getElem?_setIfInBounds_ne (by omega)]; exact h4.2.1
    · rw [Array.getElem?_setIfInBounds_ne (by omega), Array.getElem?_setIfInBounds_ne (by omega), Array.getElem?_setIfInBounds_ne (by omega)]; exact h4.2.2
/-- A full row. -/
theorem FillT.row {w : World} {g e n : Nat} {ts : List Tk} (h : FillT w g e n n ts) (hl : ts.length ≤ n) (hsz : ∀ t ∈ ts, t.text.size ≤ maxLen) : TokRow w g 0 ts := by
  have hlt := h.lt
  obtain ⟨cur, h1, h2, h3⟩ := h
  have hj : ∀ j t, ts[j]? = some t → j < n := fun j t ht => by have := (List.getElem?_eq_some_iff.1 ht).1; omega
  refine ⟨hlt, ?_, ?_, ?_, hsz⟩
  · intro j t ht; rw [Nat.zero_add]; exact (cell_of_row w g _ cur e (0, 0) h1).trans (h3 j t (hj j t ht) ht).1
  · intro j t ht; rw [Nat.zero_add]; exact (cell_of_row w g _ cur e (0, 0) h1).trans (h3 j t (hj j t ht) ht).2.1
  · intro j t ht; rw [Nat.zero_add]; exact (cell_of_row w g _ cur e (0, 0) h1).trans (h3 j t (hj j t ht) ht).2.2

theorem Try.info3 : (Try.prog.info? 3).map (fun i => (i.zero, i.size, i.bytes)) = some (some (.int .i64 0), 1, 8) := by kernel_rfl
theorem Try.info28 : (Try.prog.info? 28).map (fun i => (i.zero, i.size, i.bytes)) = some (some (.agg #[.int .i64 0, .string (ByteArray.mk #[]), .int .i64 0]), 3, 32) := by kernel_rfl

abbrev fK (t : Tk) : Value := .int .i64 t.kind
abbrev fX (t : Tk) : Value := .string t.text
abbrev fL (t : Tk) : Value := .int .i64 t.line

/-- Three columns of tokens. -/
structure Cols (w : World) (a b c : Nat) (ts : List Tk) : Prop where
  la : a < w.heap.size
  lb : b < w.heap.size
  lc : c < w.heap.size
  ka : ∀ j t, ts[j]? = some t → w.cell? ⟨a, j, none⟩ = some (.int .i64 t.kind)
  kb : ∀ j t, ts[j]? = some t → w.cell? ⟨b, j, none⟩ = some (.string t.text)
  kc : ∀ j t, ts[j]? = some t → w.cell? ⟨c, j, none⟩ = some (.int .i64 t.line)
theorem Cols.below {w w' : World} {a b c B : Nat} {ts : List Tk} (h : Cols w a b c ts) (hb : Below B w w') (hB : w.heap.size ≤ B) : Cols w' a b c ts :=
  ⟨Nat.lt_of_lt_of_le h.la hb.size, Nat.lt_of_lt_of_le h.lb hb.size, Nat.lt_of_lt_of_le h.lc hb.size,
    fun j t e => (hb.cell (p := ⟨a, _, none⟩) (Nat.lt_of_lt_of_le h.la hB)).trans (h.ka j t e), fun j t e => (hb.cell (p := ⟨b, _, none⟩) (Nat.lt_of_lt_of_le h.lb hB)).trans (h.kb j t e), fun j t e => (hb.cell (p := ⟨c, _, none⟩) (Nat.lt_of_lt_of_le h.lc hB)).trans (h.kc j t e)⟩

def SplitPost (n : Nat) (ts : List Tk) (w : World) (e : Ending) (w' : World) : Prop := ∃ a b c, e = .returned (.tuple #[.slice (some ⟨a, 0, none⟩) n n, .slice (some ⟨b, 0, none⟩) n n, .slice (some ⟨c, 0, none⟩) n n]) ∧ Cols w' a b c ts ∧ Below w.heap.size w w'
def SplitRel (a b c n : Nat) (ts : List Tk) (w : World) (i : Value) (wr : World) : Prop := ∃ k : Nat, k ≤ n ∧ i = .int .i64 k ∧ FillC wr a 3 n k ts fK ∧ FillC wr b 9 n k ts fX ∧ FillC wr c 3 n k ts fL ∧ Below w.heap.size w wr

set_option maxHeartbeats 2000000 in
theorem split_any (ao : Option Addr) (n c : Nat) (ts : List Tk) (w : World) (hs : TokSlice w ao n ts) (hn : n ≤ 1048576) :
    Calls Try.prog 9 #[.slice ao n c] w (SplitPost n ts w) := by
  obtain ⟨i3, hi, hz0, hz1, hz2⟩ := info_parts Try.info3
  have I3 : Hid (Try.prog.info? 3 = some i3 ∧ i3.zero = some (.int .i64 0) ∧ i3.size = 1 ∧ i3.bytes = 8) := ⟨hi, hz0, hz1, hz2⟩
  clear hi hz0 hz1 hz2
  obtain ⟨i9, hi, hz0, hz1, hz2⟩ := info_parts Try.info9
  have I9 : Hid (Try.prog.info? 9 = some i9 ∧ i9.zero = some (.string (ByteArray.mk #[])) ∧ i9.size = 1 ∧ i9.bytes = 16) := ⟨hi, hz0, hz1, hz2⟩
  clear hi hz0 hz1 hz2
  have B3 : Hid (i3.bytes * n ≤ 281474976710656) := by unfold Hid; rw [I3.out.2.2.2]; omega
  have B9 : Hid (i9.bytes * n ≤ 281474976710656) := by unfold Hid; rw [I9.out.2.2.2]; omega
  have BM : Hid (n ≤ maxLen) := by unfold Hid maxLen; omega
  go_enter Try.func9, Try.ntmps9
  go_wp2_with (first
    | (at_make; refine wpList_make_full _ rfl (.tmp 10) (.tmp 10) 29 rfl w.heap.size 3 i3 (.int .i64 0) 1 Try.underlying29 I3.out.1 I3.out.2.1 I3.out.2.2.1 .i64 .i64 _ _ n rfl rfl rfl rfl B3.out BM.out (Nat.le_refl _) ?_; intro w1 o1 g1)
    | (at_make; refine wpList_make_full _ rfl (.tmp 13) (.tmp 13) 30 rfl w.heap.size 9 i9 (.string (ByteArray.mk #[])) 1 Try.underlying30 I9.out.1 I9.out.2.1 I9.out.2.2.1 .i64 .i64 _ _ n rfl rfl rfl rfl B9.out BM.out g1.size ?_; intro w2 o2 g2)
    | (at_make; refine wpList_make_full _ rfl (.tmp 16) (.tmp 16) 29 rfl w.heap.size 3 i3 (.int .i64 0) 1 Try.underlying29 I3.out.1 I3.out.2.1 I3.out.2.2.1 .i64 .i64 _ _ n rfl rfl rfl rfl B3.out BM.out (Nat.le_trans g1.size g2.size) ?_; intro w3 o3 g3))
  have z1 := g1.size
  have z2 := g2.size
  have z3 := g3.size
  have q1 : w.heap.size < w1.heap.size := (FillC.start (ts := ts) (fv := fK) o1).lt
  have q2 : w1.heap.size < w2.heap.size := (FillC.start (ts := ts) (fv := fX) o2).lt
  have q3 : w2.heap.size < w3.heap.size := (FillC.start (ts := ts) (fv := fL) o3).lt
  have F1 : Hid (FillC w3 w.heap.size 3 n 0 ts fK) := ((FillC.start o1).same (g2.block _ q1 (by simp))).same (g3.block _ (by omega) (by simp))
  have F2 : Hid (FillC w3 w1.heap.size 9 n 0 ts fX) := (FillC.start o2).same (g3.block _ q2 (by simp))
  have F3 : Hid (FillC w3 w2.heap.size 3 n 0 ts fL) := FillC.start o3
  have hB3 : Below w.heap.size w w3 := ((Below.refl _ _).grown g1 (Nat.le_refl _) (by simp)).trans (((Below.refl _ _).grown g2 z1 (by simp)).trans ((Below.refl _ _).grown g3 (by omega) (by simp)))
  clear o1 o2 o3 g1 g2 g3 B3 B9 BM I3 I9
  have e1 : w.heap.size ≠ w1.heap.size := by omega
  have e2 : w.heap.size ≠ w2.heap.size := by omega
  have e3 : w1.heap.size ≠ w2.heap.size := by omega
  have e4 : w1.heap.size ≠ w.heap.size := by omega
  have e5 : w2.heap.size ≠ w.heap.size := by omega
  have e6 : w2.heap.size ≠ w1.heap.size := by omega
  go_loopw [8] (fun i wr => SplitRel w.heap.size w1.heap.size w2.heap.size n ts w i wr) (fun i _ => n - (intOf i).toNat)
  case atStart => exact ⟨0, Nat.zero_le _, rfl, F1.out, F2.out, F3.out, hB3⟩
  case round =>
    obtain ⟨k, hk, rfl, f1, f2, f3, hbr⟩ := hrel
    have G1 : Hid (FillC wr w.heap.size 3 n k ts fK) := f1
    have G2 : Hid (FillC wr w1.heap.size 9 n k ts fX) := f2
    have G3 : Hid (FillC wr w2.heap.size 3 n k ts fL) := f3
    by_cases hlt : k < n
    · obtain ⟨b, off, rfl, hr0⟩ := hs.row (by omega)
      obtain ⟨t, ht⟩ := getTk hs.len hlt
      have hr := hr0.below hbr hr0.lt
      have hb0 := hr0.lt
      have h0 := hr.c0 k t ht
      have h1 := hr.c1 k t ht
      have h2 := hr.c2 k t ht
      obtain ⟨x1, hx1⟩ := f1.old hlt
      obtain ⟨x2, hx2⟩ := f2.old hlt
      obtain ⟨x3, hx3⟩ := f3.old hlt
      have y1 := f1.free k
      have y2 := f2.free k
      have y3 := f3.free k
      have Ht : Hid (ts[k]? = some t) := ht
      clear f1 f2 f3 ht hr hr0
      have hi : (k : Int) < (n : Int) := by omega
      have e7 : b ≠ w.heap.size := by omega
      have e8 : b ≠ w1.heap.size := by omega
      have e9 : b ≠ w2.heap.size := by omega
      have e10 : w.heap.size ≠ b := by omega
      have e11 : w1.heap.size ≠ b := by omega
      have e12 : w2.heap.size ≠ b := by omega
      go_wp2_with fail
      go_roundw
      case rel =>
        refine ⟨k + 1, by omega, by go_num, ?_, ?_, ?_, ((hbr.setCell (Nat.le_refl _) _).setCell (by simp; omega) _).setCell (by simp; omega) _⟩
        · exact ((G1.out.put Ht.out hlt _ rfl).same (heap_setCell_other _ _ _ _ e1)).same (heap_setCell_other _ _ _ _ e2)
        · exact ((G2.out.same (heap_setCell_other _ _ _ _ e4)).put Ht.out hlt _ rfl).same (heap_setCell_other _ _ _ _ e3)
        · exact ((G3.out.same (heap_setCell_other _ _ _ _ e5)).same (heap_setCell_other _ _ _ _ e6)).put Ht.out hlt _ rfl
      case measure => simp [intOf]; omega
    · have hkn : k = n := by omega
      subst hkn
      have hC : Cols wr w.heap.size w1.heap.size w2.heap.size ts := by
        have hj : ∀ j t, ts[j]? = some t → j < k := fun j t ht => by have := (List.getElem?_eq_some_iff.1 ht).1; have := hs.len; omega
        exact ⟨f1.lt, f2.lt, f3.lt, fun j t ht => f1.cell j t (hj j t ht) ht, fun j t ht => f2.cell j t (hj j t ht) ht, fun j t ht => f3.cell j t (hj j t ht) ht⟩
      have HC : Hid (Cols wr w.heap.size w1.heap.size w2.heap.size ts) := hC
      clear f1 f2 f3 hC
      go_wp2_with fail
      go_ret3
      exact ⟨_, _, _, rfl, HC.out, hbr⟩
end Go.Proofs.Qxb6615028a
