/-
  The cursor: done, peek, rest, isOp.
-/
import Derived.Test.Qxb6615028aMem
import Derived.Deep.DeepCutAuto
import Derived.Deep.CutBlock
import Derived.Deep.QuietTactic
import Derived.BigQuiet
import Derived.WalkSmall
namespace Go.Proofs.Qxb6615028a
open Go.ChangeShapes Go.WideShapes Go.ChangeAt Go.RowKit
set_option linter.unusedVariables false
attribute [local go_sem ↓] Go.wp_at_zero Go.wp_at_succ

/-- A cursor in block cb over the tokens ts of block b, at pos. -/
structure Cur (w : World) (cb b n : Nat) (ts : List Tk) (pos : Nat) : Prop where
  blk : w.heap[cb]? = some (.cells #[.slice (some ⟨b, 0, none⟩) n n, .int .i64 pos] 47 (0, 0))
  row : TokRow w b 0 ts
  len : ts.length = n
  ne : b ≠ cb
  le : pos ≤ n
  small : n ≤ 1048576

theorem Cur.lt {w : World} {cb b n pos : Nat} {ts : List Tk} (h : Cur w cb b n ts pos) : cb < w.heap.size := lt_of_block h.blk
theorem Cur.k0 {w : World} {cb b n pos : Nat} {ts : List Tk} (h : Cur w cb b n ts pos) : w.cell? ⟨cb, 0, none⟩ = some (.slice (some ⟨b, 0, none⟩) n n) := by simp [World.cell?, h.blk]
theorem Cur.k1 {w : World} {cb b n pos : Nat} {ts : List Tk} (h : Cur w cb b n ts pos) : w.cell? ⟨cb, 1, none⟩ = some (.int .i64 pos) := by simp [World.cell?, h.blk]
theorem Cur.f1 {w : World} {cb b n pos : Nat} {ts : List Tk} (h : Cur w cb b n ts pos) : w.frozen? ⟨cb, 1, none⟩ = false := by simp [World.frozen?, h.blk]
theorem Cur.below {w w' : World} {cb b n pos : Nat} {ts : List Tk} (h : Cur w cb b n ts pos) (hb : Below w.heap.size w w') : Cur w' cb b n ts pos :=
  ⟨(hb.block cb h.lt).trans h.blk, h.row.below hb h.row.lt, h.len, h.ne, h.le, h.small⟩
/-- The cursor's place is stored. -/
theorem Cur.put {w : World} {cb b n pos p : Nat} {ts : List Tk} (h : Cur w cb b n ts pos) (hp : p ≤ n) (u : Value) (hu : u = .int .i64 p) : Cur (w.setCell ⟨cb, 1, none⟩ u) cb b n ts p := by
  subst hu
  refine ⟨?_, ?_, h.len, h.ne, hp, h.small⟩
  · rw [heap_setCell_same w cb 1 _ 47 _ h.blk]; simp
  · have hb : ∀ o, (w.setCell ⟨cb, 1, none⟩ (.int .i64 p)).cell? ⟨b, o, none⟩ = w.cell? ⟨b, o, none⟩ := fun o => World.cell?_of_block (by exact heap_setCell_other w ⟨cb, 1, none⟩ b _ h.ne)
    exact ⟨by simpa [World.setCell] using h.row.lt, fun j t e => (hb _).trans (h.row.c0 j t e), fun j t e => (hb _).trans (h.row.c1 j t e), fun j t e => (hb _).trans (h.row.c2 j t e), h.row.sz⟩

/-- w' is w with new blocks, and writes to block cb alone. -/
theorem grow_refl (w : World) (r : Option Nat) : w.grownBy w r := ⟨rfl, rfl, rfl, Nat.le_refl _, fun _ _ _ => rfl⟩
theorem grow_trans {a b c : World} {r : Option Nat} (h : a.grownBy b r) (k : b.grownBy c r) : a.grownBy c r :=
  ⟨k.os.trans h.os, k.tape.trans h.tape, k.output.trans h.output, Nat.le_trans h.size k.size, fun i hi hr => (k.block i (Nat.lt_of_lt_of_le hi h.size) hr).trans (h.block i hi hr)⟩
theorem grow_below {a b : World} {r : Option Nat} (h : Below a.heap.size a b) : a.grownBy b r := ⟨h.os, h.tape, h.output, h.size, fun i hi _ => h.block i hi⟩
theorem grow_set (a : World) (cb o : Nat) (u : Value) : a.grownBy (a.setCell ⟨cb, o, none⟩ u) (some cb) :=
  ⟨rfl, rfl, rfl, by simp [World.setCell], fun i hi hr => heap_setCell_other a ⟨cb, o, none⟩ i u (fun e => hr (by simp [e]))⟩
/-- From what lies below B: new blocks, and writes to a block from B on. -/
theorem below_grow {a b c : World} {B cb : Nat} (h : Below B a b) (k : b.grownBy c (some cb)) (hB : B ≤ b.heap.size) (hc : B ≤ cb) : Below B a c :=
  h.grown k hB (fun i e => by simp at e; omega)

theorem done_any (cb b n pos : Nat) (ts : List Tk) (r : Bool) (w : World) (h : Cur w cb b n ts pos) (hr : decide (n ≤ pos) = r) :
    Calls Try.prog 25 #[.pointer (some ⟨cb, 0, none⟩)] w fun e w' => e = .returned (.bool r) ∧ Below w.heap.size w w' := by
  have k0 := h.k0
  have k1 := h.k1
  have HR : Hid (decide (n ≤ pos) = r) := hr
  clear h hr
  go_enter Try.func25, Try.ntmps25
  go_wp2
  go_quiet (fail)
  go_wp2
  go_ret
  exact ⟨ret_bool HR.out, below_drewN (Below.refl _ _) _⟩

/-- The token at pos, or the token of no kind and no text. -/
def noTk : Tk := ⟨-1, ByteArray.mk #[], 0⟩
def tokAt (ts : List Tk) (pos : Nat) : Tk := ts.getD pos noTk
theorem tokAt_some {ts : List Tk} {pos : Nat} {t : Tk} (h : ts[pos]? = some t) : tokAt ts pos = t := by simp [tokAt, List.getD, h]
theorem tokAt_none {ts : List Tk} {pos : Nat} (h : ts.length ≤ pos) : tokAt ts pos = noTk := by simp [tokAt, List.getD, List.getElem?_eq_none h]

set_option maxHeartbeats 1000000 in
theorem peek_some (cb b n pos : Nat) (ts : List Tk) (t : Tk) (w : World) (h : Cur w cb b n ts pos) (ht : ts[pos]? = some t) :
    Calls Try.prog 26 #[.pointer (some ⟨cb, 0, none⟩)] w fun e w' => e = .returned (tv t) ∧ Below w.heap.size w w' := by
  have hlt : pos < n := by have := (List.getElem?_eq_some_iff.1 ht).1; have := h.len; omega
  have hsm := h.small
  have H : Hid (Cur w cb b n ts pos) := h
  have hcb := h.lt
  have hbw := h.row.lt
  have c0 := h.row.c0 pos t ht
  have c1 := h.row.c1 pos t ht
  have c2 := h.row.c2 pos t ht
  have k0 := h.k0
  have k1 := h.k1
  rw [Nat.zero_add] at c0 c1 c2
  have hi0 : (0 : Int) ≤ (pos : Int) := by omega
  have hi : (pos : Int) < (n : Int) := by omega
  clear h ht
  go_enter Try.func26, Try.ntmps26
  go_wp2_with fail
  have hA : Below w.heap.size w (w.alloc (.cells #[.int .i64 0, .string (ByteArray.mk #[]), .int .i64 0] 43)) := (Below.refl _ _).alloc (Nat.le_refl _) _
  refine (done_any cb b n pos ts false _ (H.out.below hA) (by simp; omega)).mono ?_
  rintro e w1 ⟨rfl, hb1⟩
  have hB1 : Below w.heap.size w w1 := hA.trans (hb1.mono (by simp))
  have m0 := (hB1.cell (p := ⟨cb, 0, none⟩) hcb).trans k0
  have m1 := (hB1.cell (p := ⟨cb, 1, none⟩) hcb).trans k1
  have d0 := (hB1.cell (p := ⟨b, pos * 3, none⟩) hbw).trans c0
  have d1 := (hB1.cell (p := ⟨b, pos * 3 + 1, none⟩) hbw).trans c1
  have d2 := (hB1.cell (p := ⟨b, pos * 3 + 2, none⟩) hbw).trans c2
  have r0 : w1.cell? ⟨w.heap.size, 0, none⟩ = some (.int .i64 0) := by rw [hb1.cell (by simp)]; simp [go_sem]
  have r1 : w1.cell? ⟨w.heap.size, 1, none⟩ = some (.string (ByteArray.mk #[])) := by rw [hb1.cell (by simp)]; simp [go_sem]
  have r2 : w1.cell? ⟨w.heap.size, 2, none⟩ = some (.int .i64 0) := by rw [hb1.cell (by simp)]; simp [go_sem]
  have f0 : ∀ o, w1.frozen? ⟨w.heap.size, o, none⟩ = false := fun o => by rw [hb1.frozen (by simp)]; exact (frozen?_alloc_cells _ _ _ _).trans (by simp [World.frozen?])
  have e1 : cb ≠ w.heap.size := by omega
  have e2 : w.heap.size ≠ cb := by omega
  have e3 : b ≠ w.heap.size := by omega
  have e4 : w.heap.size ≠ b := by omega
  go_wp2_with fail
  go_region_held3 (fun w' => w'.cell? ⟨cb, 0, none⟩ = some (.slice (some ⟨b, 0, none⟩) n n) ∧ w'.cell? ⟨cb, 1, none⟩ = some (.int .i64 pos) ∧
      w'.cell? ⟨b, pos * 3, none⟩ = some (.int .i64 t.kind) ∧ w'.cell? ⟨b, pos * 3 + 1, none⟩ = some (.string t.text) ∧ w'.cell? ⟨b, pos * 3 + 2, none⟩ = some (.int .i64 t.line)) (go_keep) (fail)
  all_goals go_wp2
  exact bodyPost_ret (v := tv t) (by simp [results, Try.results26, go_sem, r0, r1, r2]) rfl ⟨rfl, ((((hB1.setCell (Nat.le_refl _) _).setCell (Nat.le_refl _) _).setCell (Nat.le_refl _) _).drew)⟩

set_option maxHeartbeats 1000000 in
theorem peek_none (cb b n pos : Nat) (ts : List Tk) (w : World) (h : Cur w cb b n ts pos) (hp : n ≤ pos) :
    Calls Try.prog 26 #[.pointer (some ⟨cb, 0, none⟩)] w fun e w' => e = .returned (tv noTk) ∧ Below w.heap.size w w' := by
  have H : Hid (Cur w cb b n ts pos) := h
  clear h
  go_enter Try.func26, Try.ntmps26
  go_wp2_with fail
  have hA : Below w.heap.size w (w.alloc (.cells #[.int .i64 0, .string (ByteArray.mk #[]), .int .i64 0] 43)) := (Below.refl _ _).alloc (Nat.le_refl _) _
  refine (done_any cb b n pos ts true _ (H.out.below hA) (by simp; omega)).mono ?_
  rintro e w1 ⟨rfl, hb1⟩
  have hB1 : Below w.heap.size w w1 := hA.trans (hb1.mono (by simp))
  have r0 : w1.cell? ⟨w.heap.size, 0, none⟩ = some (.int .i64 0) := by rw [hb1.cell (by simp)]; simp [go_sem]
  have r1 : w1.cell? ⟨w.heap.size, 1, none⟩ = some (.string (ByteArray.mk #[])) := by rw [hb1.cell (by simp)]; simp [go_sem]
  have r2 : w1.cell? ⟨w.heap.size, 2, none⟩ = some (.int .i64 0) := by rw [hb1.cell (by simp)]; simp [go_sem]
  have f0 : ∀ o, w1.frozen? ⟨w.heap.size, o, none⟩ = false := fun o => by rw [hb1.frozen (by simp)]; exact (frozen?_alloc_cells _ _ _ _).trans (by simp [World.frozen?])
  go_wp2_with fail
  exact bodyPost_ret (v := tv noTk) (by simp [results, Try.results26, go_sem, r0, r1, r2, noTk]) rfl ⟨rfl, (((hB1.setCell (Nat.le_refl _) _).setCell (Nat.le_refl _) _).setCell (Nat.le_refl _) _)⟩

theorem peek_any (cb b n pos : Nat) (ts : List Tk) (t : Tk) (w : World) (h : Cur w cb b n ts pos) (ht : tokAt ts pos = t) :
    Calls Try.prog 26 #[.pointer (some ⟨cb, 0, none⟩)] w fun e w' => e = .returned (tv t) ∧ Below w.heap.size w w' := by
  by_cases hp : n ≤ pos
  · rw [tokAt_none (by have := h.len; omega)] at ht
    subst ht
    exact peek_none cb b n pos ts w h hp
  · obtain ⟨t', ht'⟩ := getTk h.len (show pos < n by omega)
    rw [tokAt_some ht'] at ht
    subst ht
    exact peek_some cb b n pos ts t' w h ht'

/-- What is left of the tokens: where there is none, the address is not told. -/
def RestPost (b n pos : Nat) (w : World) (e : Ending) (w' : World) : Prop := ∃ o, e = .returned (.slice (some ⟨b, o, none⟩) (n - pos) (n - pos)) ∧ (pos < n → o = pos * 3) ∧ Below w.heap.size w w'
theorem RestPost.mk {b n pos : Nat} {w w' : World} (hb : Below w.heap.size w w') : RestPost b n pos w (.returned (.slice (some ⟨b, pos * 3, none⟩) (n - pos) (n - pos))) w' := ⟨_, rfl, fun _ => rfl, hb⟩
theorem RestPost.nil {b n : Nat} {w w' : World} (hb : Below w.heap.size w w') : RestPost b n n w (.returned (.slice (some ⟨b, 0, none⟩) 0 0)) w' := ⟨0, by simp, by omega, hb⟩

theorem rest_any (cb b n pos : Nat) (ts : List Tk) (w : World) (h : Cur w cb b n ts pos) :
    Calls Try.prog 32 #[.pointer (some ⟨cb, 0, none⟩)] w (RestPost b n pos w) := by
  have k0 := h.k0
  have k1 := h.k1
  have hle := h.le
  have hsm := h.small
  have hi : (pos : Int) ≤ (n : Int) := by omega
  clear h
  by_cases hp : n = pos
  · subst hp
    go_enter Try.func32, Try.ntmps32
    go_wp2
    go_quiet (fail)
    go_wp2
    go_ret
    exact RestPost.nil (below_drewN (Below.refl _ _) _)
  · go_enter Try.func32, Try.ntmps32
    go_wp2
    go_quiet (fail)
    go_wp2
    go_ret
    exact RestPost.mk (below_drewN (Below.refl _ _) _)

/-- What a step of the cursor leaves: it stands at p; new blocks, and its own block written. -/
def Step (cb b n : Nat) (ts : List Tk) (p : Nat) (w w' : World) : Prop := Cur w' cb b n ts p ∧ w.grownBy w' (some cb)

theorem below_undrew {w w' : World} (h : Below w.drew.heap.size w.drew w') : Below w.heap.size w w' := ⟨h.os, h.tape, h.output, h.size, h.block⟩
theorem wrap_same (n : Int) (h0 : -9223372036854775808 ≤ n) (h1 : n ≤ 9223372036854775807) : IntKind.i64.wrap n = n := by rw [IntKind.wrap_i64]; omega

theorem noTk_isO (c : List UInt8) : isO noTk c = false := by simp [isO, noTk]
theorem noTk_isW (c : List UInt8) : isW noTk c = false := by simp [isW, noTk]
theorem noTk_namePart : namePart noTk = false := by simp [namePart, noTk]
theorem noTk_opener : opener noTk = false := by simp [opener, noTk_isO]
theorem tokAt_lt {ts : List Tk} {n pos : Nat} (hl : ts.length = n) (h : tokAt ts pos ≠ noTk) : pos < n := by
  by_cases hp : n ≤ pos
  · exact absurd (tokAt_none (by omega)) h
  · omega

theorem cIsOp_any (cb b n pos : Nat) (ts : List Tk) (s : ByteArray) (c : List UInt8) (r : Bool) (w : World) (h : Cur w cb b n ts pos) (hs : s.toList = c) (hr : isO (tokAt ts pos) c = r) :
    Calls Try.prog 30 #[.pointer (some ⟨cb, 0, none⟩), .string s] w fun e w' => e = .returned (.bool r) ∧ Step cb b n ts (if r = true then pos + 1 else pos) w w' := by
  have H : Hid (Cur w cb b n ts pos) := h
  have HR : Hid (isO (tokAt ts pos) c = r) := hr
  have hlt : r = true → pos < n := fun hrt => tokAt_lt h.len (fun e => by rw [e, noTk_isO] at hr; rw [← hr] at hrt; cases hrt)
  have hsm := h.small
  clear h hr
  go_enter Try.func30, Try.ntmps30
  go_wp2_with fail
  refine (peek_any cb b n pos ts (tokAt ts pos) _ H.out rfl).mono ?_
  rintro e w1 ⟨rfl, hb1⟩
  go_wp2_with fail
  refine (tIsOp_is (tokAt ts pos) _ c r _ hs HR.out).mono ?_
  rintro e w2 ⟨rfl, hb2⟩
  have C2 := (H.out.below hb1).below hb2
  have HC : Hid (Cur w2 cb b n ts pos) := C2
  have k1 := C2.k1
  have f1 := C2.f1
  have hB : Below w.heap.size w w2 := hb1.trans (hb2.mono hb1.size)
  clear C2
  cases r
  · go_wp2_with fail
    go_ret
    exact ⟨rfl, HC.out, grow_below hB⟩
  · have hlt' := hlt rfl
    clear hlt
    go_wp2_with fail
    go_ret
    exact ⟨rfl, HC.out.put (by omega) _ (by go_num), grow_trans (grow_below hB) (grow_set _ _ _ _)⟩
end Go.Proofs.Qxb6615028a
