/-
  The leaves: the token predicates of both sides.
-/
import Derived.Test.Qxb6615028aRows
import Derived.Test.Qxb6615028aPlain
import Derived.WalkKit
import Derived.ProofKit
import Derived.OpenShut
import Derived.Deep.RegionHeld3
import Derived.Deep.DrawnRows
namespace Go.Proofs.Qxb6615028a
open Go.ChangeShapes Go.WideShapes Go.ChangeAt Go.RowKit
set_option linter.unusedVariables false

theorem ret_bool {a b : Bool} (h : a = b) : Ending.returned (.bool a) = .returned (.bool b) := by rw [h]
theorem ret_int {k : IntKind} {a b : Int} (h : a = b) : Ending.returned (.int k a) = .returned (.int k b) := by rw [h]

/-- A token as a value. -/
abbrev tv (t : Tk) : Value := .agg #[.int .i64 t.kind, .string t.text, .int .i64 t.line]

theorem isWord_any (t : Tk) (s : ByteArray) (w : World) :
    Calls Try.prog 18 #[tv t, .string s] w fun e w' => e = .returned (.bool (isW t s.toList)) ∧ Below w.heap.size w w' := by
  by_cases h : t.kind = 0
  · have h' : (t.kind == 0) = true := by simp [h]
    have hr : Hid (isW t s.toList = (t.text.toList == s.toList)) := by simp [Hid, isW, h]
    clear h
    go_enter Try.func18, Try.ntmps18
    go_wp2
    go_ret
    exact ⟨ret_bool hr.out.symm, (Below.refl _ _).alloc (Nat.le_refl _) _⟩
  · have h' : (t.kind == 0) = false := by simp [h]
    have hr : Hid (isW t s.toList = false) := by simp [Hid, isW, h]
    go_enter Try.func18, Try.ntmps18
    go_wp2
    go_ret
    exact ⟨ret_bool hr.out.symm, (Below.refl _ _).alloc (Nat.le_refl _) _⟩

theorem isOp_any (t : Tk) (s : ByteArray) (w : World) :
    Calls Try.prog 21 #[tv t, .string s] w fun e w' => e = .returned (.bool (isO t s.toList)) ∧ Below w.heap.size w w' := by
  by_cases h : t.kind = 5
  · have h' : (t.kind == 5) = true := by simp [h]
    have hr : Hid (isO t s.toList = (t.text.toList == s.toList)) := by simp [Hid, isO, h]
    clear h
    go_enter Try.func21, Try.ntmps21
    go_wp2
    go_ret
    exact ⟨ret_bool hr.out.symm, (Below.refl _ _).alloc (Nat.le_refl _) _⟩
  · have h' : (t.kind == 5) = false := by simp [h]
    have hr : Hid (isO t s.toList = false) := by simp [Hid, isO, h]
    go_enter Try.func21, Try.ntmps21
    go_wp2
    go_ret
    exact ⟨ret_bool hr.out.symm, (Below.refl _ _).alloc (Nat.le_refl _) _⟩

theorem is_any (t : Tk) (s : ByteArray) (w : World) :
    Calls Try.prog 27 #[tv t, .string s] w fun e w' => e = .returned (.bool (isW t s.toList)) ∧ Below w.heap.size w w' := by
  by_cases h : t.kind = 0
  · have h' : (t.kind == 0) = true := by simp [h]
    have hr : Hid (isW t s.toList = (t.text.toList == s.toList)) := by simp [Hid, isW, h]
    clear h
    go_enter Try.func27, Try.ntmps27
    go_wp2
    go_ret
    exact ⟨ret_bool hr.out.symm, (Below.refl _ _).alloc (Nat.le_refl _) _⟩
  · have h' : (t.kind == 0) = false := by simp [h]
    have hr : Hid (isW t s.toList = false) := by simp [Hid, isW, h]
    go_enter Try.func27, Try.ntmps27
    go_wp2
    go_ret
    exact ⟨ret_bool hr.out.symm, (Below.refl _ _).alloc (Nat.le_refl _) _⟩

theorem tIsOp_any (t : Tk) (s : ByteArray) (w : World) :
    Calls Try.prog 33 #[tv t, .string s] w fun e w' => e = .returned (.bool (isO t s.toList)) ∧ Below w.heap.size w w' := by
  by_cases h : t.kind = 5
  · have h' : (t.kind == 5) = true := by simp [h]
    have hr : Hid (isO t s.toList = (t.text.toList == s.toList)) := by simp [Hid, isO, h]
    clear h
    go_enter Try.func33, Try.ntmps33
    go_wp2
    go_ret
    exact ⟨ret_bool hr.out.symm, (Below.refl _ _).alloc (Nat.le_refl _) _⟩
  · have h' : (t.kind == 5) = false := by simp [h]
    have hr : Hid (isO t s.toList = false) := by simp [Hid, isO, h]
    go_enter Try.func33, Try.ntmps33
    go_wp2
    go_ret
    exact ⟨ret_bool hr.out.symm, (Below.refl _ _).alloc (Nat.le_refl _) _⟩

theorem namePart_any (t : Tk) (w : World) :
    Calls Try.prog 17 #[tv t] w fun e w' => e = .returned (.bool (namePart t)) ∧ Below w.heap.size w w' := by
  by_cases h : t.kind = 0
  · have h' : (t.kind == 0) = true := by simp [h]
    have hr : Hid (namePart t = true) := by simp [Hid, namePart, h]
    clear h
    go_enter Try.func17, Try.ntmps17
    go_wp2
    go_ret
    exact ⟨ret_bool hr.out.symm, (Below.refl _ _).alloc (Nat.le_refl _) _⟩
  · have h' : (t.kind == 0) = false := by simp [h]
    have hr : Hid (namePart t = (t.kind == 1)) := by simp [Hid, namePart, h]
    go_enter Try.func17, Try.ntmps17
    go_wp2
    go_ret
    exact ⟨ret_bool hr.out.symm, (Below.refl _ _).alloc (Nat.le_refl _) _⟩

theorem toL40 : (ByteArray.mk #[40]).toList = [40] := by decide +kernel
theorem toL91 : (ByteArray.mk #[91]).toList = [91] := by decide +kernel
theorem toL41 : (ByteArray.mk #[41]).toList = [41] := by decide +kernel
theorem toL93 : (ByteArray.mk #[93]).toList = [93] := by decide +kernel
theorem toL46 : (ByteArray.mk #[46]).toList = [46] := by decide +kernel
theorem toL44 : (ByteArray.mk #[44]).toList = [44] := by decide +kernel
theorem toLInto : (ByteArray.mk #[105, 110, 116, 111]).toList = cInto := by decide +kernel
theorem toLInsert : (ByteArray.mk #[105, 110, 115, 101, 114, 116]).toList = cInsert := by decide +kernel
theorem toLMerge : (ByteArray.mk #[109, 101, 114, 103, 101]).toList = cMerge := by decide +kernel
theorem toLStrict : (ByteArray.mk #[115, 116, 114, 105, 99, 116]).toList = cStrict := by decide +kernel

/-- The same, at a constant and with its answer under a name. -/
theorem isWord_is (t : Tk) (s : ByteArray) (c : List UInt8) (b : Bool) (w : World) (hs : s.toList = c) (hb : isW t c = b) :
    Calls Try.prog 18 #[tv t, .string s] w fun e w' => e = .returned (.bool b) ∧ Below w.heap.size w w' := by
  subst hs; subst hb; exact isWord_any t s w
theorem isOp_is (t : Tk) (s : ByteArray) (c : List UInt8) (b : Bool) (w : World) (hs : s.toList = c) (hb : isO t c = b) :
    Calls Try.prog 21 #[tv t, .string s] w fun e w' => e = .returned (.bool b) ∧ Below w.heap.size w w' := by
  subst hs; subst hb; exact isOp_any t s w
theorem is_is (t : Tk) (s : ByteArray) (c : List UInt8) (b : Bool) (w : World) (hs : s.toList = c) (hb : isW t c = b) :
    Calls Try.prog 27 #[tv t, .string s] w fun e w' => e = .returned (.bool b) ∧ Below w.heap.size w w' := by
  subst hs; subst hb; exact is_any t s w
theorem tIsOp_is (t : Tk) (s : ByteArray) (c : List UInt8) (b : Bool) (w : World) (hs : s.toList = c) (hb : isO t c = b) :
    Calls Try.prog 33 #[tv t, .string s] w fun e w' => e = .returned (.bool b) ∧ Below w.heap.size w w' := by
  subst hs; subst hb; exact tIsOp_any t s w
theorem namePart_is (t : Tk) (b : Bool) (w : World) (hb : namePart t = b) :
    Calls Try.prog 17 #[tv t] w fun e w' => e = .returned (.bool b) ∧ Below w.heap.size w w' := by
  subst hb; exact namePart_any t w

theorem bcell {W w1 : World} (hb : Below W.heap.size W w1) : (∀ b o, b < W.heap.size → w1.cell? ⟨b, o, none⟩ = W.cell? ⟨b, o, none⟩) ∧ (∀ b o, b < W.heap.size → w1.frozen? ⟨b, o, none⟩ = W.frozen? ⟨b, o, none⟩) :=
  ⟨fun b o h => hb.cell (p := ⟨b, o, none⟩) h, fun b o h => hb.frozen (p := ⟨b, o, none⟩) h⟩

/-- A function that boxes a token and asks twice: 'isOp(t, x) || isOp(t, y)'. -/
theorem opener_is (t : Tk) (b : Bool) (w : World) (hb : opener t = b) :
    Calls Try.prog 19 #[tv t] w fun e w' => e = .returned (.bool b) ∧ Below w.heap.size w w' := by
  obtain ⟨b1, h1⟩ : ∃ b1, isO t [40] = b1 := ⟨_, rfl⟩
  obtain ⟨b2, h2⟩ : ∃ b2, isO t [91] = b2 := ⟨_, rfl⟩
  have H1 : Hid (isO t [40] = b1) := h1
  have H2 : Hid (isO t [91] = b2) := h2
  have HB : Hid (opener t = b) := hb
  have HR : Hid ((b1 || b2) = b) := by rw [← h1, ← h2]; exact hb
  clear h1 h2 hb
  go_enter Try.func19, Try.ntmps19
  go_wp2_with fail
  refine (isOp_is t _ _ b1 _ toL40 H1.out).mono ?_
  rintro e w1 ⟨rfl, hb1⟩
  cases b1
  · obtain ⟨hc1, hf1⟩ := bcell hb1
    go_wp2_with fail
    refine (isOp_is t _ _ b2 _ toL91 H2.out).mono ?_
    rintro e w2 ⟨rfl, hb2⟩
    go_wp2_with fail
    go_ret
    exact ⟨ret_bool (by simpa using HR.out), ((Below.refl _ _).alloc (Nat.le_refl _) _).trans ((hb1.mono (by simp)).trans (hb2.mono (by have := hb1.size; simp at this; omega)))⟩
  · go_wp2_with fail
    go_ret
    exact ⟨ret_bool (by simpa using HR.out), ((Below.refl _ _).alloc (Nat.le_refl _) _).trans (hb1.mono (by simp))⟩

theorem closer_is (t : Tk) (b : Bool) (w : World) (hb : closer t = b) :
    Calls Try.prog 20 #[tv t] w fun e w' => e = .returned (.bool b) ∧ Below w.heap.size w w' := by
  obtain ⟨b1, h1⟩ : ∃ b1, isO t [41] = b1 := ⟨_, rfl⟩
  obtain ⟨b2, h2⟩ : ∃ b2, isO t [93] = b2 := ⟨_, rfl⟩
  have H1 : Hid (isO t [41] = b1) := h1
  have H2 : Hid (isO t [93] = b2) := h2
  have HB : Hid (closer t = b) := hb
  have HR : Hid ((b1 || b2) = b) := by rw [← h1, ← h2]; exact hb
  clear h1 h2 hb
  go_enter Try.func20, Try.ntmps20
  go_wp2_with fail
  refine (isOp_is t _ _ b1 _ toL41 H1.out).mono ?_
  rintro e w1 ⟨rfl, hb1⟩
  cases b1
  · obtain ⟨hc1, hf1⟩ := bcell hb1
    go_wp2_with fail
    refine (isOp_is t _ _ b2 _ toL93 H2.out).mono ?_
    rintro e w2 ⟨rfl, hb2⟩
    go_wp2_with fail
    go_ret
    exact ⟨ret_bool (by simpa using HR.out), ((Below.refl _ _).alloc (Nat.le_refl _) _).trans ((hb1.mono (by simp)).trans (hb2.mono (by have := hb1.size; simp at this; omega)))⟩
  · go_wp2_with fail
    go_ret
    exact ⟨ret_bool (by simpa using HR.out), ((Below.refl _ _).alloc (Nat.le_refl _) _).trans (hb1.mono (by simp))⟩

theorem opens_is (t : Tk) (b : Bool) (w : World) (hb : opener t = b) :
    Calls Try.prog 23 #[tv t] w fun e w' => e = .returned (.bool b) ∧ Below w.heap.size w w' := by
  obtain ⟨b1, h1⟩ : ∃ b1, isO t [40] = b1 := ⟨_, rfl⟩
  obtain ⟨b2, h2⟩ : ∃ b2, isO t [91] = b2 := ⟨_, rfl⟩
  have H1 : Hid (isO t [40] = b1) := h1
  have H2 : Hid (isO t [91] = b2) := h2
  have HB : Hid (opener t = b) := hb
  have HR : Hid ((b1 || b2) = b) := by rw [← h1, ← h2]; exact hb
  clear h1 h2 hb
  go_enter Try.func23, Try.ntmps23
  go_wp2_with fail
  refine (tIsOp_is t _ _ b1 _ toL40 H1.out).mono ?_
  rintro e w1 ⟨rfl, hb1⟩
  cases b1
  · obtain ⟨hc1, hf1⟩ := bcell hb1
    go_wp2_with fail
    refine (tIsOp_is t _ _ b2 _ toL91 H2.out).mono ?_
    rintro e w2 ⟨rfl, hb2⟩
    go_wp2_with fail
    go_ret
    exact ⟨ret_bool (by simpa using HR.out), ((Below.refl _ _).alloc (Nat.le_refl _) _).trans ((hb1.mono (by simp)).trans (hb2.mono (by have := hb1.size; simp at this; omega)))⟩
  · go_wp2_with fail
    go_ret
    exact ⟨ret_bool (by simpa using HR.out), ((Below.refl _ _).alloc (Nat.le_refl _) _).trans (hb1.mono (by simp))⟩
end Go.Proofs.Qxb6615028a
