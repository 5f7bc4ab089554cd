/-
  The walks: segmentFile, segmentNumber, IsArchiveFile.
-/
import Derived.Test.Qxb6615505aFmtStop
import Derived.WalkKit
import Derived.WalkSpells
import Derived.WalkSmall
import Derived.WalkLawsBesides
import Derived.Stop.Texts
import Derived.Stop.Told
import Derived.Stop.FmtTextKit
import Derived.Stop.FmtTextVerbs
import Derived.Stop.JoinedTold
namespace Go.Proofs.Qxb6615505aFmt
open Go.RowKit Go.Kit Go.Extern.Stop Go.Stop Go.Extern
set_option linter.unusedVariables false
attribute [local go_sem] Tryf.call13 Tryf.guard Tryf.fmt2 Tryf.fmt2r Tryf.op2_100 Tryf.op9_115

/-- What fmt is asked. -/
def reading (x : Int) : List (List UInt8) := [[37, 115, 37, 48, 50, 48, 100, 37, 115], Tryf.shape9, FmtStop.pack pre, Tryf.shape2, digits 8 (x % 18446744073709551616).toNat, Tryf.shape9, FmtStop.pack suf]
theorem t_parse : (FmtText.parse [37, 115, 37, 48, 50, 48, 100, 37, 115]).map FmtText.glue = some [.verb {} 115, .verb { widPresent := true, wid := 20, zero := true } 100, .verb {} 115] := by rfl
theorem t_text (x : Int) (hw : (Lit.int .i64 x).wf = true) : FmtText.text "fmt.Sprintf" (reading x) = some (nm x) := by
  have hi := FmtText.operand_int_at (sh := Tryf.shape2) (k := .i64) rfl rfl x hw
  have h1 := FmtText.operand_str_at (sh := Tryf.shape9) rfl rfl pre (by decide)
  have h2 := FmtText.operand_str_at (sh := Tryf.shape9) rfl rfl suf (by decide)
  rw [reading, FmtText.text_sprintf_glued t_parse (FmtText.operands_cons h1 (FmtText.operands_cons hi (FmtText.operands_cons h2 FmtText.operands_nil)))]
  simp [FmtText.render, FmtText.printArg_d_zero _ 20 _ hw, FmtText.printArg_s_str, nm]

theorem wf_bounds {x : Int} (hw : (Lit.int .i64 x).wf = true) : -9223372036854775808 ≤ x ∧ x ≤ 9223372036854775807 := by
  have e1 : IntKind.i64.min = -9223372036854775808 := rfl
  have e2 : IntKind.i64.max = 9223372036854775807 := rfl
  simpa [Lit.wf, e1, e2] using hw

/-- The name as bytes. -/
def nmB (x : Int) : ByteArray := ⟨(nm x).toArray⟩
theorem ba_ext {a b : ByteArray} (h : a.data.toList = b.data.toList) : a = b := by
  cases a; cases b
  simp at h
  rw [h]
theorem told_nm (F : Interp) (x : Int) (hw : (Lit.int .i64 x).wf = true) : FmtStop.textOf (F.told "fmt.Sprintf" (reading x) 0) = nmB x := by
  obtain ⟨b1, b2⟩ := wf_bounds hw
  apply ba_ext
  rw [textOf_list, told_string F (t_text x hw) (by rw [nm_len b1 b2]; decide)]
  simp [nmB]

def SegPost (x : Int) (w : World) (e : Ending) (w' : World) : Prop := e = .returned (.string (nmB x)) ∧ Below w.heap.size w w'

set_option maxHeartbeats 400000 in
theorem seg_low (F : Interp) (x : Int) (w : World) (hF : F.answers w.tape) :
    Calls Tryf.prog 9 #[.int .i64 x] w fun e w' => e = .returned (.string (FmtStop.textOf (F "fmt.Sprintf" (reading x) 0))) ∧ Below w.heap.size w w' := by
  have hF' := answers_open hF
  go_enter Tryf.func9, Tryf.ntmps9
  go_wp2
  go_ret
  exact ⟨rfl, ((Below.refl _ _).alloc (Nat.le_refl _) _).drew⟩
theorem seg_any (F : Interp) (x : Int) (w : World) (hF : F.told.answers w.tape) (hw : (Lit.int .i64 x).wf = true) : Calls Tryf.prog 9 #[.int .i64 x] w (SegPost x w) := by
  refine (seg_low F.told x w hF).mono ?_
  rintro e w' ⟨rfl, hb⟩
  exact ⟨by rw [told_nm F x hw], hb⟩
theorem zzseg_any (F : Interp) (x : Int) (w : World) (hF : F.told.answers w.tape) (hw : (Lit.int .i64 x).wf = true) : Calls Tryf.prog 6 #[.int .i64 x] w (SegPost x w) := by
  go_enter Tryf.func6, Tryf.ntmps6
  go_wp2_with fail
  refine (seg_any F x _ hF hw).mono ?_
  rintro e w' ⟨rfl, hb⟩
  go_wp2_with fail
  go_ret
  exact ⟨rfl, hb⟩
end Go.Proofs.Qxb6615505aFmt
