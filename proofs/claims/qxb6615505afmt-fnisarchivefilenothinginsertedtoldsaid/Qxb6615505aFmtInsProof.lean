/-
  A proof of 'Rows.FnIsArchiveFileNothingInsertedToldSaid'. The frame after the guide's worked family Port; the walk is ours.
-/
import Derived.Test.Qxb6615505aFmtIns
import Derived.Test.Qxb6615505aFmtLaid
import Derived.Test.Qxb6615505aFmtCards
import Derived.Test.Qxb6615505aFmtTie
import Derived.ProofKit
import Derived.OpenShut
import Derived.Stop.JoinedAt
import Derived.Stop.JoinedTold
import Derived.Stop.LaidErr
import Derived.SizedLaws
import Derived.Deep.DeepWitnessRef
namespace Go.Proofs.Qxb6615505aFmt.fnIsArchiveFileNothingInserted
open Go.ChangeShapes Go.WideShapes Go.ChangeAt Go.RowKit Go.Kit Go.Lib Go.Shelf
open Go.ChangeMaps (open_string shut_string)
open Go.Extern.Stop Go.Stop Go.Extern
set_option linter.unusedVariables false

theorem own : ownKnob Tryf.prog.godebug = none := by kernel_rfl
theorem witness_row (os : Os) {H : Type} (enc : TypeId × Value → H) :
    (OpenSpec.ofChange Rows.fnIsArchiveFileNothingInsertedSpec).preRow enc Tryf.prog Tryf.f4 Rows.fnIsArchiveFileNothingInsertedRow.domain false Rows.fnIsArchiveFileNothingInsertedRow.laid ((laidWorld Tryf.prog os).forCall (fun _ _ => 0) ⟨#[], #[.int .i64 1, .int .i64 0, .string ⟨#[]⟩], []⟩).memory #[.int .i64 1, .int .i64 0, .string ⟨#[]⟩] := by
  have hw : (DataW.whole enc Tryf.prog ((laidWorld Tryf.prog os).forCall (fun _ _ => 0) ⟨#[], #[.int .i64 1, .int .i64 0, .string ⟨#[]⟩], []⟩).memory Tryf.f4.params.toList (OpenSpec.ofChange Rows.fnIsArchiveFileNothingInsertedSpec).vars false #[.int .i64 1, .int .i64 0, .string ⟨#[]⟩].toList 8).map (fun x => (x.1, x.2.1)) =
      some ([.lit (.int .i64 1), .lit (.int .i64 0), .lit (.string [])], []) := by kernel_rfl
  obtain ⟨⟨x1, x2, x3⟩, hx, hx1⟩ := Option.map_eq_some_iff.1 hw
  simp only [Prod.mk.injEq] at hx1
  obtain ⟨rfl, rfl⟩ := hx1
  exact OpenSpec.preRow_of_cond 8 hx (by kernel_rfl) (fun k hk => by cases hk) (by kernel_rfl) (laid_met os _)

set_option maxRecDepth 100000 in
set_option maxHeartbeats 4000000 in
theorem lifted (os : Os) (started : os.Started) (H : Type) (enc : TypeId × Value → H) :
    ReturnsInTold none {} Tryf.checked os 4 .any Input.okWide ((OpenSpec.ofChange Rows.fnIsArchiveFileNothingInsertedSpec).preRow enc Tryf.prog Tryf.f4 Rows.fnIsArchiveFileNothingInsertedRow.domain false Rows.fnIsArchiveFileNothingInsertedRow.laid) (fun F => ((OpenSpec.ofChange Rows.fnIsArchiveFileNothingInsertedSpec).at F).post enc Tryf.prog Tryf.f4 false true false false) (aloneAtReturn Tryf.prog) nothingAlways := by
  refine returnsInTold_of_row (C := Tryf.checked) (s := OpenSpec.ofChange Rows.fnIsArchiveFileNothingInsertedSpec) (by kernel_rfl) own started (by kernel_rfl) Tryf.func4
    (OpenSpec.witness_stopped_atRef (enc := enc) (C := Tryf.checked) false (laidWorld Tryf.prog os) #[.int .i64 1, .int .i64 0, .string ⟨#[]⟩] rfl (by kernel_rfl) (by kernel_rfl) (by kernel_rfl) (witness_row os enc)) ?_
  intro F W base args ds gs before _ hF hval0 hW _ _ hsz hL _
  have hval : ∀ (j : Nat) t v, Tryf.f4.params[j]? = some t → args[j]? = some v → Value.okWide Tryf.prog W .any base t v := hval0
  have hW' := hW
  obtain ⟨p, q, hA0, hV0, rfl, _, _⟩ := hW
  have hA : DataW.TrodAll enc Tryf.prog W 0 (fun _ => true) true Tryf.f4.params.toList args.toList ds p := hA0
  rw [Tryf.params4] at hA hval
  obtain ⟨v0, vs0, d0, ds0, p0, q0, hargs, rfl, rfl, h0, r0⟩ := trodAll_cons hA
  obtain ⟨v1, vs1, d1, ds1, p1, q1, rfl, rfl, rfl, h1, r1⟩ := trodAll_cons r0
  obtain ⟨v2, vs2, d2, ds2, p2, q2, rfl, rfl, rfl, h2, r2⟩ := trodAll_cons r1
  obtain ⟨rfl, rfl, rfl⟩ := trodAll_nil r2
  obtain rfl : args = #[v0, v1, v2] := by cases args; simp_all
  obtain ⟨x, rfl, rfl, rfl, wx⟩ := open_int Tryf.underlying2 (hval 0 2 v0 rfl rfl) h0
  obtain ⟨a, rfl, rfl, rfl, wa⟩ := open_int Tryf.underlying3 (hval 1 3 v1 rfl rfl) h1
  obtain ⟨s, rfl, rfl, rfl, ws⟩ := open_string Tryf.underlying9 (hval 2 9 v2 rfl rfl) h2
  obtain ⟨rfl, rfl⟩ := trodVars_none hV0
  clear hA0 hV0 hval0
  have hL' : laidMet Tryf.prog Rows.fnIsArchiveFileNothingInsertedRow.laid W := hL
  obtain ⟨a1, t1, hv1, _, _, _⟩ := laid_sentinel (g := 1) hL'.tail.tail.tail (by kernel_rfl) (by kernel_rfl) Tryf.underlying31 (fun u h => typeName_ptr_named (nm := "errors.errorString") (by kernel_rfl) (by kernel_rfl) (by decide) u (h.trans (by decide))) Tryf.underlying53 Tryf.underlying55 rfl rfl Tryf.underlying9 (by kernel_rfl) (by kernel_rfl)
  obtain ⟨a0, t0, hv0, _, _, _⟩ := laid_sentinel (g := 0) hL'.tail.tail.tail.tail (by kernel_rfl) (by kernel_rfl) Tryf.underlying31 (fun u h => typeName_ptr_named (nm := "errors.errorString") (by kernel_rfl) (by kernel_rfl) (by decide) u (h.trans (by decide))) Tryf.underlying53 Tryf.underlying55 rfl rfl Tryf.underlying9 (by kernel_rfl) (by kernel_rfl)
  have hE : Errs W := ⟨⟨_, _, hv0⟩, ⟨_, _, hv1⟩⟩
  refine (law4 F x a s W hF wx (by unfold maxLen at ws; omega) hE).mono fun e W' ⟨he, bel⟩ => ?_
  subst he
  exact ⟨_, rfl, _, _, _, [], _, [], hW', trodAll_mk1 (shut_bool Tryf.underlying4 _), (trodAll_cons_mk (shut_int Tryf.underlying2 wx) (trodAll_cons_mk (shut_int Tryf.underlying3 wa) (trodAll_cons_mk (shut_string Tryf.underlying9 ws) trodAll_mk0))), rfl, bel.frame _, fun h => by cases h⟩

theorem laidOut : laidOutB Tryf.pinned.checked.prog = true := by kernel_rfl
theorem stops : Tryf.pinned.checked.prog.stops = ["fmt.Sprintf"] := by kernel_rfl
theorem stopKnobs : Tryf.pinned.checked.prog.stopKnobs = [] := by kernel_rfl
theorem quiet (os : Os) : Stop.quiet Tryf.pinned.checked.prog os := by
  intro k hk
  rw [stopKnobs] at hk
  cases hk

/-- ████ THE STATEMENT ████ -/
theorem proved : Rows.FnIsArchiveFileNothingInsertedToldSaid :=
  Claim7.holds_of_told_tied_any_at .later 4 Tryf.f4 "fmt.Sprintf" [] [] _ _ _ _ _ (by kernel_rfl) rfl rfl rfl laidOut (by kernel_rfl) rfl ⟨rfl, rfl, rfl, rfl, rfl, rfl, rfl⟩ rfl rfl (by kernel_rfl) (by kernel_rfl) Tryf.func4 (by kernel_rfl)
    (of_decide_eq_true (by kernel_rfl)) (by unfold Func.isWrapper; first | (rw [if_pos (by decide +kernel)]; kernel_rfl) | (rw [if_neg (by decide +kernel)]; exact ⟨rfl, rfl⟩)) stops.symm rfl stopKnobs.symm (by kernel_rfl)
    (by kernel_rfl) (by kernel_rfl) (by kernel_rfl) (by kernel_rfl) (by kernel_rfl) (by kernel_rfl) (by kernel_rfl) (by kernel_rfl) (by kernel_rfl) rfl (by kernel_rfl) rfl rfl
    rfl rfl
    rfl (by kernel_rfl) (by kernel_rfl) (by kernel_rfl) (by decide) (by kernel_rfl) fnIsArchiveFileNothingInserted_row_tie
    (OpenClaim.moreEntering_of (by kernel_rfl) (by kernel_rfl) (by kernel_rfl) (by kernel_rfl) (by kernel_rfl) (by kernel_rfl) (by kernel_rfl) (by kernel_rfl) (by kernel_rfl) (by kernel_rfl))
    ⟨_, WideRow.started_initial, quiet _⟩
    (fun os started _ H enc _ => lifted os started H enc)
end Go.Proofs.Qxb6615505aFmt.fnIsArchiveFileNothingInserted
