/-
  No cell of these rows narrows 'for every input' (looked for: loops, veiled, ifaces, maps, wideKeys, modest, calm, conditions, laid).
  DERIVED. THE GIVEN ROWS OF THIS SEAT. 2 by the template 'for every input the law returns true; each argument reads behind the call as it read before'; 0 by the template 'total and deterministic' (their statements: Qxb6615031aTotals.lean).
  GIVEN WITH THE SEED: the statements are not yours to turn. If you find one false, say at which input.
  Laid BY PROGRAM, IN A SANDBOX (cutbox-rows.mjs): the forced cells as the released guide's own fill.sh prints them over the translation af52d54784f23446… (all of the seat's roots in one cut). By AI agents, Wed Nov 11 2026. No macro, syntax, notation, axiom, sorry.
-/
import Derived.Test.Qxb6615031aChecked
import GoSem.Claim
import GoSem.ClaimJoined
import GoSem.ClaimMapViews
import Derived.JoinedTies
import Derived.KernelRfl
namespace Go.Proofs.Qxb6615031a
/- THE CELL 'sum', in the pinned program and in every row, IS THE sha256 OF THE DUMP (.gsa) THAT Qxb6615031aProg.lean LOADS. Nothing in Lean hashes anything: it is a label: what it is worth is what the hold of that sum in a sandbox is worth. -/
noncomputable def Try.pinned : Pinned := { name := "qxb6615031a", sum := "af52d54784f234464cf21e73d8c06c9b5452cc74c5c9aa8a8c6bbce7ded1e5a4", checked := Try.checked }
namespace Rows
def none {H : Type} : Left H := { results := [], args := [] }

/-- 'zzlaws_dispatch_b1.FnEndedSplitsAtAnyCut': WHATEVER THE INPUT: true; the input reads as it did. -/
def fnEndedSplitsAtAnyCutSpec : ChangeSpec := { name := "fnEndedSplitsAtAnyCut", fn := fun _ => fun
  | [d1, d2, d3, d4, d5, d6, d7] => { results := [.lit (.bool true)], args := [d1, d2, d3, d4, d5, d6, d7] }
  | _ => none }
def fnEndedSplitsAtAnyCutRow : OpenClaim := { program := "qxb6615031a", sum := "af52d54784f234464cf21e73d8c06c9b5452cc74c5c9aa8a8c6bbce7ded1e5a4", func := "example.com/taskcrier/taskcrier/zzlaws_dispatch_b1.FnEndedSplitsAtAnyCut", spec := "fnEndedSplitsAtAnyCut", apart := false }
def FnEndedSplitsAtAnyCutSaid : Prop := fnEndedSplitsAtAnyCutRow.holds Try.pinned (OpenSpec.ofChange fnEndedSplitsAtAnyCutSpec)

/-- ITS FALSE NEIGHBOUR: 'it returns false'. Refute it at one input. -/
def fnEndedSplitsAtAnyCutWrong : ChangeSpec := { name := "fnEndedSplitsAtAnyCut", fn := fun _ => fun
  | [d1, d2, d3, d4, d5, d6, d7] => { results := [.lit (.bool false)], args := [d1, d2, d3, d4, d5, d6, d7] }
  | _ => none }
def FnEndedSplitsAtAnyCutWrongFalsely : Prop := fnEndedSplitsAtAnyCutRow.holds Try.pinned (OpenSpec.ofChange fnEndedSplitsAtAnyCutWrong)

/-- 'zzlaws_dispatch_b1.FnEndedOneMorePiece': WHATEVER THE INPUT: true; the input reads as it did. -/
def fnEndedOneMorePieceSpec : ChangeSpec := { name := "fnEndedOneMorePiece", fn := fun _ => fun
  | [d1, d2, d3, d4, d5, d6, d7, d8, d9, d10, d11] => { results := [.lit (.bool true)], args := [d1, d2, d3, d4, d5, d6, d7, d8, d9, d10, d11] }
  | _ => none }
def fnEndedOneMorePieceRow : OpenClaim := { program := "qxb6615031a", sum := "af52d54784f234464cf21e73d8c06c9b5452cc74c5c9aa8a8c6bbce7ded1e5a4", func := "example.com/taskcrier/taskcrier/zzlaws_dispatch_b1.FnEndedOneMorePiece", spec := "fnEndedOneMorePiece", apart := false }
def FnEndedOneMorePieceSaid : Prop := fnEndedOneMorePieceRow.holds Try.pinned (OpenSpec.ofChange fnEndedOneMorePieceSpec)

/-- ITS FALSE NEIGHBOUR: 'it returns false'. Refute it at one input. -/
def fnEndedOneMorePieceWrong : ChangeSpec := { name := "fnEndedOneMorePiece", fn := fun _ => fun
  | [d1, d2, d3, d4, d5, d6, d7, d8, d9, d10, d11] => { results := [.lit (.bool false)], args := [d1, d2, d3, d4, d5, d6, d7, d8, d9, d10, d11] }
  | _ => none }
def FnEndedOneMorePieceWrongFalsely : Prop := fnEndedOneMorePieceRow.holds Try.pinned (OpenSpec.ofChange fnEndedOneMorePieceWrong)

end Rows
end Go.Proofs.Qxb6615031a
