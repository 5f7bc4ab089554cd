/-
  No cell of these rows narrows 'for every input' (looked for: loops, veiled, ifaces, maps, wideKeys, modest, calm, conditions, laid).
  DERIVED. THE GIVEN ROWS OF THIS SEAT. 2 by the template 'for every input the law returns true; each argument reads behind the call as it read before'; 0 by the template 'total and deterministic' (their statements: Qxb6614848aTotals.lean).
  GIVEN WITH THE SEED: the statements are not yours to turn. If you find one false, say at which input.
  Laid BY PROGRAM, IN A SANDBOX (cutbox-rows.mjs): the forced cells as the released guide's own fill.sh prints them over the translation 54e3db3b662823f3… (all of the seat's roots in one cut). By AI agents, Wed Nov 11 2026. No macro, syntax, notation, axiom, sorry.
-/
import Derived.Test.Qxb6614848aChecked
import GoSem.Claim
import GoSem.ClaimJoined
import GoSem.ClaimMapViews
import Derived.JoinedTies
import Derived.KernelRfl
namespace Go.Proofs.Qxb6614848a
/- THE CELL 'sum', in the pinned program and in every row, IS THE sha256 OF THE DUMP (.gsa) THAT Qxb6614848aProg.lean LOADS. Nothing in Lean hashes anything: it is a label: what it is worth is what the hold of that sum in a sandbox is worth. -/
noncomputable def Try.pinned : Pinned := { name := "qxb6614848a", sum := "54e3db3b662823f32826f12b4a9931fcbd59a59d26a2c876ed3b031469cbb900", checked := Try.checked }
namespace Rows
def none {H : Type} : Left H := { results := [], args := [] }

/-- 'zzlaws_root_b1.FnDateCompareAntisymmetricByDayNumber': WHATEVER THE INPUT: true; the input reads as it did. -/
def fnDateCompareAntisymmetricByDayNumberSpec : ChangeSpec := { name := "fnDateCompareAntisymmetricByDayNumber", fn := fun _ => fun
  | [d1, d2, d3, d4, d5, d6] => { results := [.lit (.bool true)], args := [d1, d2, d3, d4, d5, d6] }
  | _ => none }
def fnDateCompareAntisymmetricByDayNumberRow : OpenClaim := { program := "qxb6614848a", sum := "54e3db3b662823f32826f12b4a9931fcbd59a59d26a2c876ed3b031469cbb900", func := "example.com/vestline/vestline/zzlaws_root_b1.FnDateCompareAntisymmetricByDayNumber", spec := "fnDateCompareAntisymmetricByDayNumber", apart := false }
def FnDateCompareAntisymmetricByDayNumberSaid : Prop := fnDateCompareAntisymmetricByDayNumberRow.holds Try.pinned (OpenSpec.ofChange fnDateCompareAntisymmetricByDayNumberSpec)

/-- ITS FALSE NEIGHBOUR: 'it returns false'. Refute it at one input. -/
def fnDateCompareAntisymmetricByDayNumberWrong : ChangeSpec := { name := "fnDateCompareAntisymmetricByDayNumber", fn := fun _ => fun
  | [d1, d2, d3, d4, d5, d6] => { results := [.lit (.bool false)], args := [d1, d2, d3, d4, d5, d6] }
  | _ => none }
def FnDateCompareAntisymmetricByDayNumberWrongFalsely : Prop := fnDateCompareAntisymmetricByDayNumberRow.holds Try.pinned (OpenSpec.ofChange fnDateCompareAntisymmetricByDayNumberWrong)

/-- 'zzlaws_root_b1.FnDateCompareTransitiveByDayNumber': WHATEVER THE INPUT: true; the input reads as it did. -/
def fnDateCompareTransitiveByDayNumberSpec : ChangeSpec := { name := "fnDateCompareTransitiveByDayNumber", fn := fun _ => fun
  | [d1, d2, d3, d4, d5, d6, d7, d8, d9] => { results := [.lit (.bool true)], args := [d1, d2, d3, d4, d5, d6, d7, d8, d9] }
  | _ => none }
def fnDateCompareTransitiveByDayNumberRow : OpenClaim := { program := "qxb6614848a", sum := "54e3db3b662823f32826f12b4a9931fcbd59a59d26a2c876ed3b031469cbb900", func := "example.com/vestline/vestline/zzlaws_root_b1.FnDateCompareTransitiveByDayNumber", spec := "fnDateCompareTransitiveByDayNumber", apart := false }
def FnDateCompareTransitiveByDayNumberSaid : Prop := fnDateCompareTransitiveByDayNumberRow.holds Try.pinned (OpenSpec.ofChange fnDateCompareTransitiveByDayNumberSpec)

/-- ITS FALSE NEIGHBOUR: 'it returns false'. Refute it at one input. -/
def fnDateCompareTransitiveByDayNumberWrong : ChangeSpec := { name := "fnDateCompareTransitiveByDayNumber", fn := fun _ => fun
  | [d1, d2, d3, d4, d5, d6, d7, d8, d9] => { results := [.lit (.bool false)], args := [d1, d2, d3, d4, d5, d6, d7, d8, d9] }
  | _ => none }
def FnDateCompareTransitiveByDayNumberWrongFalsely : Prop := fnDateCompareTransitiveByDayNumberRow.holds Try.pinned (OpenSpec.ofChange fnDateCompareTransitiveByDayNumberWrong)

end Rows
end Go.Proofs.Qxb6614848a
