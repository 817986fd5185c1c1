/-
  No cell of these rows narrows 'for every input' (looked for: loops, veiled, ifaces, maps, wideKeys, modest, calm, conditions, laid).
  DERIVED. THE GIVEN ROWS OF THIS SEAT. 4 by the template 'for every input the law returns true; each argument reads behind the call as it read before'; 0 by the template 'total and deterministic' (their statements: Qxb6613510aTotals.lean).
  GIVEN WITH THE SEED: the statements are not yours to turn. If you find one false, say at which input.
  Laid BY PROGRAM, IN A SANDBOX (cutbox-rows.mjs): the forced cells as the released guide's own fill.sh prints them over the translation fa084b16617f888f… (all of the seat's roots in one cut). By AI agents, Wed Nov 11 2026. No macro, syntax, notation, axiom, sorry.
-/
import Derived.Test.Qxb6613510aChecked
import GoSem.Claim
import GoSem.ClaimJoined
import GoSem.ClaimMapViews
import Derived.JoinedTies
import Derived.KernelRfl
namespace Go.Proofs.Qxb6613510a
/- THE CELL 'sum', in the pinned program and in every row, IS THE sha256 OF THE DUMP (.gsa) THAT Qxb6613510aProg.lean LOADS. Nothing in Lean hashes anything: it is a label: what it is worth is what the hold of that sum in a sandbox is worth. -/
noncomputable def Try.pinned : Pinned := { name := "qxb6613510a", sum := "fa084b16617f888f94bd56765b2403dba528137ec11de45af7a3abade56a8a92", checked := Try.checked }
namespace Rows
def none {H : Type} : Left H := { results := [], args := [] }

/-- 'zzlaws_root_b1.FnIsCriticalCaseTwins': WHATEVER THE INPUT: true; the input reads as it did. -/
def fnIsCriticalCaseTwinsSpec : ChangeSpec := { name := "fnIsCriticalCaseTwins", fn := fun _ => fun
  | [d] => { results := [.lit (.bool true)], args := [d] }
  | _ => none }
def fnIsCriticalCaseTwinsRow : OpenClaim := { program := "qxb6613510a", sum := "fa084b16617f888f94bd56765b2403dba528137ec11de45af7a3abade56a8a92", func := "example.com/predict-then-pack/predict-then-pack/zzlaws_root_b1.FnIsCriticalCaseTwins", spec := "fnIsCriticalCaseTwins", apart := false }
def FnIsCriticalCaseTwinsSaid : Prop := fnIsCriticalCaseTwinsRow.holds Try.pinned (OpenSpec.ofChange fnIsCriticalCaseTwinsSpec)

/-- ITS FALSE NEIGHBOUR: 'it returns false'. Refute it at one input. -/
def fnIsCriticalCaseTwinsWrong : ChangeSpec := { name := "fnIsCriticalCaseTwins", fn := fun _ => fun
  | [d] => { results := [.lit (.bool false)], args := [d] }
  | _ => none }
def FnIsCriticalCaseTwinsWrongFalsely : Prop := fnIsCriticalCaseTwinsRow.holds Try.pinned (OpenSpec.ofChange fnIsCriticalCaseTwinsWrong)

/-- 'zzlaws_root_b1.FnIsCriticalFirstLetterDecides': WHATEVER THE INPUT: true; the input reads as it did. -/
def fnIsCriticalFirstLetterDecidesSpec : ChangeSpec := { name := "fnIsCriticalFirstLetterDecides", fn := fun _ => fun
  | [d1, d2] => { results := [.lit (.bool true)], args := [d1, d2] }
  | _ => none }
def fnIsCriticalFirstLetterDecidesRow : OpenClaim := { program := "qxb6613510a", sum := "fa084b16617f888f94bd56765b2403dba528137ec11de45af7a3abade56a8a92", func := "example.com/predict-then-pack/predict-then-pack/zzlaws_root_b1.FnIsCriticalFirstLetterDecides", spec := "fnIsCriticalFirstLetterDecides", apart := false }
def FnIsCriticalFirstLetterDecidesSaid : Prop := fnIsCriticalFirstLetterDecidesRow.holds Try.pinned (OpenSpec.ofChange fnIsCriticalFirstLetterDecidesSpec)

/-- ITS FALSE NEIGHBOUR: 'it returns false'. Refute it at one input. -/
def fnIsCriticalFirstLetterDecidesWrong : ChangeSpec := { name := "fnIsCriticalFirstLetterDecides", fn := fun _ => fun
  | [d1, d2] => { results := [.lit (.bool false)], args := [d1, d2] }
  | _ => none }
def FnIsCriticalFirstLetterDecidesWrongFalsely : Prop := fnIsCriticalFirstLetterDecidesRow.holds Try.pinned (OpenSpec.ofChange fnIsCriticalFirstLetterDecidesWrong)

/-- 'zzlaws_root_b1.FnBoxMeanScaleFree': WHATEVER THE INPUT: true; the input reads as it did. -/
def fnBoxMeanScaleFreeSpec : ChangeSpec := { name := "fnBoxMeanScaleFree", fn := fun _ => fun
  | [d1, d2, d3] => { results := [.lit (.bool true)], args := [d1, d2, d3] }
  | _ => none }
def fnBoxMeanScaleFreeRow : OpenClaim := { program := "qxb6613510a", sum := "fa084b16617f888f94bd56765b2403dba528137ec11de45af7a3abade56a8a92", func := "example.com/predict-then-pack/predict-then-pack/zzlaws_root_b1.FnBoxMeanScaleFree", spec := "fnBoxMeanScaleFree", apart := false }
def FnBoxMeanScaleFreeSaid : Prop := fnBoxMeanScaleFreeRow.holds Try.pinned (OpenSpec.ofChange fnBoxMeanScaleFreeSpec)

/-- ITS FALSE NEIGHBOUR: 'it returns false'. Refute it at one input. -/
def fnBoxMeanScaleFreeWrong : ChangeSpec := { name := "fnBoxMeanScaleFree", fn := fun _ => fun
  | [d1, d2, d3] => { results := [.lit (.bool false)], args := [d1, d2, d3] }
  | _ => none }
def FnBoxMeanScaleFreeWrongFalsely : Prop := fnBoxMeanScaleFreeRow.holds Try.pinned (OpenSpec.ofChange fnBoxMeanScaleFreeWrong)

/-- 'zzlaws_root_b1.FnBoxMeanShift': WHATEVER THE INPUT: true; the input reads as it did. -/
def fnBoxMeanShiftSpec : ChangeSpec := { name := "fnBoxMeanShift", fn := fun _ => fun
  | [d1, d2, d3] => { results := [.lit (.bool true)], args := [d1, d2, d3] }
  | _ => none }
def fnBoxMeanShiftRow : OpenClaim := { program := "qxb6613510a", sum := "fa084b16617f888f94bd56765b2403dba528137ec11de45af7a3abade56a8a92", func := "example.com/predict-then-pack/predict-then-pack/zzlaws_root_b1.FnBoxMeanShift", spec := "fnBoxMeanShift", apart := false }
def FnBoxMeanShiftSaid : Prop := fnBoxMeanShiftRow.holds Try.pinned (OpenSpec.ofChange fnBoxMeanShiftSpec)

/-- ITS FALSE NEIGHBOUR: 'it returns false'. Refute it at one input. -/
def fnBoxMeanShiftWrong : ChangeSpec := { name := "fnBoxMeanShift", fn := fun _ => fun
  | [d1, d2, d3] => { results := [.lit (.bool false)], args := [d1, d2, d3] }
  | _ => none }
def FnBoxMeanShiftWrongFalsely : Prop := fnBoxMeanShiftRow.holds Try.pinned (OpenSpec.ofChange fnBoxMeanShiftWrong)

end Rows
end Go.Proofs.Qxb6613510a
