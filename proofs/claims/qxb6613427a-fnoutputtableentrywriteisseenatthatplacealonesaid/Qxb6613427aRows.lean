/-
  No cell of these rows narrows 'for every input' (looked for: loops, veiled, ifaces, maps, wideKeys, modest, calm, conditions, laid).
  DERIVED. THE GIVEN ROWS OF THIS SEAT. 4 by the template 'for every input the law returns true; each argument reads behind the call as it read before'; 0 by the template 'total and deterministic' (their statements: Qxb6613427aTotals.lean).
  GIVEN WITH THE SEED: the statements are not yours to turn. If you find one false, say at which input.
  Laid BY PROGRAM, IN A SANDBOX (cutbox-rows.mjs): the forced cells as the released guide's own fill.sh prints them over the translation d0ba596dc8875513… (all of the seat's roots in one cut). By AI agents, Wed Nov 11 2026. No macro, syntax, notation, axiom, sorry.
-/
import Derived.Test.Qxb6613427aChecked
import GoSem.Claim
import GoSem.ClaimJoined
import GoSem.ClaimMapViews
import Derived.JoinedTies
import Derived.KernelRfl
namespace Go.Proofs.Qxb6613427a
/- THE CELL 'sum', in the pinned program and in every row, IS THE sha256 OF THE DUMP (.gsa) THAT Qxb6613427aProg.lean LOADS. Nothing in Lean hashes anything: it is a label: what it is worth is what the hold of that sum in a sandbox is worth. -/
noncomputable def Try.pinned : Pinned := { name := "qxb6613427a", sum := "d0ba596dc887551399f545ad0f165c2c18938643ca366ccb645bb810290c5e35", checked := Try.checked }
namespace Rows
def none {H : Type} : Left H := { results := [], args := [] }

/-- 'zzlaws_input_b1.FnIsDigitTenInOneRun': WHATEVER THE INPUT: true; the input reads as it did. -/
def fnIsDigitTenInOneRunSpec : ChangeSpec := { name := "fnIsDigitTenInOneRun", fn := fun _ => fun
  | [d] => { results := [.lit (.bool true)], args := [d] }
  | _ => none }
def fnIsDigitTenInOneRunRow : OpenClaim := { program := "qxb6613427a", sum := "d0ba596dc887551399f545ad0f165c2c18938643ca366ccb645bb810290c5e35", func := "example.com/furrow/furrow/zzlaws_input_b1.FnIsDigitTenInOneRun", spec := "fnIsDigitTenInOneRun", apart := false }
def FnIsDigitTenInOneRunSaid : Prop := fnIsDigitTenInOneRunRow.holds Try.pinned (OpenSpec.ofChange fnIsDigitTenInOneRunSpec)

/-- ITS FALSE NEIGHBOUR: 'it returns false'. Refute it at one input. -/
def fnIsDigitTenInOneRunWrong : ChangeSpec := { name := "fnIsDigitTenInOneRun", fn := fun _ => fun
  | [d] => { results := [.lit (.bool false)], args := [d] }
  | _ => none }
def FnIsDigitTenInOneRunWrongFalsely : Prop := fnIsDigitTenInOneRunRow.holds Try.pinned (OpenSpec.ofChange fnIsDigitTenInOneRunWrong)

/-- 'zzlaws_input_b1.FnIsDigitAcceptsDecimalTextButItsSign': WHATEVER THE INPUT: true; the input reads as it did. -/
def fnIsDigitAcceptsDecimalTextButItsSignSpec : ChangeSpec := { name := "fnIsDigitAcceptsDecimalTextButItsSign", fn := fun _ => fun
  | [d] => { results := [.lit (.bool true)], args := [d] }
  | _ => none }
def fnIsDigitAcceptsDecimalTextButItsSignRow : OpenClaim := { program := "qxb6613427a", sum := "d0ba596dc887551399f545ad0f165c2c18938643ca366ccb645bb810290c5e35", func := "example.com/furrow/furrow/zzlaws_input_b1.FnIsDigitAcceptsDecimalTextButItsSign", spec := "fnIsDigitAcceptsDecimalTextButItsSign", apart := false }
def FnIsDigitAcceptsDecimalTextButItsSignSaid : Prop := fnIsDigitAcceptsDecimalTextButItsSignRow.holds Try.pinned (OpenSpec.ofChange fnIsDigitAcceptsDecimalTextButItsSignSpec)

/-- ITS FALSE NEIGHBOUR: 'it returns false'. Refute it at one input. -/
def fnIsDigitAcceptsDecimalTextButItsSignWrong : ChangeSpec := { name := "fnIsDigitAcceptsDecimalTextButItsSign", fn := fun _ => fun
  | [d] => { results := [.lit (.bool false)], args := [d] }
  | _ => none }
def FnIsDigitAcceptsDecimalTextButItsSignWrongFalsely : Prop := fnIsDigitAcceptsDecimalTextButItsSignRow.holds Try.pinned (OpenSpec.ofChange fnIsDigitAcceptsDecimalTextButItsSignWrong)

/-- 'zzlaws_input_b1.FnOutputTableEntryIsThePlaceThAdded': WHATEVER THE INPUT: true; the input reads as it did. -/
def fnOutputTableEntryIsThePlaceThAddedSpec : ChangeSpec := { name := "fnOutputTableEntryIsThePlaceThAdded", fn := fun _ => fun
  | [d1, d2] => { results := [.lit (.bool true)], args := [d1, d2] }
  | _ => none }
def fnOutputTableEntryIsThePlaceThAddedRow : OpenClaim := { program := "qxb6613427a", sum := "d0ba596dc887551399f545ad0f165c2c18938643ca366ccb645bb810290c5e35", func := "example.com/furrow/furrow/zzlaws_input_b1.FnOutputTableEntryIsThePlaceThAdded", spec := "fnOutputTableEntryIsThePlaceThAdded", apart := false }
def FnOutputTableEntryIsThePlaceThAddedSaid : Prop := fnOutputTableEntryIsThePlaceThAddedRow.holds Try.pinned (OpenSpec.ofChange fnOutputTableEntryIsThePlaceThAddedSpec)

/-- ITS FALSE NEIGHBOUR: 'it returns false'. Refute it at one input. -/
def fnOutputTableEntryIsThePlaceThAddedWrong : ChangeSpec := { name := "fnOutputTableEntryIsThePlaceThAdded", fn := fun _ => fun
  | [d1, d2] => { results := [.lit (.bool false)], args := [d1, d2] }
  | _ => none }
def FnOutputTableEntryIsThePlaceThAddedWrongFalsely : Prop := fnOutputTableEntryIsThePlaceThAddedRow.holds Try.pinned (OpenSpec.ofChange fnOutputTableEntryIsThePlaceThAddedWrong)

/-- 'zzlaws_input_b1.FnOutputTableEntryWriteIsSeenAtThatPlaceAlone': WHATEVER THE INPUT: true; the input reads as it did. -/
def fnOutputTableEntryWriteIsSeenAtThatPlaceAloneSpec : ChangeSpec := { name := "fnOutputTableEntryWriteIsSeenAtThatPlaceAlone", fn := fun _ => fun
  | [d1, d2, d3, d4] => { results := [.lit (.bool true)], args := [d1, d2, d3, d4] }
  | _ => none }
def fnOutputTableEntryWriteIsSeenAtThatPlaceAloneRow : OpenClaim := { program := "qxb6613427a", sum := "d0ba596dc887551399f545ad0f165c2c18938643ca366ccb645bb810290c5e35", func := "example.com/furrow/furrow/zzlaws_input_b1.FnOutputTableEntryWriteIsSeenAtThatPlaceAlone", spec := "fnOutputTableEntryWriteIsSeenAtThatPlaceAlone", apart := false }
def FnOutputTableEntryWriteIsSeenAtThatPlaceAloneSaid : Prop := fnOutputTableEntryWriteIsSeenAtThatPlaceAloneRow.holds Try.pinned (OpenSpec.ofChange fnOutputTableEntryWriteIsSeenAtThatPlaceAloneSpec)

/-- ITS FALSE NEIGHBOUR: 'it returns false'. Refute it at one input. -/
def fnOutputTableEntryWriteIsSeenAtThatPlaceAloneWrong : ChangeSpec := { name := "fnOutputTableEntryWriteIsSeenAtThatPlaceAlone", fn := fun _ => fun
  | [d1, d2, d3, d4] => { results := [.lit (.bool false)], args := [d1, d2, d3, d4] }
  | _ => none }
def FnOutputTableEntryWriteIsSeenAtThatPlaceAloneWrongFalsely : Prop := fnOutputTableEntryWriteIsSeenAtThatPlaceAloneRow.holds Try.pinned (OpenSpec.ofChange fnOutputTableEntryWriteIsSeenAtThatPlaceAloneWrong)

end Rows
end Go.Proofs.Qxb6613427a
