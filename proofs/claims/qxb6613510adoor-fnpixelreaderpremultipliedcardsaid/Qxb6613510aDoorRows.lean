/-
  NARROWER THAN 'FOR EVERY INPUT', by the rows' own cells (each row's printed sentence says how): FnPixelReaderNRGBA: maps, laid · FnPixelReaderPremultiplied: maps, laid.
  DERIVED. THE GIVEN ROWS OF THIS SEAT. 2 by the template 'for every input the law returns true; each argument reads behind the call as it read before'; 0 by the template 'total and deterministic' (their statements: Qxb6613510aDoorTotals.lean).
  GIVEN WITH THE SEED: the statements are not yours to turn. If you find one false, say at which input.
  Laid BY PROGRAM, IN A SANDBOX (cutbox-rows.mjs): the forced cells as the released guide's own fill.sh prints them over the translation a9e8b75c2f545ac6… (all of the seat's roots in one cut). By AI agents, Wed Nov 11 2026. No macro, syntax, notation, axiom, sorry.
-/
import Derived.Test.Qxb6613510aDoorChecked
import GoSem.Claim
import GoSem.ClaimJoined
import GoSem.ClaimMapViews
import Derived.JoinedTies
import Derived.KernelRfl
namespace Go.Proofs.Qxb6613510aDoor
/- THE CELL 'sum', in the pinned program and in every row, IS THE sha256 OF THE DUMP (.gsa) THAT Qxb6613510aDoorProg.lean LOADS. Nothing in Lean hashes anything: it is a label: what it is worth is what the hold of that sum in a sandbox is worth. -/
noncomputable def Tryd.pinned : Pinned := { name := "qxb6613510adoor", sum := "a9e8b75c2f545ac6d60db6a5ea3e45b22a00aaa76cb3b3566405ffd915065db1", checked := Tryd.checked }
namespace Rows
def none {H : Type} : Left H := { results := [], args := [] }

/- WHAT THE LISTED PACKAGE-LEVEL VARIABLES READ AS WHEN THE CALL BEGINS. Each datum BY PROGRAM (the guide's laid-datum.mjs) off the statement by which the dump's own 'gosem.cut.vars' lays the variable. In a bare row this is a premise. The card (Qxb6613510aDoorCards.lean) ties it to the program's text. -/
def laid_example_com_predict_then_pack_predict_then_pack_rgbaSamples {H : Type} : DataW H := .map [(.int .u8 0, .slice [.lit (.int .i64 0)] []), (.int .u8 2, .slice [.lit (.int .i64 0), .lit (.int .i64 1), .lit (.int .i64 2)] []), (.int .u8 4, .slice [.lit (.int .i64 0), .lit (.int .i64 3)] []), (.int .u8 6, .slice [.lit (.int .i64 0), .lit (.int .i64 1), .lit (.int .i64 2), .lit (.int .i64 3)] [])]

/-- 'zzlaws_root_b1.FnPixelReaderNRGBA': WHATEVER THE INPUT: true; the input reads as it did. -/
def fnPixelReaderNRGBASpec : ChangeSpec := { name := "fnPixelReaderNRGBA", vars := ["example.com/predict-then-pack/predict-then-pack.rgbaSamples"], fn := fun _ => fun
  | [d1, d2, d3, d4, d5, d6, d7, d8, g1] => { results := [.lit (.bool true)], args := [d1, d2, d3, d4, d5, d6, d7, d8], vars := [g1] }
  | _ => none }
def fnPixelReaderNRGBARow : OpenClaim := { program := "qxb6613510adoor", sum := "a9e8b75c2f545ac6d60db6a5ea3e45b22a00aaa76cb3b3566405ffd915065db1", func := "example.com/predict-then-pack/predict-then-pack/zzlaws_root_b1.FnPixelReaderNRGBA", spec := "fnPixelReaderNRGBA", unfollowed := true, recurses := true, named := ["example.com/predict-then-pack/predict-then-pack.rgbaSamples", "encoding/binary.LittleEndian"], maps := true, apart := false, laid := [("example.com/predict-then-pack/predict-then-pack.rgbaSamples", laid_example_com_predict_then_pack_predict_then_pack_rgbaSamples)] }
def FnPixelReaderNRGBASaid : Prop := fnPixelReaderNRGBARow.holds Tryd.pinned (OpenSpec.ofChange fnPixelReaderNRGBASpec)

/-- ITS FALSE NEIGHBOUR: 'it returns false'. Refute it at one input. -/
def fnPixelReaderNRGBAWrong : ChangeSpec := { name := "fnPixelReaderNRGBA", vars := ["example.com/predict-then-pack/predict-then-pack.rgbaSamples"], fn := fun _ => fun
  | [d1, d2, d3, d4, d5, d6, d7, d8, g1] => { results := [.lit (.bool false)], args := [d1, d2, d3, d4, d5, d6, d7, d8], vars := [g1] }
  | _ => none }
def FnPixelReaderNRGBAWrongFalsely : Prop := fnPixelReaderNRGBARow.holds Tryd.pinned (OpenSpec.ofChange fnPixelReaderNRGBAWrong)

/-- 'zzlaws_root_b1.FnPixelReaderPremultiplied': WHATEVER THE INPUT: true; the input reads as it did. -/
def fnPixelReaderPremultipliedSpec : ChangeSpec := { name := "fnPixelReaderPremultiplied", vars := ["example.com/predict-then-pack/predict-then-pack.rgbaSamples"], fn := fun _ => fun
  | [d1, d2, d3, d4, d5, d6, d7, d8, g1] => { results := [.lit (.bool true)], args := [d1, d2, d3, d4, d5, d6, d7, d8], vars := [g1] }
  | _ => none }
def fnPixelReaderPremultipliedRow : OpenClaim := { program := "qxb6613510adoor", sum := "a9e8b75c2f545ac6d60db6a5ea3e45b22a00aaa76cb3b3566405ffd915065db1", func := "example.com/predict-then-pack/predict-then-pack/zzlaws_root_b1.FnPixelReaderPremultiplied", spec := "fnPixelReaderPremultiplied", unfollowed := true, recurses := true, named := ["example.com/predict-then-pack/predict-then-pack.rgbaSamples", "encoding/binary.LittleEndian"], maps := true, apart := false, laid := [("example.com/predict-then-pack/predict-then-pack.rgbaSamples", laid_example_com_predict_then_pack_predict_then_pack_rgbaSamples)] }
def FnPixelReaderPremultipliedSaid : Prop := fnPixelReaderPremultipliedRow.holds Tryd.pinned (OpenSpec.ofChange fnPixelReaderPremultipliedSpec)

/-- ITS FALSE NEIGHBOUR: 'it returns false'. Refute it at one input. -/
def fnPixelReaderPremultipliedWrong : ChangeSpec := { name := "fnPixelReaderPremultiplied", vars := ["example.com/predict-then-pack/predict-then-pack.rgbaSamples"], fn := fun _ => fun
  | [d1, d2, d3, d4, d5, d6, d7, d8, g1] => { results := [.lit (.bool false)], args := [d1, d2, d3, d4, d5, d6, d7, d8], vars := [g1] }
  | _ => none }
def FnPixelReaderPremultipliedWrongFalsely : Prop := fnPixelReaderPremultipliedRow.holds Tryd.pinned (OpenSpec.ofChange fnPixelReaderPremultipliedWrong)

end Rows
end Go.Proofs.Qxb6613510aDoor
