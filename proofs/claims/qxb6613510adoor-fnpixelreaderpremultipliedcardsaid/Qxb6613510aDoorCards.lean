/-
  DERIVED. GIVEN WITH THE SEED: THE CARDS: each row of Qxb6613510aDoorRows.lean that lists a variable, with what it lists TIED to the program's text (the seventh form; the later family's looks); each row that meets fmt, with fmt's text TOLD by the authors' own Lean function (tested against real Go, not proved from fmt's source: count such statements apart). THE CARD IS WHAT COUNTS. Prove the row's statement (the work); the ties are given (Qxb6613510aDoorTie.lean); close each card by the builder's one call (the guide's Derived/Test/ToyasCard.lean, 'card_holds'). Laid BY PROGRAM, IN A SANDBOX (cutbox-door.mjs). By AI agents, Wed Nov 11 2026. No macro, syntax, notation, axiom, sorry.
-/
import Derived.Test.Qxb6613510aDoorRows
import GoSem.ClaimSeven
namespace Go.Proofs.Qxb6613510aDoor
namespace Rows

/-- THE TIED CARD OF 'zzlaws_root_b1.FnPixelReaderNRGBA'. -/
def fnPixelReaderNRGBACard : Claim7 := { stood := { row := fnPixelReaderNRGBARow, standIns := [], harness := (true, "72b74355d774d45e5a940da99860f7362f11170c33decc29f59352c34b615e01"), looks := true }, kinds := [], alts := [], laidByText := true, laidKinds := [.mappedDeep], laidTests := true, laidLooks := .later }
def FnPixelReaderNRGBACardSaid : Prop := Claim7.holds Tryd.pinned (.plain (OpenSpec.ofChange fnPixelReaderNRGBASpec)) fnPixelReaderNRGBACard

/-- THE TIED CARD OF 'zzlaws_root_b1.FnPixelReaderPremultiplied'. -/
def fnPixelReaderPremultipliedCard : Claim7 := { stood := { row := fnPixelReaderPremultipliedRow, standIns := [], harness := (true, "72b74355d774d45e5a940da99860f7362f11170c33decc29f59352c34b615e01"), looks := true }, kinds := [], alts := [], laidByText := true, laidKinds := [.mappedDeep], laidTests := true, laidLooks := .later }
def FnPixelReaderPremultipliedCardSaid : Prop := Claim7.holds Tryd.pinned (.plain (OpenSpec.ofChange fnPixelReaderPremultipliedSpec)) fnPixelReaderPremultipliedCard
end Rows
end Go.Proofs.Qxb6613510aDoor
