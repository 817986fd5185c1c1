import Derived.Test.Qxb6613510aDoorRow
import Derived.Test.Qxb6613510aDoorTie
import Derived.Test.Qxb6613510aDoorCards
import Derived.SevenTiedAt
namespace Go.Proofs.Qxb6613510aDoor
open Go

/-- The tied card of the law: the row's proof and the given tie. -/
theorem card_holds : Rows.FnPixelReaderPremultipliedCardSaid :=
  Claim7.holds_tied_plain_at .later [] [.mappedDeep] true Rows.fnPixelReaderPremultipliedCard.stood.harness true
    row_holds (fun _ h => by cases h) (by kernel_rfl) (fun _ h => by cases h) fnPixelReaderPremultiplied_row_tie rfl ⟨rfl, rfl⟩ (by kernel_rfl) rfl
    (fun f fn hf hfn => by
      obtain rfl : f = 4 := Option.some.inj ((show Tryd.prog.funcNamed Rows.fnPixelReaderPremultipliedRow.func = some 4 by kernel_rfl).symm.trans hf) |>.symm
      obtain rfl : fn = Tryd.f4 := (Option.some.inj (Tryd.func4.symm.trans hfn)).symm
      exact ⟨by kernel_rfl, fun j t ht => by
        rw [Tryd.params4] at ht
        have hm : t ∈ [22, 3, 3, 3, 5, 5, 22, 22] := by simpa using Array.mem_of_getElem? ht
        have hall : ([22, 3, 3, 3, 5, 5, 22, 22].all fun u => !Tryd.prog.wantsStandIn u) = true := by kernel_rfl
        exact (show Tryd.prog.wantsStandIn t = false by simpa using List.all_eq_true.1 hall t hm)⟩)
    (by kernel_rfl)
end Go.Proofs.Qxb6613510aDoor
