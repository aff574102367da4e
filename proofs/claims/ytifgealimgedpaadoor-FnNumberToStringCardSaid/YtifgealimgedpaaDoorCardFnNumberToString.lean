/- The tied card of FnNumberToString, out of its row and of the given tie. -/
import Derived.Test.YtifgealimgedpaaDoorRowFnNumberToString
import Derived.Test.YtifgealimgedpaaDoorCards
import Derived.Test.YtifgealimgedpaaDoorTie
import Derived.SevenTiedAt
namespace Go.Proofs.YtifgealimgedpaaDoor
open Go
theorem fnNumberToStringCard_holds : Rows.FnNumberToStringCardSaid :=
  Claim7.holds_tied_plain_at .later [] [.data, .data, .data] true (true, "091997a43104a7b1186e18ac8ef28aec79909631ec8c287e2a8350a80f70177d") false
    fnNumberToString.proved (fun _ h => by cases h) (by kernel_rfl) (fun _ h => by cases h) fnNumberToString_row_tie rfl ⟨rfl, rfl⟩ (by kernel_rfl) rfl
    (fun f fn hf hfn => by
      obtain rfl : f = 3 := Option.some.inj ((show Tryd.prog.funcNamed "given.example/pub-frisket/laws.FnNumberToString" = some 3 by kernel_rfl).symm.trans hf) |>.symm
      obtain rfl : fn = Tryd.f3 := (Option.some.inj (Tryd.func3.symm.trans hfn)).symm
      exact ⟨by kernel_rfl, fun j t ht => by
        rw [Tryd.params3] at ht
        have hm : t ∈ [22, 3] := by simpa using Array.mem_of_getElem? ht
        have hall : ([22, 3].all fun u => !Tryd.prog.wantsStandIn u) = true := by kernel_rfl
        exact (show Tryd.prog.wantsStandIn t = false by simpa using List.all_eq_true.1 hall t hm)⟩)
    (by kernel_rfl)
end Go.Proofs.YtifgealimgedpaaDoor
