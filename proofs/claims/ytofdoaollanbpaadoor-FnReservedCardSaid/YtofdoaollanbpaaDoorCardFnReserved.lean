/- The tied card of FnReserved, out of its row and of the given tie. -/
import Derived.Test.YtofdoaollanbpaaDoorRowFnReserved
import Derived.Test.YtofdoaollanbpaaDoorCards
import Derived.Test.YtofdoaollanbpaaDoorTie
import Derived.SevenTiedAt
namespace Go.Proofs.YtofdoaollanbpaaDoor
open Go
theorem fnReservedCard_holds : Rows.FnReservedCardSaid :=
  Claim7.holds_tied_plain_at .later [] [.data, .mapped, .mapped] true (true, "5148bfdc9950ae25f0ac82ea23cff133406e2c4f5357062412970f07493f7a2e") false
    fnReserved.proved (fun _ h => by cases h) (by kernel_rfl) (fun _ h => by cases h) fnReserved_row_tie rfl ⟨rfl, rfl⟩ (by kernel_rfl) rfl
    (fun f fn hf hfn => by
      obtain rfl : f = 3 := Option.some.inj ((show Tryd.prog.funcNamed "given.example/pub-frisket/laws.FnReserved" = some 3 by kernel_rfl).symm.trans hf) |>.symm
      obtain rfl : fn = Tryd.f3 := (Option.some.inj (Tryd.func3.symm.trans hfn)).symm
      exact ⟨by kernel_rfl, fun j t ht => by
        rw [Tryd.params3] at ht
        have hm : t ∈ [22, 23] := by simpa using Array.mem_of_getElem? ht
        have hall : ([22, 23].all fun u => !Tryd.prog.wantsStandIn u) = true := by kernel_rfl
        exact (show Tryd.prog.wantsStandIn t = false by simpa using List.all_eq_true.1 hall t hm)⟩)
    (by kernel_rfl)
end Go.Proofs.YtofdoaollanbpaaDoor
