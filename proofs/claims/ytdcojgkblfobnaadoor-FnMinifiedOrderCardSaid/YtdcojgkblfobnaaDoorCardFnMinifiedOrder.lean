/- The tied card of FnMinifiedOrder, out of its row and of the given tie. -/
import Derived.Test.YtdcojgkblfobnaaDoorRowFnMinifiedOrder
import Derived.Test.YtdcojgkblfobnaaDoorCards
import Derived.Test.YtdcojgkblfobnaaDoorTie
import Derived.SevenTiedAt
namespace Go.Proofs.YtdcojgkblfobnaaDoor
open Go
theorem fnMinifiedOrderCard_holds : Rows.FnMinifiedOrderCardSaid :=
  Claim7.holds_tied_plain_at .later [] [.wider] true (true, "7e2b56dd68f4895c9db95de8921a6e64ed15572fe151027cf73f8b4783d6944c") false
    fnMinifiedOrder.proved (fun _ h => by cases h) (by kernel_rfl) (fun _ h => by cases h) fnMinifiedOrder_row_tie rfl ⟨rfl, rfl⟩ (by kernel_rfl) rfl
    (fun f fn hf hfn => by
      obtain rfl : f = 4 := Option.some.inj ((show Tryd.prog.funcNamed "given.example/pub-frisket/laws.FnMinifiedOrder" = some 4 by kernel_rfl).symm.trans hf) |>.symm
      obtain rfl : fn = Tryd.f4 := (Option.some.inj (Tryd.func4.symm.trans hfn)).symm
      exact ⟨by kernel_rfl, fun j t ht => by
        rw [Tryd.params4] at ht
        have hm : t ∈ [3, 3] := by simpa using Array.mem_of_getElem? ht
        have hall : ([3, 3].all fun u => !Tryd.prog.wantsStandIn u) = true := by kernel_rfl
        exact (show Tryd.prog.wantsStandIn t = false by simpa using List.all_eq_true.1 hall t hm)⟩)
    (by kernel_rfl)
end Go.Proofs.YtdcojgkblfobnaaDoor
