/- The tied card of FnDataURL, out of its row and of the given tie. -/
import Derived.Test.YtjhglhckdjnkgaaDoorRowFnDataURL
import Derived.Test.YtjhglhckdjnkgaaDoorCards
import Derived.Test.YtjhglhckdjnkgaaDoorTie
import Derived.SevenTiedAt
namespace Go.Proofs.YtjhglhckdjnkgaaDoor
open Go
theorem fnDataURLCard_holds : Rows.FnDataURLCardSaid :=
  Claim7.holds_tied_plain_at .later [] [.data, .pinned] true (true, "e4d980f32bcc7996473fd9b8964c42b725d33683276f58809a1ce825bdebbc25") false
    fnDataURL.proved (fun _ h => by cases h) (by kernel_rfl) (fun _ h => by cases h) fnDataURL_row_tie rfl ⟨rfl, rfl⟩ (by kernel_rfl) rfl
    (fun f fn hf hfn => by
      obtain rfl : f = 4 := Option.some.inj ((show Tryd.prog.funcNamed "given.example/pub-frisket/laws.FnDataURL" = some 4 by kernel_rfl).symm.trans hf) |>.symm
      obtain rfl : fn = Tryd.f4 := (Option.some.inj (Tryd.func4.symm.trans hfn)).symm
      exact ⟨by kernel_rfl, fun j t ht => by
        rw [Tryd.params4] at ht
        have hm : t ∈ [9, 9] := by simpa using Array.mem_of_getElem? ht
        have hall : ([9, 9].all fun u => !Tryd.prog.wantsStandIn u) = true := by kernel_rfl
        exact (show Tryd.prog.wantsStandIn t = false by simpa using List.all_eq_true.1 hall t hm)⟩)
    (by kernel_rfl)
end Go.Proofs.YtjhglhckdjnkgaaDoor
