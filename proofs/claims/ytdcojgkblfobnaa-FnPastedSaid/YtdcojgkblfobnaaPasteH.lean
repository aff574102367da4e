/- The walk of FnPasted, as the row hands on its slice. -/
import Derived.Test.YtdcojgkblfobnaaPasteG
import Derived.OpenShut
namespace Go.Proofs.Ytdcojgkblfobnaa.Paste
open Go.RowKit Go.Proofs.Ytdcojgkblfobnaa.Aid
theorem getD_take (z : List ByteArray) (n i : Nat) (h : i < n) : (z.take n).getD i ByteArray.empty = z.getD i ByteArray.empty := by
  rw [List.getD, List.getD, List.getElem?_take_of_lt h]
theorem law_row (A : Option Addr) (len cap : Nat) (z : List ByteArray) (nl : Bool) (w : World)
    (h : (A = none ∧ len = 0 ∧ cap = 0 ∧ z = []) ∨ ∃ x, A = some x ∧ len ≤ cap ∧ cap ≤ maxLen ∧ z.length = cap ∧ (∀ i, i < z.length → w.cell? (x.add i) = some (.string (z.getD i ByteArray.empty))) ∧ ∀ s ∈ z, s.size ≤ maxLen) :
    Calls Try.prog 12 #[.slice A len cap, .bool nl] w fun e w' => e = .returned (.bool true) ∧ Below w.heap.size w w' := by
  rcases h with ⟨rfl, rfl, rfl, rfl⟩ | ⟨x, rfl, h1, h2, h3, h4, h5⟩
  · exact law none 0 0 [] nl w (fun i hi => by omega) rfl (by omega) (fun i hi => by simp at hi)
  · obtain ⟨b, o, v⟩ := x
    refine law _ len cap (z.take len) nl w (fun i hi => ?_) (by rw [List.length_take]; omega) (by simp only [maxLen] at h2; omega) (fun i hi => ?_)
    · have hv : v = none := by
        have g0 := h4 0 (by omega)
        simpa [Addr.add] using World.cell?_spot g0
      subst hv
      have hc := h4 i (by omega)
      rw [add_at] at hc
      exact ⟨b, o, rfl, World.block_lt_of_cell? w _ hc, by show _ = some (Value.string ((z.take len).getD i ByteArray.empty)); rw [getD_take _ _ _ hi]; exact hc⟩
    · rw [List.length_take] at hi
      rw [getD_take _ _ _ (by omega)]
      have : i < z.length := by omega
      rw [List.getD, List.getElem?_eq_getElem this, Option.getD_some]
      have := h5 _ (List.getElem_mem this)
      simpa [maxLen] using this
end Go.Proofs.Ytdcojgkblfobnaa.Paste
