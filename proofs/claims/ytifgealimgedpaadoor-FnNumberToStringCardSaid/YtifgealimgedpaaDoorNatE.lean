/- Whole numbers of any size: shifted. The walk. -/
import Derived.Test.YtifgealimgedpaaDoorNatD
namespace Go.Proofs.YtifgealimgedpaaDoor.Nats
open Go.RowKit Go.Proofs.YtifgealimgedpaaDoor.Aid
attribute [local go_sem ↓] Go.wp_at_zero Go.wp_at_succ
set_option linter.unusedVariables false
theorem make_words (L : Nat) (hL : L ≤ 1000000) (w : World) : (Instr.makeSlice 47 (.int .i64 L) (.int .i64 L)).run Tryd.prog w = .ok (.slice (some ⟨w.heap.size, 0, none⟩) L L) (w.alloc (.cells (lcells (List.replicate L 0)).toArray 28)) := by
  obtain ⟨i0, hi, hz0, hz1, hz2⟩ := info_parts info28
  have h := run_make (P := Tryd.prog) w 47 28 i0 _ Tryd.underlying47 hi hz0 .i64 .i64 L L (by omega) (Int.le_refl _) (by rw [hz2]; omega) (by omega)
  rw [hz1] at h
  have e : (lcells (List.replicate L 0)).toArray = madeCells #[.int .u64 0] L := by
    rw [← Array.toList_inj, toList_madeCells_one]
    simp [lcells]
  have e2 : (Value.int .u64 0).cells = #[.int .u64 0] := rfl
  rw [e2] at h
  rw [e]
  simpa using h
theorem own_made (w : World) (base : Nat) (h : base ≤ w.heap.size) (zs : List Nat) (hz : zs.length ≤ maxLen) : (w.alloc (.cells (lcells zs).toArray 28)).ownsRow base 28 1 (.slice (some ⟨w.heap.size, 0, none⟩) zs.length zs.length) zs.length (lcells zs) :=
  ⟨by simp [lcells], .inr ⟨w.heap.size, zs.length, (lcells zs).toArray, rfl, h, heap_alloc_new w _, Nat.le_refl _, hz, by simp [lcells], by rw [Nat.mul_one]; exact List.take_of_length_le (by simp [lcells])⟩⟩
end Go.Proofs.YtifgealimgedpaaDoor.Nats
