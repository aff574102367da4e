/- MakeChunkBuilder. The walk. -/
import Derived.Test.YtobhlppdolekoaaChO
import Derived.WalkSpells
namespace Go.Proofs.Ytobhlppdolekoaa.Ch
open Go.RowKit Go.Proofs.Ytobhlppdolekoaa.Aid Go.Proofs.Ytobhlppdolekoaa.Bytes Go.Proofs.Ytobhlppdolekoaa.Runes
attribute [local go_sem ↓] Go.wp_at_zero Go.wp_at_succ
set_option linter.unusedVariables false
set_option linter.unusedSimpArgs false
/-- A builder at its begin. -/
def Bd.new (T : Value) (bm : Nat) (asc : Bool) : Bd := { v := .slice none 0 0, q := .slice none 0 0, m := .map (some bm), T := T, pn := ByteArray.empty, st := ⟨0, 0, 0, 0, 0, 0, false⟩, upd := 0, gcol := 0, plen := 0, ploc := -1, fo := 0, hp := false, asc := asc, ls := false }
def Ab.new : Ab := ⟨[], ⟨0, 0, 0, 0, 0, 0, false⟩, 0, false, false⟩
theorem Ab.Lim.new : Ab.new.Lim 0 := ⟨Nat.le_refl _, (fun b hb => by cases hb), ⟨Int.le_refl _, Int.le_refl _⟩, ⟨Int.le_refl _, Int.le_refl _⟩, rfl, ⟨Int.le_refl _, by decide⟩, ⟨Int.le_refl _, by decide⟩, ⟨Int.le_refl _, by decide⟩, ⟨Int.le_refl _, Int.le_refl _⟩⟩
theorem info83 : (Try.prog.info? 83).map (·.size) = some 22 := by kernel_rfl
set_option maxRecDepth 100000 in
set_option maxHeartbeats 8000000 in
theorem makeBuilder (A : Option Addr) (n c : Nat) (asc : Bool) (w : World) :
    Calls Try.prog 27 #[.pointer none, .slice A n c, .bool asc] w fun e w' => ∃ bm, e = .returned (.agg (Bd.new (.slice A n c) bm asc).cells.toArray) ∧ w'.ownsMap Try.prog 9 (plainElem (H := Unit) Try.prog 51) bm 0 (.map []) ∧ w.heap.size ≤ bm ∧ Below w.heap.size w w' := by
  have hmm := @run_makeMap Try.prog
  go_enter Try.func27, Try.ntmps27
  go_upto_region 1 with fail
  obtain ⟨W, hW⟩ : ∃ W, W = w.alloc (.cells #[.pointer none, .slice none 0 0, .slice none 0 0, .map none, .slice none 0 0, .string ⟨#[]⟩, .int .i64 0, .int .i64 0, .int .i64 0, .int .i64 0, .int .i64 0, .int .i64 0, .bool false, .int .i64 0, .int .i64 0, .int .i64 0, .int .i32 0, .int .u32 0, .bool false, .bool false, .bool false, .bool false] 83) := ⟨_, rfl⟩
  have B0 : Below w.heap.size w W := by rw [hW]; exact below_at (Below.refl _ _) _
  have K6 : Hid (Blk W w.heap.size 83 [.pointer none, .slice none 0 0, .slice none 0 0, .map none, .slice none 0 0, .string ⟨#[]⟩, .int .i64 0, .int .i64 0, .int .i64 0, .int .i64 0, .int .i64 0, .int .i64 0, .bool false, .int .i64 0, .int .i64 0, .int .i64 0, .int .i32 0, .int .u32 0, .bool false, .bool false, .bool false, .bool false]) := Lib.hid (by rw [hW]; exact Blk.new w 83 [.pointer none, .slice none 0 0, .slice none 0 0, .map none, .slice none 0 0, .string ⟨#[]⟩, .int .i64 0, .int .i64 0, .int .i64 0, .int .i64 0, .int .i64 0, .int .i64 0, .bool false, .int .i64 0, .int .i64 0, .int .i64 0, .int .i32 0, .int .u32 0, .bool false, .bool false, .bool false, .bool false])
  have HW0 := Lib.hid B0
  have hsz : w.heap.size < W.heap.size := by rw [hW]; simp
  rw [show w.alloc (.cells #[.pointer none, .slice none 0 0, .slice none 0 0, .map none, .slice none 0 0, .string ⟨#[]⟩, .int .i64 0, .int .i64 0, .int .i64 0, .int .i64 0, .int .i64 0, .int .i64 0, .bool false, .int .i64 0, .int .i64 0, .int .i64 0, .int .i32 0, .int .u32 0, .bool false, .bool false, .bool false, .bool false] 83) = W from hW.symm]
  clear hW B0
  obtain ⟨b6, hb6⟩ : ∃ b6, b6 = w.heap.size := ⟨_, rfl⟩
  rw [← hb6] at K6 hsz ⊢
  have HB6 := Lib.hid hb6
  clear hb6
  have K7 : Hid (Blk (W.alloc (.map #[] 0)) b6 83 [.pointer none, .slice none 0 0, .slice none 0 0, .map none, .slice none 0 0, .string ⟨#[]⟩, .int .i64 0, .int .i64 0, .int .i64 0, .int .i64 0, .int .i64 0, .int .i64 0, .bool false, .int .i64 0, .int .i64 0, .int .i64 0, .int .i32 0, .int .u32 0, .bool false, .bool false, .bool false, .bool false]) := Lib.hid (K6.out.alloc _)
  have hone : Hid (∀ u ∈ ([.pointer none, .slice none 0 0, .slice none 0 0, .map (some W.heap.size), .slice A n c, .string ⟨#[]⟩, .int .i64 0, .int .i64 0, .int .i64 0, .int .i64 0, .int .i64 0, .int .i64 0, .bool false, .int .i64 0, .int .i64 0, .int .i64 0, .int .i32 (-1), .int .u32 0, .bool false, .bool asc, .bool false, .bool true] : List Value), u.oneCell' = true) := Lib.hid (by
    intro u hu
    simp only [List.mem_cons, List.not_mem_nil, or_false] at hu
    rcases hu with rfl | rfl | rfl | rfl | rfl | rfl | rfl | rfl | rfl | rfl | rfl | rfl | rfl | rfl | rfl | rfl | rfl | rfl | rfl | rfl | rfl | rfl <;> rfl)
  go_wp2_with (refine wpList_store_blk rfl 83 (.tmp 6) (.tmp 14) rfl b6 [.pointer none, .slice none 0 0, .slice none 0 0, .map none, .slice none 0 0, .string ⟨#[]⟩, .int .i64 0, .int .i64 0, .int .i64 0, .int .i64 0, .int .i64 0, .int .i64 0, .bool false, .int .i64 0, .int .i64 0, .int .i64 0, .int .i32 0, .int .u32 0, .bool false, .bool false, .bool false, .bool false] [.pointer none, .slice none 0 0, .slice none 0 0, .map (some W.heap.size), .slice A n c, .string ⟨#[]⟩, .int .i64 0, .int .i64 0, .int .i64 0, .int .i64 0, .int .i64 0, .int .i64 0, .bool false, .int .i64 0, .int .i64 0, .int .i64 0, .int .i32 (-1), .int .u32 0, .bool false, .bool asc, .bool false, .bool true] 83 (by rfl) (by rfl) K7.out rfl info83 hone.out ?_)
  intro w2 k2 g2 s2
  have HK := Lib.hid k2
  have HM : Hid (w2.ownsMap Try.prog 9 (plainElem (H := Unit) Try.prog 51) W.heap.size 0 (.map [])) := Lib.hid (by
    exact (World.ownsMap_made W Try.prog 9 (plainElem (H := Unit) Try.prog 51)).kept g2 (by intro e; injection e with e; omega))
  have HL : Hid (Below w.heap.size w w2) := Lib.hid (below_of_only (HW0.out.trans ((below_at (Below.refl _ _) _).mono HW0.out.size)) (by have := HW0.out.size; simp; omega) g2 (fun k hk => by injection hk with hk; have := HB6.out; omega))
  clear k2 g2 s2 K7 K6
  go_wp2_with fail
  refine bodyPost_ret (results_cell_row Try.results27 _ _ b6 83 _ (0, 0) _ rfl HK.out Try.underlying83 rfl info83) rfl ?_
  exact ⟨W.heap.size, rfl, HM.out, by have := HB6.out; omega, HL.out⟩
end Go.Proofs.Ytobhlppdolekoaa.Ch
