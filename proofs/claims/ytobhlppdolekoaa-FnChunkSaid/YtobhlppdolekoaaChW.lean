/- place, Before, MapFind, Ordered: the walks. -/
import Derived.Test.YtobhlppdolekoaaAddB
import Derived.Test.YtobhlppdolekoaaChJ
namespace Go.Proofs.Ytobhlppdolekoaa.Ch
open Go.RowKit Go.Proofs.Ytobhlppdolekoaa.Aid Go.Proofs.Ytobhlppdolekoaa.Bytes Go.Proofs.Ytobhlppdolekoaa.Runes
attribute [local go_sem ↓] Go.wp_at_zero Go.wp_at_succ
set_option linter.unusedVariables false
set_option linter.unusedSimpArgs false
/-- The place behind some bytes of a text. -/
def placeOf (s : ByteArray) (i : Nat) : Nat × Nat := places (s.extract 0 i) 0 (0, 0)
theorem info39 : (Try.prog.info? 39).map (·.size) = some 2 := by kernel_rfl
set_option maxRecDepth 100000 in
set_option maxHeartbeats 4000000 in
theorem placeWalk (s : ByteArray) (i : Nat) (w : World) (hi : i ≤ s.size) (hs : s.size ≤ 1000000) :
    Calls Try.prog 9 #[.string s, .int .i64 i] w fun e w' => e = .returned (.agg #[.int .i64 (placeOf s i).1, .int .i64 (placeOf s i).2]) ∧ Below w.heap.size w w' := by
  have hsz : (s.extract 0 i).size = i := by rw [ByteArray.size_extract]; omega
  have HP := Lib.hid (fun w => places_walk (s.extract 0 i) w (by omega))
  obtain ⟨x, hx⟩ : ∃ x, x = (placeOf s i).1 := ⟨_, rfl⟩
  obtain ⟨y, hy⟩ : ∃ y, y = (placeOf s i).2 := ⟨_, rfl⟩
  rw [← hx, ← hy]
  have HX := Lib.hid hx
  have HY := Lib.hid hy
  have hii : (i : Int) ≤ s.size := by omega
  clear hsz hx hy
  go_enter Try.func9, Try.ntmps9
  go_upto_region 1 with fail
  obtain ⟨W, hW⟩ : ∃ W, W = w.alloc (.cells #[.int .i64 0, .int .i64 0] 39) := ⟨_, rfl⟩
  have B0 : Below w.heap.size w W := by rw [hW]; exact below_at (Below.refl _ _) _
  have K4 : Hid (Blk W w.heap.size 39 [.int .i64 0, .int .i64 0]) := Lib.hid (by rw [hW]; exact Blk.new w 39 [.int .i64 0, .int .i64 0])
  rw [show w.alloc (.cells #[.int .i64 0, .int .i64 0] 39) = W from hW.symm]
  have HB := Lib.hid B0
  clear hW B0
  obtain ⟨b4, hb4⟩ : ∃ b4, b4 = w.heap.size := ⟨_, rfl⟩
  have HBB := Lib.hid hb4
  rw [← hb4] at K4 ⊢
  clear hb4
  go_wp2_with fail
  refine (HP.out _).mono ?_
  rintro e w2 ⟨rfl, hb2⟩
  rw [show (places (s.extract 0 i) 0 (0, 0)) = placeOf s i from rfl, ← HX.out, ← HY.out]
  have HK2 := Lib.hid (K4.out.below hb2 K4.out.lt)
  have HB2 : Hid (Below w.heap.size w w2) := Lib.hid (HB.out.trans (hb2.mono HB.out.size))
  have f0 := HK2.out.frozen 0
  have f1 := HK2.out.frozen 1
  have c0 : w2.cell? ⟨b4, 0, none⟩ = some (.int .i64 0) := HK2.out.get 0 rfl
  have c1 : w2.cell? ⟨b4, 1, none⟩ = some (.int .i64 0) := HK2.out.get 1 rfl
  clear hb2
  go_wp2_with fail
  obtain ⟨w3, hw3⟩ : ∃ w3, w3 = (w2.setCell ⟨b4, 0, none⟩ (.int .i64 x)).setCell ⟨b4, 1, none⟩ (.int .i64 y) := ⟨_, rfl⟩
  have K3 : Blk w3 b4 39 [.int .i64 x, .int .i64 y] := by rw [hw3]; exact (HK2.out.set_ 0 (.int .i64 x)).set_ 1 (.int .i64 y)
  have HB3 : Below w.heap.size w w3 := by rw [hw3]; exact (HB2.out.setCell (p := ⟨b4, 0, none⟩) (Nat.le_of_eq HBB.out.symm) _).setCell (p := ⟨b4, 1, none⟩) (Nat.le_of_eq HBB.out.symm) _
  rw [← hw3]
  refine bodyPost_ret (results_cell_row Try.results9 _ _ b4 39 _ (0, 0) _ rfl K3 Try.underlying39 rfl info39) rfl ?_
  exact ⟨rfl, HB3⟩
set_option maxRecDepth 100000 in
set_option maxHeartbeats 4000000 in
theorem before (a b c d : Int) (w : World) :
    Calls Try.prog 23 #[.agg #[.int .i64 a, .int .i64 b], .agg #[.int .i64 c, .int .i64 d]] w fun e w' => e = .returned (.bool (decide (a < c ∨ (a = c ∧ b < d)))) ∧ Below w.heap.size w w' := by
  go_enter Try.func23, Try.ntmps23
  by_cases h1 : a < c
  · go_wp2_with fail
    go_returns
    exact ⟨by simp [h1], (below_at (Below.refl _ _) _).alloc (by simp) _⟩
  · by_cases h2 : a = c
    · subst h2
      have q : (a == a) = true := by simp
      go_wp2_with fail
      go_returns
      exact ⟨by simp, (below_at (Below.refl _ _) _).alloc (by simp) _⟩
    · have q : (a == c) = false := by simp [h2]
      go_wp2_with fail
      go_returns
      exact ⟨by simp [h1, h2], (below_at (Below.refl _ _) _).alloc (by simp) _⟩
end Go.Proofs.Ytobhlppdolekoaa.Ch
