/- What is read back: items of a text of mappings; mapFits. -/
import Derived.Test.YtobhlppdolekoaaChE
import Derived.Test.YtobhlppdolekoaaChG
namespace Go.Proofs.Ytobhlppdolekoaa.Ch
open Go.RowKit Go.Proofs.Ytobhlppdolekoaa.Aid Go.Proofs.Ytobhlppdolekoaa.Bytes Go.Proofs.Ytobhlppdolekoaa.Runes
attribute [local go_sem ↓] Go.wp_at_zero Go.wp_at_succ
set_option linter.unusedVariables false
set_option linter.unusedSimpArgs false
/-- The six numbers of a state. -/
def Sm.six (s : Sm) : List Value := [.int .i64 s.gl, .int .i64 s.gc, .int .i64 s.src, .int .i64 s.ol, .int .i64 s.oc, .int .i64 s.nm]
theorem six_at (s : Sm) (h : s.Small) (k : Nat) (hk : k < 6) : ∃ x : Int, s.six[k]? = some (.int .i64 x) ∧ 0 ≤ x ∧ x < 2147483648 := by
  obtain ⟨h1, h2, h3, h4, h5, h6⟩ := h
  rcases (by omega : k = 0 ∨ k = 1 ∨ k = 2 ∨ k = 3 ∨ k = 4 ∨ k = 5) with rfl | rfl | rfl | rfl | rfl | rfl
  · exact ⟨_, rfl, h1⟩
  · exact ⟨_, rfl, h2⟩
  · exact ⟨_, rfl, h3⟩
  · exact ⟨_, rfl, h4⟩
  · exact ⟨_, rfl, h5⟩
  · exact ⟨_, rfl, h6⟩
set_option maxRecDepth 100000 in
set_option maxHeartbeats 4000000 in
theorem mapFits (s : Sm) (h : s.Small) (w : World) : Calls Try.prog 19 #[.agg #[.int .i64 s.gl, .int .i64 s.gc, .int .i64 s.src, .int .i64 s.ol, .int .i64 s.oc, .int .i64 s.nm]] w fun e w' => e = .returned (.bool true) ∧ Below w.heap.size w w' := by
  have HS := Lib.hid h
  clear h
  go_enter Try.func19, Try.ntmps19
  go_wp2_with fail
  obtain ⟨W, hW⟩ : ∃ W, W = ((w.alloc (.cells s.six.toArray 33)).alloc (.cells s.six.toArray 3)) := ⟨_, rfl⟩
  have B0 : Below w.heap.size w W := by rw [hW]; exact (below_at (Below.refl _ _) _).alloc (by simp) _
  have K1 : Blk W (w.heap.size + 1) 3 s.six := by rw [hW]; simpa using Blk.new (w.alloc (.cells s.six.toArray 33)) 3 s.six
  rw [show ((w.alloc (.cells #[.int .i64 s.gl, .int .i64 s.gc, .int .i64 s.src, .int .i64 s.ol, .int .i64 s.oc, .int .i64 s.nm] 33)).alloc (.cells #[.int .i64 s.gl, .int .i64 s.gc, .int .i64 s.src, .int .i64 s.ol, .int .i64 s.oc, .int .i64 s.nm] 3)) = W from hW.symm]
  have HB := Lib.hid B0
  have HK := Lib.hid K1
  clear hW B0 K1
  obtain ⟨b, hb⟩ : ∃ b, b = w.heap.size := ⟨_, rfl⟩
  rw [← hb] at HK ⊢
  clear hb
  go_loopw [19] (fun i wr => ∃ k : Nat, k ≤ 6 ∧ i = .int .i64 k ∧ wr = W) (fun i _ => 6 - (intOf i).toNat)
  case atStart => exact ⟨0, Nat.zero_le _, rfl, rfl⟩
  case round =>
    obtain ⟨k, hk, rfl, rfl⟩ := hrel
    by_cases hlt : k < 6
    · obtain ⟨x, hx, x0, x1⟩ := six_at s HS.out k hlt
      have c := HK.out.get k hx
      have hlt' : (k : Int) < 6 := by omega
      have y0 : ¬ x < 0 := by omega
      clear hx
      go_wp2_with fail
      go_roundw
      case rel => exact ⟨k + 1, by omega, rfl, trivial⟩
      case measure => simp [intOf]; omega
    · have hge : ¬ (k : Int) < 6 := by omega
      clear hlt
      go_wp2_with fail
      go_returns
      exact ⟨rfl, HB.out⟩
end Go.Proofs.Ytobhlppdolekoaa.Ch
