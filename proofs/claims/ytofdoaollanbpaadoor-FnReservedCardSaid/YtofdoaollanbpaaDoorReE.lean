/- The namespace of a symbol. The walk. -/
import Derived.Test.YtofdoaollanbpaaDoorReD
namespace Go.Proofs.YtofdoaollanbpaaDoor.Res
open Go.RowKit Go.Proofs.YtofdoaollanbpaaDoor.Aid
attribute [local go_sem ↓] Go.wp_at_zero Go.wp_at_succ
set_option linter.unusedVariables false
/-- The namespace of a symbol. -/
def space (fl k : Int) (bit : Bool) : Int := if k = 0 then 4 else if bit then 4 else if 8 ≤ k ∧ k ≤ 17 then 2 else if k = 18 then 1 else if k = 24 then 3 else 0
theorem scopeSpace (name : ByteArray) (u fl k : Int) (w : World) : Calls Tryd.prog 11 #[symV name u fl k] w fun e w' => Below w.heap.size w w' ∧ e = .returned (.int .i64 (space fl k (bits .and .i64 fl 1 != 0))) := by
  unfold symV
  have HB := Lib.hid (fun a n b w => between a n b w)
  obtain ⟨z, hz⟩ : ∃ z, (bits .and .i64 fl 1 != 0) = z := ⟨_, rfl⟩
  rw [hz]
  by_cases h0 : k = 0
  · subst h0
    go_enter Tryd.func11, Tryd.ntmps11
    go_wp2_with fail
    go_returns
    exact ⟨below_at (Below.refl _ _) _, by rfl⟩
  · have h0' : (k == 0) = false := by simp; omega
    cases z
    · go_enter Tryd.func11, Tryd.ntmps11
      go_wp2_with fail
      refine (HB.out _ _ _ _).mono ?_
      rintro e w' ⟨rfl, rfl⟩
      obtain ⟨y, hy⟩ : ∃ y, (decide (8 ≤ k) && decide (k ≤ 17)) = y := ⟨_, rfl⟩
      rw [hy]
      cases y
      · have HS := Lib.hid (show space fl k false = if k = 18 then 1 else if k = 24 then 3 else 0 by
          rw [space, if_neg h0, if_neg (by decide), if_neg (by intro h; rw [decide_eq_true h.1, decide_eq_true h.2] at hy; cases hy)])
        clear hy
        by_cases h18 : k = 18
        · subst h18
          go_wp2_with fail
          go_returns
          exact ⟨below_at (Below.refl _ _) _, by rw [HS.out]; rfl⟩
        · have h18' : (k == 18) = false := by simp; omega
          by_cases h24 : k = 24
          · subst h24
            go_wp2_with fail
            go_returns
            exact ⟨below_at (Below.refl _ _) _, by rw [HS.out]; rfl⟩
          · have h24' : (k == 24) = false := by simp; omega
            go_wp2_with fail
            go_returns
            exact ⟨below_at (Below.refl _ _) _, by rw [HS.out, if_neg h18, if_neg h24]; rfl⟩
      · have HS := Lib.hid (show space fl k false = 2 by
          rw [Bool.and_eq_true] at hy
          rw [space, if_neg h0, if_neg (by decide), if_pos ⟨of_decide_eq_true hy.1, of_decide_eq_true hy.2⟩])
        clear hy
        go_wp2_with fail
        go_returns
        exact ⟨below_at (Below.refl _ _) _, by rw [HS.out]; rfl⟩
    · go_enter Tryd.func11, Tryd.ntmps11
      go_wp2_with fail
      go_returns
      exact ⟨below_at (Below.refl _ _) _, by rw [space, if_neg h0, if_pos rfl]; rfl⟩
end Go.Proofs.YtofdoaollanbpaaDoor.Res
