/- Names of ASCII: the walks (weak: they come to an end with some bool). -/
import Derived.Test.YtofdoaollanbpaaDoorReA
namespace Go.Proofs.YtofdoaollanbpaaDoor.Res
open Go.RowKit Go.Proofs.YtofdoaollanbpaaDoor.Aid
attribute [local go_sem ↓] Go.wp_at_zero Go.wp_at_succ
set_option linter.unusedVariables false
def Same (w : World) (e : Ending) (w' : World) : Prop := w' = w ∧ ∃ z : Bool, e = .returned (.bool z)
theorem digit (n : Int) (w : World) : Calls Tryd.prog 55 #[.int .i64 n] w (Same w) := by
  have H := Lib.hid (fun a n b w => between a n b w)
  go_enter Tryd.func55, Tryd.ntmps55
  go_wp2_with fail
  refine (H.out _ _ _ _).mono ?_
  rintro e w' ⟨rfl, rfl⟩
  go_wp2_with fail
  go_returns
  exact ⟨rfl, _, rfl⟩
theorem nameBegins (n : Int) (w : World) : Calls Tryd.prog 39 #[.int .i64 n] w (Same w) := by
  have H := Lib.hid (fun a n b w => between a n b w)
  go_enter Tryd.func39, Tryd.ntmps39
  go_wp2_with fail
  refine (H.out _ _ _ _).mono ?_
  rintro e w' ⟨rfl, rfl⟩
  obtain ⟨z, hz⟩ : ∃ z, (decide (97 ≤ n) && decide (n ≤ 122)) = z := ⟨_, rfl⟩
  rw [hz]
  clear hz
  cases z
  · go_wp2_with fail
    refine (H.out _ _ _ _).mono ?_
    rintro e w' ⟨rfl, rfl⟩
    obtain ⟨z, hz⟩ : ∃ z, (decide (65 ≤ n) && decide (n ≤ 90)) = z := ⟨_, rfl⟩
    rw [hz]
    clear hz
    cases z
    · go_wp2_with fail
      all_goals
        go_returns
        exact ⟨rfl, _, rfl⟩
    · go_wp2_with fail
      go_returns
      exact ⟨rfl, _, rfl⟩
  · go_wp2_with fail
    go_returns
    exact ⟨rfl, _, rfl⟩
theorem nameGoesOn (n : Int) (w : World) : Calls Tryd.prog 38 #[.int .i64 n] w (Same w) := by
  have H := Lib.hid (fun n w => nameBegins n w)
  have HD := Lib.hid (fun n w => digit n w)
  go_enter Tryd.func38, Tryd.ntmps38
  go_wp2_with fail
  refine (H.out _ _).mono ?_
  rintro e w' ⟨rfl, z, rfl⟩
  cases z
  · go_wp2_with fail
    refine (HD.out _ _).mono ?_
    rintro e w' ⟨rfl, z, rfl⟩
    go_wp2_with fail
    go_returns
    exact ⟨rfl, _, rfl⟩
  · go_wp2_with fail
    go_returns
    exact ⟨rfl, _, rfl⟩
end Go.Proofs.YtofdoaollanbpaaDoor.Res
