/- Symbols and scopes as values; their sizes. The walks. -/
import Derived.Test.YtofdoaollanbpaaDoorReC
namespace Go.Proofs.YtofdoaollanbpaaDoor.Res
open Go.RowKit Go.Proofs.YtofdoaollanbpaaDoor.Aid
attribute [local go_sem ↓] Go.wp_at_zero Go.wp_at_succ
set_option linter.unusedVariables false
/-- A symbol, as a value. -/
def symV (name : ByteArray) (uses flags kind : Int) : Value := .agg #[.string name, .int .u32 uses, .int .i64 flags, .int .i64 kind]
theorem zzFits2 (name : ByteArray) (u fl k : Int) (w : World) (hs : name.size ≤ 9223372036854775807) : Calls Tryd.prog 13 #[symV name u fl k] w fun e w' => Below w.heap.size w w' ∧ ∃ z, e = .returned (.bool z) ∧ (z = true → name.size ≤ 2147483647) := by
  unfold symV
  by_cases hx : (2147483647 : Int) < (name.size : Int)
  · go_enter Tryd.func13, Tryd.ntmps13
    go_wp2_with fail
    go_returns
    exact ⟨below_at (Below.refl _ _) _, false, rfl, fun h => by cases h⟩
  · have HX := Lib.hid (show name.size ≤ 2147483647 by omega)
    go_enter Tryd.func13, Tryd.ntmps13
    go_wp2_with fail
    go_returns
    exact ⟨below_at (Below.refl _ _) _, .inr ⟨rfl, HX.out⟩⟩
set_option maxRecDepth 100000 in
/-- What a symbol is named by its kind; weak. -/
theorem namedByKind (name : ByteArray) (u fl k : Int) (w : World) (hs : name.size ≤ 2147483647) : Calls Tryd.prog 16 #[symV name u fl k] w fun e w' => Below w.heap.size w w' ∧ ∃ z : Bool, e = .returned (.bool z) := by
  unfold symV
  have HA := Lib.hid (fun (s : ByteArray) w (h : s.size ≤ 9223372036854775807) => nameAscii s w h)
  by_cases h1 : 8 ≤ k
  · by_cases h2 : k ≤ 17
    · by_cases h3 : (1 : Int) < name.size
      · go_enter Tryd.func16, Tryd.ntmps16
        go_wp2_with fail
        · refine (HA.out _ _ (by rw [ByteArray.size_extract]; omega)).mono ?_
          rintro e w' ⟨rfl, z, rfl⟩
          go_wp2_with fail
          go_returns
          exact ⟨below_at (Below.refl _ _) _, z, rfl⟩
        · go_returns
          exact ⟨below_at (Below.refl _ _) _, _, rfl⟩
      · go_enter Tryd.func16, Tryd.ntmps16
        go_wp2_with fail
        go_returns
        exact ⟨below_at (Below.refl _ _) _, by simp⟩
    · go_enter Tryd.func16, Tryd.ntmps16
      go_wp2_with fail
      refine (HA.out _ _ (by omega)).mono ?_
      rintro e w' ⟨rfl, z, rfl⟩
      go_wp2_with fail
      go_returns
      exact ⟨below_at (Below.refl _ _) _, z, rfl⟩
  · go_enter Tryd.func16, Tryd.ntmps16
    go_wp2_with fail
    refine (HA.out _ _ (by omega)).mono ?_
    rintro e w' ⟨rfl, z, rfl⟩
    go_wp2_with fail
    go_returns
    exact ⟨below_at (Below.refl _ _) _, z, rfl⟩
end Go.Proofs.YtofdoaollanbpaaDoor.Res
