/- Scopes as values; their sizes. The walks. -/
import Derived.Test.YtofdoaollanbpaaDoorReE
namespace Go.Proofs.YtofdoaollanbpaaDoor.Res
open Go.RowKit Go.Proofs.YtofdoaollanbpaaDoor.Aid
attribute [local go_sem ↓] Go.wp_at_zero Go.wp_at_succ
set_option linter.unusedVariables false
/-- A scope, as a value. -/
def scV (p k : Int) (A : Option Addr) (n c : Nat) (R : Option Addr) (rn rc : Nat) (G : Option Addr) (gn gc : Nat) (l : Int) (ev : Bool) : Value := .agg #[.int .i64 p, .int .i64 k, .slice A n c, .slice R rn rc, .slice G gn gc, .int .i64 l, .bool ev]
theorem zzFits7 (p k : Int) (A : Option Addr) (n c : Nat) (R : Option Addr) (rn rc : Nat) (G : Option Addr) (gn gc : Nat) (l : Int) (ev : Bool) (f : Nat → ByteArray) (w : World) (h : Reads w A n fun i => .string (f i)) (hn : n ≤ 9223372036854775807) (hr : rn ≤ 9223372036854775807) (hg : gn ≤ 9223372036854775807) :
    Calls Tryd.prog 12 #[scV p k A n c R rn rc G gn gc l ev] w fun e w' => Below w.heap.size w w' ∧ ∃ z, e = .returned (.bool z) ∧ (z = true → n ≤ 2147483647 ∧ (∀ i, i < n → (f i).size ≤ 2147483647) ∧ rn ≤ 2147483647 ∧ gn ≤ 2147483647) := by
  unfold scV
  have H := Lib.hid (fun W (hb : Below w.heap.size w W) => zzFits5 A n c f W (h.below hb) hn)
  clear h
  go_enter Tryd.func12, Tryd.ntmps12
  go_wp2_with fail
  refine (H.out _ (below_at (Below.refl _ _) _)).mono ?_
  rintro e w' ⟨rfl, z, rfl, hz⟩
  have HZ := Lib.hid hz
  clear hz
  cases z
  · go_wp2_with fail
    go_returns
    exact ⟨below_at (Below.refl _ _) _, false, rfl, fun h => by cases h⟩
  · by_cases h1 : (2147483647 : Int) < (rn : Int)
    · go_wp2_with fail
      go_returns
      exact ⟨below_at (Below.refl _ _) _, false, rfl, fun h => by cases h⟩
    · by_cases h2 : (2147483647 : Int) < (gn : Int)
      · go_wp2_with fail
        go_returns
        exact ⟨below_at (Below.refl _ _) _, false, rfl, fun h => by cases h⟩
      · have HX := Lib.hid (show rn ≤ 2147483647 ∧ gn ≤ 2147483647 by omega)
        go_wp2_with fail
        go_returns
        exact ⟨below_at (Below.refl _ _) _, true, rfl, fun _ => ⟨(HZ.out trivial).1, (HZ.out trivial).2, HX.out.1, HX.out.2⟩⟩
end Go.Proofs.YtofdoaollanbpaaDoor.Res
