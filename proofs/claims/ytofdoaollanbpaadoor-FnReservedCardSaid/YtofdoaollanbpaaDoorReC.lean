/- Sizes of lists of texts; names of ASCII. The walks. -/
import Derived.Test.YtofdoaollanbpaaDoorReB
namespace Go.Proofs.YtofdoaollanbpaaDoor.Res
open Go.RowKit Go.Proofs.YtofdoaollanbpaaDoor.Aid
attribute [local go_sem ↓] Go.wp_at_zero Go.wp_at_succ
set_option linter.unusedVariables false
set_option maxRecDepth 100000 in
theorem zzFits5 (A : Option Addr) (n c : Nat) (f : Nat → ByteArray) (w : World) (h : Reads w A n fun i => .string (f i)) (hn : n ≤ 9223372036854775807) :
    Calls Tryd.prog 24 #[.slice A n c] w fun e w' => w' = w ∧ ∃ z, e = .returned (.bool z) ∧ (z = true → n ≤ 2147483647 ∧ ∀ i, i < n → (f i).size ≤ 2147483647) := by
  have HH := Lib.hid h
  clear h
  by_cases hbig : (2147483647 : Int) < (n : Int)
  · go_enter Tryd.func24, Tryd.ntmps24
    go_wp2_with fail
    go_returns
    exact ⟨rfl, false, rfl, fun h => by cases h⟩
  · go_enter Tryd.func24, Tryd.ntmps24
    go_wp2_with fail
    go_loopw [10] (fun iv wr => ∃ i : Nat, iv = .int .i64 i ∧ i ≤ n ∧ wr = w ∧ Hid (∀ j, j < i → (f j).size ≤ 2147483647)) (fun iv _ => ((n : Int) - intOf iv).toNat)
    case atStart => exact ⟨0, rfl, by omega, rfl, Lib.hid (fun j hj => by omega)⟩
    case round =>
      obtain ⟨i, rfl, hi, rfl, HN⟩ := hrel
      by_cases hlt : i < n
      · obtain ⟨b, o, rfl, hb, hc⟩ := HH.out i hlt
        have hlt' : (i : Int) < n := by omega
        simp only at hc
        by_cases hx : (2147483647 : Int) < ((f i).size : Int)
        · go_wp2_with fail
          go_returns
          exact ⟨rfl, false, rfl, fun h => by cases h⟩
        · have HX := Lib.hid (show (f i).size ≤ 2147483647 by omega)
          go_wp2_with fail
          go_roundw
          case rel =>
            refine ⟨i + 1, val_int (by omega), by omega, by trivial, Lib.hid fun j hj => ?_⟩
            rcases Nat.lt_or_ge j i with q | q
            · exact HN.out j q
            · have : j = i := by omega
              subst this
              exact HX.out
          case measure => simp [intOf]; omega
      · go_wp2_with fail
        go_returns
        exact ⟨rfl, true, rfl, fun _ => ⟨by omega, fun j hj => HN.out j (by omega)⟩⟩
set_option maxRecDepth 100000 in
/-- Each byte of a name is looked at; weak. -/
theorem nameAscii (s : ByteArray) (w : World) (hs : s.size ≤ 9223372036854775807) : Calls Tryd.prog 28 #[.string s] w (Same w) := by
  have HG := Lib.hid (fun n w => nameGoesOn n w)
  have HB := Lib.hid (fun n w => nameBegins n w)
  go_enter Tryd.func28, Tryd.ntmps28
  go_wp2_with fail
  go_loopw [3] (fun iv wr => ∃ i : Nat, iv = .int .i64 i ∧ i ≤ s.size ∧ wr = w) (fun iv _ => ((s.size : Int) - intOf iv).toNat)
  case atStart => exact ⟨0, rfl, by omega, rfl⟩
  case round =>
    obtain ⟨i, rfl, hi, rfl⟩ := hrel
    by_cases hlt : i < s.size
    · have hlt' : (i : Int) < s.size := by omega
      go_wp2_with fail
      refine (HG.out _ _).mono ?_
      rintro e w' ⟨rfl, z, rfl⟩
      cases z
      · go_wp2_with fail
        go_returns
        exact ⟨rfl, _, rfl⟩
      · by_cases h0 : i = 0
        · subst h0
          go_wp2_with fail
          refine (HB.out _ _).mono ?_
          rintro e w' ⟨rfl, z, rfl⟩
          cases z
          · go_wp2_with fail
            go_returns
            exact ⟨rfl, _, rfl⟩
          · go_wp2_with fail
            go_roundw
            case rel => exact ⟨1, val_int (by omega), by omega, by trivial⟩
            case measure => simp [intOf]; omega
        · have h0' : ((i : Int) == 0) = false := by simp; omega
          go_wp2_with fail
          go_roundw
          case rel => exact ⟨i + 1, val_int (by omega), by omega, by trivial⟩
          case measure => simp [intOf]; omega
    · go_wp2_with fail
      go_returns
      exact ⟨rfl, _, rfl⟩
end Go.Proofs.YtofdoaollanbpaaDoor.Res
