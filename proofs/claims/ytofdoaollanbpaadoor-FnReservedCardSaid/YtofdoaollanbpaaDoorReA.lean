/- The small functions of FnReserved. The walks. -/
import Derived.Test.YtofdoaollanbpaaDoorProg
import Derived.Test.YtofdoaollanbpaaDoorAid
import Derived.Handy
import Derived.WalkLawsBesides
import Derived.Deep.DrawnRows
import Derived.Laws.BitsLemmas
import Derived.Lib.EndianBits
import Derived.Deep.RegionHeld
namespace Go.Proofs.YtofdoaollanbpaaDoor.Res
open Go.RowKit Go.Proofs.YtofdoaollanbpaaDoor.Aid
attribute [local go_sem ↓] Go.wp_at_zero Go.wp_at_succ
set_option linter.unusedVariables false
theorem between (a n b : Int) (w : World) : Calls Tryd.prog 23 #[.int .i64 a, .int .i64 n, .int .i64 b] w fun e w' => e = .returned (.bool (decide (a ≤ n) && decide (n ≤ b))) ∧ w' = w := by
  by_cases h1 : a ≤ n
  · have H := Lib.hid h1
    go_enter Tryd.func23, Tryd.ntmps23
    go_wp2_with fail
    go_returns
    exact ⟨by rw [decide_eq_true H.out]; rfl, rfl⟩
  · have H := Lib.hid h1
    go_enter Tryd.func23, Tryd.ntmps23
    go_wp2_with fail
    go_returns
    exact ⟨by rw [decide_eq_false (show ¬ a ≤ n by have := H.out; omega)]; rfl, rfl⟩
theorem ne_lists {a b : ByteArray} (h : a ≠ b) : (a.toList == b.toList) = false := by
  rw [beq_eq_false_iff_ne]
  intro e
  rw [ByteArray.toList_eq, ByteArray.toList_eq] at e
  exact h (ByteArray.ext (Array.toList_inj.1 e))
set_option maxRecDepth 100000 in
/-- A list of texts has one. -/
theorem listed (A : Option Addr) (n c : Nat) (f : Nat → ByteArray) (x : ByteArray) (w : World) (h : Reads w A n fun i => .string (f i)) (hn : n ≤ 9223372036854775807) :
    Calls Tryd.prog 7 #[.slice A n c, .string x] w fun e w' => ∃ z, e = .returned (.bool z) ∧ w' = w ∧ (z = true ↔ ∃ i, i < n ∧ f i = x) := by
  have HH := Lib.hid h
  clear h
  go_enter Tryd.func7, Tryd.ntmps7
  go_wp2_with fail
  go_loopw [9] (fun iv wr => ∃ i : Nat, iv = .int .i64 i ∧ i ≤ n ∧ wr = w ∧ Hid (∀ j, j < i → f j ≠ x)) (fun iv _ => ((n : Int) - intOf iv).toNat)
  case atStart => exact ⟨0, rfl, by omega, rfl, Lib.hid (fun j hj => by omega)⟩
  case round =>
    obtain ⟨i, rfl, hi, rfl, HN⟩ := hrel
    by_cases hlt : i < n
    · obtain ⟨b, o, rfl, hb, hc⟩ := HH.out i hlt
      have hlt' : (i : Int) < n := by omega
      simp only at hc
      by_cases hx : f i = x
      · have HX := Lib.hid (show ∃ i, i < n ∧ f i = x from ⟨i, hlt, hx⟩)
        rw [hx] at hc
        clear hx
        go_wp2_with fail
        go_returns
        exact ⟨true, rfl, rfl, ⟨fun _ => HX.out, fun _ => rfl⟩⟩
      · have hx' := ne_lists hx
        have HX := Lib.hid hx
        go_wp2_with fail
        go_roundw
        case rel =>
          refine ⟨i + 1, val_int (by omega), by omega, by trivial, Lib.hid fun j hj => ?_⟩
          rcases Nat.lt_or_ge j i with q | q
          · exact HN.out j q
          · have : j = i := by omega
            subst this
            exact HX.out
        case measure => simp [intOf]; omega
    · have HE := Lib.hid (show ¬ ∃ i, i < n ∧ f i = x from fun ⟨j, h1, h2⟩ => HN.out j (by omega) h2)
      go_wp2_with fail
      go_returns
      exact ⟨false, rfl, rfl, ⟨(fun h => by cases h), fun h => absurd h HE.out⟩⟩
set_option maxRecDepth 100000 in
/-- A list of texts has one. -/
theorem has (A : Option Addr) (n c : Nat) (f : Nat → ByteArray) (x : ByteArray) (w : World) (h : Reads w A n fun i => .string (f i)) (hn : n ≤ 9223372036854775807) :
    Calls Tryd.prog 54 #[.slice A n c, .string x] w fun e w' => ∃ z, e = .returned (.bool z) ∧ w' = w ∧ (z = true ↔ ∃ i, i < n ∧ f i = x) := by
  have HH := Lib.hid h
  clear h
  go_enter Tryd.func54, Tryd.ntmps54
  go_wp2_with fail
  go_loopw [5] (fun iv wr => ∃ i : Nat, iv = .int .i64 i ∧ i ≤ n ∧ wr = w ∧ Hid (∀ j, j < i → f j ≠ x)) (fun iv _ => ((n : Int) - intOf iv).toNat)
  case atStart => exact ⟨0, rfl, by omega, rfl, Lib.hid (fun j hj => by omega)⟩
  case round =>
    obtain ⟨i, rfl, hi, rfl, HN⟩ := hrel
    by_cases hlt : i < n
    · obtain ⟨b, o, rfl, hb, hc⟩ := HH.out i hlt
      have hlt' : (i : Int) < n := by omega
      simp only at hc
      by_cases hx : f i = x
      · have HX := Lib.hid (show ∃ i, i < n ∧ f i = x from ⟨i, hlt, hx⟩)
        rw [hx] at hc
        clear hx
        go_wp2_with fail
        go_returns
        exact ⟨true, rfl, rfl, ⟨fun _ => HX.out, fun _ => rfl⟩⟩
      · have hx' := ne_lists hx
        have HX := Lib.hid hx
        go_wp2_with fail
        go_roundw
        case rel =>
          refine ⟨i + 1, val_int (by omega), by omega, by trivial, Lib.hid fun j hj => ?_⟩
          rcases Nat.lt_or_ge j i with q | q
          · exact HN.out j q
          · have : j = i := by omega
            subst this
            exact HX.out
        case measure => simp [intOf]; omega
    · have HE := Lib.hid (show ¬ ∃ i, i < n ∧ f i = x from fun ⟨j, h1, h2⟩ => HN.out j (by omega) h2)
      go_wp2_with fail
      go_returns
      exact ⟨false, rfl, rfl, ⟨(fun h => by cases h), fun h => absurd h HE.out⟩⟩
end Go.Proofs.YtofdoaollanbpaaDoor.Res
