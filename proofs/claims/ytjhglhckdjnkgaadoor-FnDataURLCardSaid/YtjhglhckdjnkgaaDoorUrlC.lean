/- Digits of base 16, a text fetched, a data URL read: the reference's functions. The walks. -/
import Derived.Test.YtjhglhckdjnkgaaDoorAddA
import Derived.Test.YtjhglhckdjnkgaaDoorUrlB
import Derived.Deep.QuietTactic
import Derived.BigQuiet
namespace Go.Proofs.YtjhglhckdjnkgaaDoor.Url
open Go.RowKit Go.Proofs.YtjhglhckdjnkgaaDoor.Aid Go.Proofs.YtjhglhckdjnkgaaDoor.Runes
attribute [local go_sem ↓] Go.wp_at_zero Go.wp_at_succ
set_option linter.unusedVariables false
/-- The value of a digit of base 16, -1 where it is none. -/
def hexI (b : Nat) : Int := match hexv b with | some v => (v : Int) | none => -1
set_option maxRecDepth 100000 in
set_option maxHeartbeats 1000000 in
theorem isHex_walk (b : Nat) (hb : b < 256) (w : World) : Calls Tryd.prog 53 #[.int .u8 b] w fun e w' => e = .returned (.bool (isHex b)) ∧ w' = w := by
  obtain ⟨B, hB⟩ : ∃ B, B = isHex b := ⟨_, rfl⟩
  rw [← hB]
  by_cases h1 : 48 ≤ b
  · by_cases h2 : b ≤ 57
    · have HE := Lib.hid (show B = true by rw [hB]; simp [isHex, hexv, h1, h2])
      clear hB
      go_enter Tryd.func53, Tryd.ntmps53
      go_wp2_with fail
      go_returns
      exact ⟨by rw [HE.out]; rfl, rfl⟩
    · have h2' : 57 < b := by omega
      have d2 : decide ((b : Int) ≤ 57) = false := by simp; omega
      by_cases h3 : 97 ≤ b
      · by_cases h4 : b ≤ 102
        · have HE := Lib.hid (show B = true by rw [hB]; simp [isHex, hexv, h2, h3, h4])
          clear hB
          go_enter Tryd.func53, Tryd.ntmps53
          go_wp2_with fail
          go_returns
          exact ⟨by rw [HE.out]; rfl, rfl⟩
        · have h4' : 102 < b := by omega
          have d4 : decide ((b : Int) ≤ 102) = false := by simp; omega
          have d6 : decide ((b : Int) ≤ 70) = false := by simp; omega
          have HE := Lib.hid (show B = false by rw [hB, isHex, hexv, if_neg (by omega), if_neg (by omega), if_neg (by omega)]; rfl)
          clear hB h2 h4
          go_enter Tryd.func53, Tryd.ntmps53
          go_wp2_with fail
          go_returns
          exact ⟨by rw [HE.out]; rfl, rfl⟩
      · have h3' : b < 97 := by omega
        by_cases h5 : 65 ≤ b
        · by_cases h6 : b ≤ 70
          · have d6 : decide ((b : Int) ≤ 70) = true := by simp; omega
            have HE := Lib.hid (show B = true by rw [hB]; simp [isHex, hexv, h2, h3, h5, h6])
            clear hB h2 h3
            go_enter Tryd.func53, Tryd.ntmps53
            go_wp2_with fail
            go_returns
            exact ⟨by rw [HE.out]; rfl, rfl⟩
          · have h6' : 70 < b := by omega
            have d6 : decide ((b : Int) ≤ 70) = false := by simp; omega
            have HE := Lib.hid (show B = false by rw [hB]; simp [isHex, hexv, h2, h3, h6])
            clear hB h2 h3 h6
            go_enter Tryd.func53, Tryd.ntmps53
            go_wp2_with fail
            go_returns
            exact ⟨by rw [HE.out]; rfl, rfl⟩
        · have h5' : b < 65 := by omega
          have HE := Lib.hid (show B = false by rw [hB]; simp [isHex, hexv, h2, h3, h5])
          clear hB h2 h3 h5
          go_enter Tryd.func53, Tryd.ntmps53
          go_wp2_with fail
          go_returns
          exact ⟨by rw [HE.out]; rfl, rfl⟩
  · have h1' : b < 48 := by omega
    have HE := Lib.hid (show B = false by rw [hB, isHex, hexv, if_neg (by omega), if_neg (by omega), if_neg (by omega)]; rfl)
    clear hB h1
    go_enter Tryd.func53, Tryd.ntmps53
    go_wp2_with fail
    go_returns
    exact ⟨by rw [HE.out]; rfl, rfl⟩
set_option maxRecDepth 100000 in
set_option maxHeartbeats 1000000 in
theorem hexDigit_walk (b : Nat) (hb : b < 256) (w : World) : Calls Tryd.prog 55 #[.int .u8 b] w fun e w' => e = .returned (.int .i64 (hexI b)) ∧ w' = w := by
  obtain ⟨B, hB⟩ : ∃ B, B = hexI b := ⟨_, rfl⟩
  rw [← hB]
  by_cases h1 : 48 ≤ b
  · by_cases h2 : b ≤ 57
    · have HE := Lib.hid (show B = (b : Int) - 48 by rw [hB]; simp [hexI, hexv, h1, h2]; omega)
      clear hB
      go_enter Tryd.func55, Tryd.ntmps55
      go_wp2_with fail
      go_returns
      exact ⟨by rw [HE.out]; rfl, rfl⟩
    · have h2' : 57 < b := by omega
      have d2 : decide ((b : Int) ≤ 57) = false := by simp; omega
      by_cases h3 : 97 ≤ b
      · by_cases h4 : b ≤ 102
        · have HE := Lib.hid (show B = (b : Int) - 97 + 10 by rw [hB]; simp [hexI, hexv, h2, h3, h4]; omega)
          clear hB
          go_enter Tryd.func55, Tryd.ntmps55
          go_wp2_with fail
          go_returns
          exact ⟨by rw [HE.out]; rfl, rfl⟩
        · have h4' : 102 < b := by omega
          have d4 : decide ((b : Int) ≤ 102) = false := by simp; omega
          have d6 : decide ((b : Int) ≤ 70) = false := by simp; omega
          have HE := Lib.hid (show B = -1 by rw [hB, hexI, hexv, if_neg (by omega), if_neg (by omega), if_neg (by omega)])
          clear hB h2 h4
          go_enter Tryd.func55, Tryd.ntmps55
          go_wp2_with fail
          go_returns
          exact ⟨by rw [HE.out]; rfl, rfl⟩
      · have h3' : b < 97 := by omega
        by_cases h5 : 65 ≤ b
        · by_cases h6 : b ≤ 70
          · have HE := Lib.hid (show B = (b : Int) - 65 + 10 by rw [hB]; simp [hexI, hexv, h2, h3, h5, h6]; omega)
            clear hB h2 h3
            go_enter Tryd.func55, Tryd.ntmps55
            go_wp2_with fail
            go_returns
            exact ⟨by rw [HE.out]; rfl, rfl⟩
          · have h6' : 70 < b := by omega
            have d6 : decide ((b : Int) ≤ 70) = false := by simp; omega
            have HE := Lib.hid (show B = -1 by rw [hB, hexI, hexv, if_neg (by omega), if_neg (by omega), if_neg (by omega)])
            clear hB h2 h3 h6
            go_enter Tryd.func55, Tryd.ntmps55
            go_wp2_with fail
            go_returns
            exact ⟨by rw [HE.out]; rfl, rfl⟩
        · have h5' : b < 65 := by omega
          have HE := Lib.hid (show B = -1 by rw [hB, hexI, hexv, if_neg (by omega), if_neg (by omega), if_neg (by omega)])
          clear hB h2 h3 h5
          go_enter Tryd.func55, Tryd.ntmps55
          go_wp2_with fail
          go_returns
          exact ⟨by rw [HE.out]; rfl, rfl⟩
  · have h1' : b < 48 := by omega
    have HE := Lib.hid (show B = -1 by rw [hB, hexI, hexv, if_neg (by omega), if_neg (by omega), if_neg (by omega)])
    clear hB h1
    go_enter Tryd.func55, Tryd.ntmps55
    go_wp2_with fail
    go_returns
    exact ⟨by rw [HE.out]; rfl, rfl⟩
end Go.Proofs.YtjhglhckdjnkgaaDoor.Url
