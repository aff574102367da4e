/- The reference's digits of base 16 and escapes of JSON, where they are well formed. The walks. -/
import Derived.Test.YtkhnkemmkedfcaaWtfD
namespace Go.Proofs.Ytkhnkemmkedfcaa.Wtf
open Go.RowKit Go.Proofs.Ytkhnkemmkedfcaa.Aid Go.Proofs.Ytkhnkemmkedfcaa.Runes Go.Proofs.Ytkhnkemmkedfcaa.Bytes
attribute [local go_sem ↓] Go.wp_at_zero Go.wp_at_succ
set_option linter.unusedVariables false
theorem between_is {a n b : Nat} {v : Bool} (h : (decide (a ≤ n) && decide (n ≤ b)) = v) (w : World) : Calls Try.prog 45 #[.int .i64 a, .int .i64 n, .int .i64 b] w fun e w' => e = .returned (.bool v) ∧ w' = w := by
  rw [← h]
  exact between_walk a n b w
theorem digit_walk (r : Nat) (w : World) (v : Bool) (h : (decide (48 ≤ r) && decide (r ≤ 57)) = v) : Calls Try.prog 54 #[.int .i64 r] w fun e w' => e = .returned (.bool v) ∧ w' = w := by
  have H := Lib.hid (between_is h w)
  clear h
  go_enter Try.func54, Try.ntmps54
  go_wp2_with fail
  refine (H.out).mono ?_
  rintro e w' ⟨rfl, rfl⟩
  go_wp2_with fail
  go_returns
  exact ⟨rfl, rfl⟩
set_option maxRecDepth 100000 in
set_option maxHeartbeats 1000000 in
theorem hex_walk (r v : Nat) (h : hexv r = some v) (w : World) : Calls Try.prog 71 #[.int .i64 r] w fun e w' => e = .returned (.int .i64 v) ∧ w' = w := by
  by_cases h1 : 48 ≤ r ∧ r ≤ 57
  · have HD := Lib.hid (digit_walk r w true (by simp [h1]))
    have HE := Lib.hid (show (v : Int) = (r : Int) - 48 by rw [hexv, if_pos h1] at h; injection h with h; omega)
    have b1 : 48 ≤ r := h1.1
    have b2 : r ≤ 57 := h1.2
    clear h h1
    go_enter Try.func71, Try.ntmps71
    go_wp2_with fail
    refine (HD.out).mono ?_
    rintro e w' ⟨rfl, rfl⟩
    go_wp2_with fail
    go_returns
    exact ⟨by rw [HE.out]; rfl, rfl⟩
  · have HD := Lib.hid (digit_walk r w false (by simp; omega))
    by_cases h2 : 97 ≤ r ∧ r ≤ 102
    · have HB := Lib.hid (between_is (a := 97) (n := r) (b := 102) (v := true) (by simp [h2]) w)
      have HE := Lib.hid (show (v : Int) = (r : Int) - 97 + 10 by rw [hexv, if_neg h1, if_pos h2] at h; injection h with h; omega)
      have b1 : 97 ≤ r := h2.1
      have b2 : r ≤ 102 := h2.2
      clear h h1 h2
      go_enter Try.func71, Try.ntmps71
      go_wp2_with fail
      refine (HD.out).mono ?_
      rintro e w' ⟨rfl, rfl⟩
      go_wp2_with fail
      refine (HB.out).mono ?_
      rintro e w' ⟨rfl, rfl⟩
      go_wp2_with fail
      go_returns
      exact ⟨by rw [HE.out]; rfl, rfl⟩
    · have h3 : 65 ≤ r ∧ r ≤ 70 := by
        rw [hexv, if_neg h1, if_neg h2] at h
        split at h
        · assumption
        · cases h
      have HB := Lib.hid (between_is (a := 97) (n := r) (b := 102) (v := false) (by simp; omega) w)
      have HC := Lib.hid (between_is (a := 65) (n := r) (b := 70) (v := true) (by simp [h3]) w)
      have HE := Lib.hid (show (v : Int) = (r : Int) - 65 + 10 by rw [hexv, if_neg h1, if_neg h2, if_pos h3] at h; injection h with h; omega)
      have b1 : 65 ≤ r := h3.1
      have b2 : r ≤ 70 := h3.2
      clear h h1 h2 h3
      go_enter Try.func71, Try.ntmps71
      go_wp2_with fail
      refine (HD.out).mono ?_
      rintro e w' ⟨rfl, rfl⟩
      go_wp2_with fail
      refine (HB.out).mono ?_
      rintro e w' ⟨rfl, rfl⟩
      go_wp2_with fail
      refine (HC.out).mono ?_
      rintro e w' ⟨rfl, rfl⟩
      go_wp2_with fail
      go_returns
      exact ⟨by rw [HE.out]; rfl, rfl⟩
/-- Four digits of base 16 at the end of a text. -/
theorem numRun_four (s : ByteArray) (at_ : Nat) (w : World) (hs : s.size ≤ 140737488351232) (hsz : s.size = at_ + 4) (hd : ∀ j, j < 4 → ∃ v, hexv (byt s (at_ + j)) = some v) :
    Calls Try.prog 70 #[.string s, .int .i64 at_, .int .i64 16] w fun e w' => e = .returned (.int .i64 4) ∧ w' = w := by
  have HD := Lib.hid hd
  have HSZ := Lib.hid hsz
  have hab : at_ ≤ 140737488351232 := by omega
  clear hd hsz
  go_enter Try.func70, Try.ntmps70
  go_wp2_with fail
  go_loop [7] (fun n => ∃ k : Nat, k ≤ 4 ∧ n = .int .i64 k) (fun n => 4 - (intOf n).toNat)
  case atStart => exact ⟨0, by omega, rfl⟩
  case round =>
    obtain ⟨k, hk, rfl⟩ := hrel
    by_cases hlt : k < 4
    · obtain ⟨v, hv⟩ := HD.out k hlt
      have hlt2 : at_ + k < s.size := by have := HSZ.out; omega
      have i1 : ((at_ + k : Nat) : Int) < s.size := by omega
      obtain ⟨b, hb⟩ : ∃ b : Nat, b = byt s (at_ + k) := ⟨_, rfl⟩
      have eb : (s[at_ + k]'hlt2).toNat = b := by rw [hb, byt_eq s _ hlt2]
      have b255 := byt_lt s (at_ + k)
      rw [← hb] at hv b255
      have hv16 := hexv_lt hv
      have HX := Lib.hid (fun w => hex_walk b v hv w)
      have HLT := Lib.hid hlt
      clear hb hv hlt
      go_wp2_with fail
      refine (HX.out _).mono ?_
      rintro e w' ⟨rfl, rfl⟩
      go_wp2_with fail
      refine (HX.out _).mono ?_
      rintro e w' ⟨rfl, rfl⟩
      go_wp2_with fail
      go_round
      case rel => exact ⟨k + 1, HLT.out, by go_num⟩
      case measure => have := HLT.out; simp [intOf]; omega
    · have hk4 : k = 4 := by omega
      have i1 : ¬ (at_ : Int) + (k : Int) < s.size := by have := HSZ.out; omega
      have i2 : decide ((at_ : Int) + (k : Int) < s.size) = false := by simp; have := HSZ.out; omega
      have i3 : decide (at_ + k < s.size) = false := by simp; have := HSZ.out; omega
      have HK := Lib.hid hk4
      clear hk4 hlt
      go_wp2_with fail
      go_returns
      exact ⟨by rw [HK.out]; rfl, rfl⟩
end Go.Proofs.Ytkhnkemmkedfcaa.Wtf
