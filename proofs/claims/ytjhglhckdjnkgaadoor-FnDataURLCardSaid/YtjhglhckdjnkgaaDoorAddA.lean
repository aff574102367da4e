/- Well-formedness, line ends, rounded places: the reference's small functions. The walks. -/
import Derived.Test.YtjhglhckdjnkgaaDoorRuneW
import Derived.Test.YtjhglhckdjnkgaaDoorPlaces
namespace Go.Proofs.YtjhglhckdjnkgaaDoor.Runes
open Go.RowKit Go.Proofs.YtjhglhckdjnkgaaDoor.Aid
attribute [local go_sem ↓] Go.wp_at_zero Go.wp_at_succ
set_option linter.unusedVariables false
set_option maxRecDepth 100000 in
set_option maxHeartbeats 1000000 in
theorem wellFormed (s : ByteArray) (w : World) (hs : s.size ≤ 140737488351232) :
    Calls Tryd.prog 7 #[.string s] w fun e w' => e = .returned (.bool (wf s 0)) ∧ w' = w := by
  obtain ⟨B, hB⟩ : ∃ B, B = wf s 0 := ⟨_, rfl⟩
  rw [← hB]
  have HB := Lib.hid hB
  clear hB
  go_enter Tryd.func7, Tryd.ntmps7
  go_wp2_with fail
  go_loop [3] (fun a => ∃ k : Nat, k ≤ s.size ∧ a = .int .i64 k ∧ B = wf s k) (fun a => s.size - (intOf a).toNat)
  case atStart => exact ⟨0, Nat.zero_le _, rfl, HB.out⟩
  case round =>
    obtain ⟨k, hk, rfl, hw⟩ := hrel
    have HW := Lib.hid hw
    clear hw
    by_cases hlt : k < s.size
    · have HR := rune_walk s k w hs (by omega)
      have hlt' : (k : Int) < s.size := by omega
      obtain ⟨r, n, hrn⟩ : ∃ r n, rune s k = (r, n) := ⟨_, _, rfl⟩
      rw [hrn] at HR
      by_cases hn : n = 0
      · have HE := Lib.hid (show B = false by rw [HW.out, wf_no hlt (by rw [hrn]; exact hn)])
        subst hn
        clear hrn
        go_wp2_with fail
        refine HR.mono ?_
        rintro e w' ⟨rfl, rfl⟩
        go_wp2_with fail
        go_returns
        exact ⟨by rw [HE.out]; rfl, rfl⟩
      · have hp := rune_pos hrn (by omega)
        have h4 := hp.2.2.1
        have h5 := hp.2.2.2.1
        have hnp : 0 < n := by omega
        have hne : ((n : Int) == 0) = false := by simp; omega
        have HE := Lib.hid (show B = wf s (k + n) by rw [HW.out, wf_next hlt (by rw [hrn]; exact hnp), hrn])
        clear hrn hp hn
        go_wp2_with fail
        refine HR.mono ?_
        rintro e w' ⟨rfl, rfl⟩
        go_wp2_with fail
        go_round
        case rel => exact ⟨k + n, h5, val_int (by omega), HE.out⟩
        case measure => simp [intOf]; omega
    · have hge : (s.size : Int) ≤ k := by omega
      have HE := Lib.hid (show B = true by rw [HW.out, wf_end hlt])
      clear hlt
      go_wp2_with fail
      go_returns
      exact ⟨by rw [HE.out]; rfl, rfl⟩
set_option maxRecDepth 100000 in
set_option maxHeartbeats 1000000 in
theorem lineEnd_walk (r : Nat) (w : World) : Calls Tryd.prog 28 #[.int .i64 r] w fun e w' => e = .returned (.bool (lineEnd r)) ∧ w' = w := by
  obtain ⟨B, hB⟩ : ∃ B, B = lineEnd r := ⟨_, rfl⟩
  rw [← hB]
  have HB := Lib.hid hB
  clear hB
  by_cases h1 : r = 10
  · have h1' : ((r : Int) == 10) = true := by simp; omega
    have HE := Lib.hid (show B = true by rw [HB.out, h1]; rfl)
    clear h1
    go_enter Tryd.func28, Tryd.ntmps28
    go_wp2_with fail
    go_returns
    exact ⟨by rw [HE.out]; rfl, rfl⟩
  have h1' : ((r : Int) == 10) = false := by simp; omega
  by_cases h2 : r = 13
  · have h2' : ((r : Int) == 13) = true := by simp; omega
    have HE := Lib.hid (show B = true by rw [HB.out, h2]; rfl)
    clear h1 h2
    go_enter Tryd.func28, Tryd.ntmps28
    go_wp2_with fail
    go_returns
    exact ⟨by rw [HE.out]; rfl, rfl⟩
  have h2' : ((r : Int) == 13) = false := by simp; omega
  by_cases h3 : r = 8232
  · have h3' : ((r : Int) == 8232) = true := by simp; omega
    have HE := Lib.hid (show B = true by rw [HB.out, h3]; rfl)
    clear h1 h2 h3
    go_enter Tryd.func28, Tryd.ntmps28
    go_wp2_with fail
    go_returns
    exact ⟨by rw [HE.out]; rfl, rfl⟩
  have h3' : ((r : Int) == 8232) = false := by simp; omega
  by_cases h4 : r = 8233
  · have h4' : ((r : Int) == 8233) = true := by simp; omega
    have HE := Lib.hid (show B = true by rw [HB.out, h4]; rfl)
    clear h1 h2 h3 h4
    go_enter Tryd.func28, Tryd.ntmps28
    go_wp2_with fail
    go_returns
    exact ⟨by rw [HE.out]; rfl, rfl⟩
  have h4' : ((r : Int) == 8233) = false := by simp; omega
  have HE := Lib.hid (show B = false by rw [HB.out]; simp [lineEnd, h1, h2, h3, h4])
  clear h1 h2 h3 h4
  go_enter Tryd.func28, Tryd.ntmps28
  go_wp2_with fail
  go_returns
  exact ⟨by rw [HE.out]; rfl, rfl⟩
theorem and_high8 (x : Nat) (h : x < 256) : bits .and .u8 (x : Int) 192 = ((x / 64 * 64 : Nat) : Int) := by
  have h1 := (bits_nat .u8 8 (by decide) (fun n h0 h1 => by rw [IntKind.wrap_u8]; omega) x 192 (by omega) (by decide)).1
  rw [show ((192 : Nat) : Int) = 192 from rfl] at h1
  rw [h1]
  have h2 : ∀ y : Fin 256, (y.val &&& 192) = y.val / 64 * 64 := by decide +kernel
  rw [h2 ⟨x, h⟩]
/-- A byte's place is where a code point begins, or the end, and not within CR LF. -/
def rounded (s : ByteArray) (i : Nat) : Bool := decide (¬ (i < s.size ∧ byt s i / 64 = 2) ∧ (i = 0 ∨ i = s.size ∨ byt s (i - 1) ≠ 13 ∨ byt s i ≠ 10))
set_option maxRecDepth 100000 in
set_option maxHeartbeats 1000000 in
theorem rounded_walk (s : ByteArray) (i : Nat) (w : World) (hs : s.size ≤ 140737488351232) (hi : i ≤ s.size) :
    Calls Tryd.prog 8 #[.string s, .int .i64 i] w fun e w' => e = .returned (.bool (rounded s i)) ∧ w' = w := by
  obtain ⟨B, hB⟩ : ∃ B, B = rounded s i := ⟨_, rfl⟩
  rw [← hB]
  have HB := Lib.hid hB
  clear hB
  have n0 : ¬ ((i : Int) < 0) := by omega
  by_cases hend : i = s.size
  · have HE := Lib.hid (show B = true by rw [HB.out, rounded]; simp [hend])
    have e1 : ((i : Int) == (s.size : Int)) = true := by simp; omega
    have e2 : ¬ i < s.size := by omega
    have e3 : ¬ (i : Int) < s.size := by omega
    have e4 : ¬ (s.size : Int) < i := by omega
    have HEN := Lib.hid hend
    clear hend
    by_cases h0 : i = 0
    · have h0' : ((i : Int) == 0) = true := by simp; omega
      clear h0
      go_enter Tryd.func8, Tryd.ntmps8
      go_wp2_with fail
      go_returns
      exact ⟨by rw [HE.out]; rfl, rfl⟩
    · have h0' : ((i : Int) == 0) = false := by simp; omega
      clear h0
      go_enter Tryd.func8, Tryd.ntmps8
      go_wp2_with fail
      go_returns
      exact ⟨by rw [HE.out]; rfl, rfl⟩
  · have hlt : i < s.size := by omega
    have e3 : (i : Int) < s.size := by omega
    have e1 : ((i : Int) == (s.size : Int)) = false := by simp; omega
    obtain ⟨c, ec⟩ : ∃ c : Nat, (s[i]'hlt).toNat = c := ⟨_, rfl⟩
    have ec' := byt_eq s i hlt
    rw [ec] at ec'
    have hc := byt_lt s i
    rw [ec'] at hc
    have hh := and_high8 c hc
    obtain ⟨y, hy⟩ : ∃ y, y = c / 64 * 64 := ⟨_, rfl⟩
    rw [← hy] at hh
    by_cases hg : c / 64 = 2
    · have HE := Lib.hid (show B = false by rw [HB.out, rounded, ec']; simp [hlt, hg])
      have y1 : ((y : Int) == 128) = true := by simp; omega
      clear hg hy ec' hend
      go_enter Tryd.func8, Tryd.ntmps8
      go_wp2_with fail
      go_returns
      exact ⟨by rw [HE.out]; rfl, rfl⟩
    · have y1 : ((y : Int) == 128) = false := by simp; omega
      by_cases h0 : i = 0
      · have HE := Lib.hid (show B = true by rw [HB.out, rounded, ec']; simp [h0]; omega)
        have h0' : ((i : Int) == 0) = true := by simp; omega
        clear hg hy ec' hend h0
        go_enter Tryd.func8, Tryd.ntmps8
        go_wp2_with fail
        go_returns
        exact ⟨by rw [HE.out]; rfl, rfl⟩
      · have h0' : ((i : Int) == 0) = false := by simp; omega
        have hlt1 : i - 1 < s.size := by omega
        have hc1 : ((i : Int) - 1).toNat = i - 1 := by omega
        have hc0 : (0 : Int) ≤ (i : Int) - 1 := by omega
        have hc2 : (i : Int) - 1 < s.size := by omega
        obtain ⟨d, ed⟩ : ∃ d : Nat, (s[i - 1]'hlt1).toNat = d := ⟨_, rfl⟩
        have ed' := byt_eq s (i - 1) hlt1
        rw [ed] at ed'
        by_cases hd : d = 13
        · have hd' : ((d : Int) != 13) = false := by simp; omega
          by_cases hcc : c = 10
          · have hc' : ((c : Int) != 10) = false := by simp; omega
            have HE := Lib.hid (show B = false by rw [HB.out, rounded, ec', ed']; simp [hd, hcc, h0, hend])
            clear hg hy ec' ed' hend h0 hd hcc hc
            go_enter Tryd.func8, Tryd.ntmps8
            go_wp2_with fail
            go_returns
            exact ⟨by rw [HE.out]; rfl, rfl⟩
          · have hc' : ((c : Int) != 10) = true := by simp; omega
            have HE := Lib.hid (show B = true by rw [HB.out, rounded, ec', ed']; simp [hcc, hg])
            clear hg hy ec' ed' hend h0 hd hcc hc
            go_enter Tryd.func8, Tryd.ntmps8
            go_wp2_with fail
            go_returns
            exact ⟨by rw [HE.out]; rfl, rfl⟩
        · have hd' : ((d : Int) != 13) = true := by simp; omega
          have HE := Lib.hid (show B = true by rw [HB.out, rounded, ec', ed']; simp [hd, hg])
          clear hg hy ec' ed' hend h0 hd hc
          go_enter Tryd.func8, Tryd.ntmps8
          go_wp2_with fail
          go_returns
          exact ⟨by rw [HE.out]; rfl, rfl⟩
end Go.Proofs.YtjhglhckdjnkgaaDoor.Runes
