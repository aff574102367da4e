/- The statement FnRangeOfNumber. The walk. -/
import Derived.Test.YtefippeaalkmeaaScM
namespace Go.Proofs.Ytefippeaalkmeaa.Scan
open Go.RowKit Go.Proofs.Ytefippeaalkmeaa.Aid Go.Proofs.Ytefippeaalkmeaa.Runes Go.Proofs.Ytefippeaalkmeaa.Bytes Go.Proofs.Ytefippeaalkmeaa.Nats
attribute [local go_sem ↓] Go.wp_at_zero Go.wp_at_succ
set_option linter.unusedVariables false
set_option maxRecDepth 100000 in
set_option maxHeartbeats 4000000 in
theorem wellFormed_any (s : ByteArray) (w : World) (hs : s.size ≤ 4096) : Calls Try.prog 5 #[.string s] w (SomeBool w) := by
  have HR := Lib.hid (fun p w (hp : p ≤ s.size) => rune_walk s p w (by omega) (by omega))
  have HRP := Lib.hid (fun p r n (h : rune s p = (r, n)) (hn : 0 < n) => (rune_pos h hn).2.2.2.1)
  go_enter Try.func5, Try.ntmps5
  go_wp2_with fail
  go_loopw [3] (fun iv wr => ∃ p : Nat, iv = .int .i64 p ∧ p ≤ s.size ∧ wr = w) (fun iv _ => s.size - (intOf iv).toNat)
  case atStart => exact ⟨0, rfl, Nat.zero_le _, rfl⟩
  case round =>
    obtain ⟨p, rfl, hp, rfl⟩ := hrel
    have HRW := Lib.hid (HR.out p wr hp)
    obtain ⟨r, n, hrn⟩ : ∃ r n, rune s p = (r, n) := ⟨_, _, rfl⟩
    rw [hrn] at HRW
    have HPP := Lib.hid (fun hn => HRP.out p r n hrn hn)
    clear hrn
    by_cases hlt : p < s.size
    · have q1 : (p : Int) < s.size := by omega
      by_cases hn : n = 0
      · have t0 : ((n : Int) == 0) = true := by rw [hn]; rfl
        clear hn
        go_wp2_with fail
        refine HRW.out.mono ?_
        rintro e w' ⟨rfl, rfl⟩
        go_wp2_with fail
        go_returns
        exact ⟨⟨_, rfl⟩, rfl⟩
      · have t0 : ((n : Int) == 0) = false := by rw [beq_eq_false_iff_ne]; omega
        have hpn := HPP.out (by omega)
        have HN := Lib.hid hn
        clear hn
        go_wp2_with fail
        refine HRW.out.mono ?_
        rintro e w' ⟨rfl, rfl⟩
        go_wp2_with fail
        go_roundw
        case rel => exact ⟨p + n, val_int (by omega), hpn, trivial⟩
        case measure => have := HN.out; simp [intOf]; omega
    · have q1 : ¬ (p : Int) < s.size := by omega
      clear hlt
      go_wp2_with fail
      go_returns
      exact ⟨⟨_, rfl⟩, rfl⟩
theorem awake_num : IsNum ⟨#[49, 50]⟩ ((0 : Nat) : Int) 2 := by
  have b0 : byt ⟨#[49, 50]⟩ 0 = 49 := rfl
  have b1 : byt ⟨#[49, 50]⟩ 1 = 50 := rfl
  have hz : (⟨#[49, 50]⟩ : ByteArray).size = 2 := rfl
  refine ⟨0, rfl, by rw [hz]; omega, by rw [b0]; omega, by rw [b0]; omega, by rw [hz]; omega, fun i h1 h2 => ?_, fun h => by rw [hz] at h; omega⟩
  rcases (by omega : i = 0 ∨ i = 1) with rfl | rfl
  · rw [b0]; unfold Lit; omega
  · rw [b1]; unfold Lit; omega
set_option maxRecDepth 100000 in
set_option maxHeartbeats 8000000 in
theorem law (s : ByteArray) (loc : Int) (w : World) : Calls Try.prog 3 #[.string s, .int .i64 loc] w fun e w' => e = .returned (.bool true) ∧ Below w.heap.size w w' := by
  by_cases hbig : 2147483647 < s.size
  · have q1 : (2147483647 : Int) < (s.size : Int) := by omega
    clear hbig
    go_enter Try.func3, Try.ntmps3
    go_wp2_with fail
    go_returns
    exact ⟨rfl, Below.refl _ _⟩
  · have q1 : ¬ (2147483647 : Int) < (s.size : Int) := by omega
    have HS31 := Lib.hid (show s.size ≤ 2147483647 by omega)
    have HAW := Lib.hid (show Calls Try.prog 4 #[.string ⟨#[49, 50]⟩, .int .i64 0] w fun e w' => e = .returned (.tuple #[.int .i64 0, .int .i64 2]) ∧ Below w.heap.size w w' from implRange ⟨#[49, 50]⟩ 0 2 w (by decide) (by omega) awake_num)
    clear hbig
    by_cases h12 : s.size ≤ 4096
    · have q2 : (s.size : Int) ≤ 4096 := by omega
      have HWF := Lib.hid (fun w => wellFormed_any s w h12)
      have HNA := Lib.hid (fun w => numberAt s loc w h12)
      clear h12
      go_enter Try.func3, Try.ntmps3
      go_wp2_with fail
      refine HAW.out.mono ?_
      rintro e W1 ⟨rfl, hb1⟩
      have HB1 := Lib.hid hb1
      clear hb1
      go_wp2_with fail
      refine (HWF.out _).mono ?_
      rintro e W1 ⟨⟨B, rfl⟩, rfl⟩
      cases B with
      | false =>
        go_wp2_with fail
        go_returns
        exact ⟨rfl, HB1.out⟩
      | true =>
        go_wp2_with fail
        refine (HNA.out _).mono ?_
        rintro e W2 ⟨hb2, n, rfl, hn⟩
        have HB2 := Lib.hid (HB1.out.trans (hb2.mono HB1.out.size))
        have HN := Lib.hid hn
        clear hb2 hn
        by_cases h0 : n = 0
        · have t0 : ((n : Int) == 0) = true := by rw [h0]; rfl
          clear h0
          go_wp2_with fail
          go_returns
          exact ⟨rfl, HB2.out⟩
        · have t0 : ((n : Int) == 0) = false := by rw [beq_eq_false_iff_ne]; omega
          have hI := HN.out h0
          obtain ⟨p, hp⟩ : ∃ p : Nat, loc = (p : Int) := by
            obtain ⟨p, hp, _⟩ := hI
            exact ⟨p, hp⟩
          subst hp
          have HIR := Lib.hid (fun w => implRange s p n w HS31.out (by omega) hI)
          have t1 : ((p : Int) == (p : Int)) = true := by simp
          have t2 : ((n : Int) == (n : Int)) = true := by simp
          clear h0 hI
          go_wp2_with fail
          refine (HIR.out _).mono ?_
          rintro e W3 ⟨rfl, hb3⟩
          have HB3 := Lib.hid (HB2.out.trans (hb3.mono HB2.out.size))
          clear hb3
          go_wp2_with fail
          go_returns
          exact ⟨rfl, HB3.out⟩
    · have q2 : ¬ (s.size : Int) ≤ 4096 := by omega
      clear h12
      go_enter Try.func3, Try.ntmps3
      go_wp2_with fail
      refine HAW.out.mono ?_
      rintro e W1 ⟨rfl, hb1⟩
      have HB1 := Lib.hid hb1
      clear hb1
      go_wp2_with fail
      go_returns
      exact ⟨rfl, HB1.out⟩
theorem whole (s : ByteArray) (loc : Int) (w : World) (h0 : s.size ≤ 140737488351232) (h1 : (Lit.int .i64 loc).wf = true) : Calls Try.prog 3 #[.string s, .int .i64 loc] w fun e w' => e = .returned (.bool true) ∧ Below w.heap.size w w' := law s loc w
end Go.Proofs.Ytefippeaalkmeaa.Scan
