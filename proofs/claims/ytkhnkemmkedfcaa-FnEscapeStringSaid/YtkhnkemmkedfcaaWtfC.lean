/- The reference's WtfRune and small functions. The walks. -/
import Derived.Test.YtkhnkemmkedfcaaWtfB
import Derived.Deep.QuietTactic
import Derived.BigQuiet
namespace Go.Proofs.Ytkhnkemmkedfcaa.Wtf
open Go.RowKit Go.Proofs.Ytkhnkemmkedfcaa.Aid Go.Proofs.Ytkhnkemmkedfcaa.Runes Go.Proofs.Ytkhnkemmkedfcaa.Bytes
attribute [local go_sem ↓] Go.wp_at_zero Go.wp_at_succ
set_option linter.unusedVariables false
theorem wraps_u8 (n : Int) (h0 : 0 ≤ n) (h1 : n < 2 ^ 8) : IntKind.u8.wrap n = n := by rw [IntKind.wrap_u8]; omega
theorem and192_8 (x : Nat) (h : x < 256) : bits .and .u8 (x : Int) 192 = ((x / 64 * 64 : Nat) : Int) := by
  have h1 := (bits_nat .u8 8 (by decide) wraps_u8 x 192 (by omega) (by decide)).1
  rw [show ((192 : Nat) : Int) = 192 from rfl] at h1
  rw [h1]
  have h2 : ∀ y : Fin 256, (y.val &&& 192) = y.val / 64 * 64 := by decide +kernel
  rw [h2 ⟨x, h⟩]
theorem and63_8 (x : Nat) (h : x < 256) : bits .and .u8 (x : Int) 63 = ((x % 64 : Nat) : Int) := by
  have h1 := (bits_nat .u8 8 (by decide) wraps_u8 x 63 (by omega) (by decide)).1
  rw [show ((63 : Nat) : Int) = 63 from rfl] at h1
  rw [h1]
  have h2 : ∀ y : Fin 256, (y.val &&& 63) = y.val % 64 := by decide +kernel
  rw [h2 ⟨x, h⟩]
theorem or_d000 (x : Nat) (hx : x < 64) : bits .or .i64 53248 ((x : Int) * 64) = 53248 + (x : Int) * 64 :=
  bits_join .i64 63 (by decide) wraps_i64 12 53248 ((x : Int) * 64) (by omega) (by omega) (by omega) (by omega) (by omega) (by omega)
theorem or_d000' (x y : Nat) (hx : x < 64) (hy : y < 64) : bits .or .i64 (53248 + (x : Int) * 64) (y : Int) = ((53248 + x * 64 + y : Nat) : Int) := by
  have := bits_join .i64 63 (by decide) wraps_i64 6 (53248 + (x : Int) * 64) (y : Int) (by omega) (by omega) (by omega) (by omega) (by omega) (by omega)
  rw [this]
  omega
/-- The world, but for what was drawn. -/
def Drawn (w w' : World) : Prop := ∃ n, w' = w.drewN n
set_option maxRecDepth 100000 in
set_option maxHeartbeats 4000000 in
theorem wtfRune (s : ByteArray) (w : World) (hs : s.size ≤ 140737488351232) :
    Calls Try.prog 24 #[.string s] w fun e w' => e = .returned (.tuple #[.int .i64 (lrune (nats s)).1, .int .i64 (lrune (nats s)).2]) ∧ Drawn w w' := by
  have HR := rune_walk s 0 w hs (by omega)
  rw [show ((0 : Nat) : Int) = 0 from rfl] at HR
  by_cases hn : 0 < (rune s 0).2
  · rw [lrune_of_rune s hn]
    obtain ⟨r, n, hrn⟩ : ∃ r n, rune s 0 = (r, n) := ⟨_, _, rfl⟩
    rw [hrn] at HR hn ⊢
    have hn' : (0 : Int) < n := by have : 0 < n := hn; omega
    clear hrn hn
    go_enter Try.func24, Try.ntmps24
    go_wp2_with fail
    refine HR.mono ?_
    rintro e w' ⟨rfl, rfl⟩
    go_wp2_with fail
    go_returns
    exact ⟨rfl, 0, rfl⟩
  · have h0 : (rune s 0).2 = 0 := by omega
    obtain ⟨r, n, hrn⟩ : ∃ r n, rune s 0 = (r, n) := ⟨_, _, rfl⟩
    rw [hrn] at HR h0
    obtain rfl : n = 0 := h0
    obtain ⟨P, hP⟩ : ∃ P, P = lrune (nats s) := ⟨_, rfl⟩
    rw [← hP]
    have HRN := Lib.hid (show (rune s 0).2 = 0 by rw [hrn])
    have HP := Lib.hid hP
    rw [show ((0 : Nat) : Int) = 0 from rfl] at HR
    clear hrn hP hn
    by_cases q3 : s.size < 3
    · have t3 : (s.size : Int) < 3 := by omega
      have HE := Lib.hid (show P = (0, 0) by rw [HP.out]; exact lrune_none s HRN.out (fun h => by have := h.1; omega))
      clear q3
      go_enter Try.func24, Try.ntmps24
      go_wp2_with fail
      refine HR.mono ?_
      rintro e w' ⟨rfl, rfl⟩
      go_wp2_with fail
      go_returns
      exact ⟨by rw [HE.out]; rfl, 0, rfl⟩
    have t3 : (3 : Int) ≤ s.size := by omega
    have z0 : (0 : Int) < s.size := by omega
    have z1 : (1 : Int) < s.size := by omega
    have z2 : (2 : Int) < s.size := by omega
    have g0 : 0 < s.size := by omega
    have g1 : 1 < s.size := by omega
    have g2 : 2 < s.size := by omega
    obtain ⟨a, ha⟩ : ∃ a : Nat, a = byt s 0 := ⟨_, rfl⟩
    obtain ⟨b, hb⟩ : ∃ b : Nat, b = byt s 1 := ⟨_, rfl⟩
    obtain ⟨c, hc⟩ : ∃ c : Nat, c = byt s 2 := ⟨_, rfl⟩
    have ea : (s[0]'g0).toNat = a := by rw [ha, byt_eq s 0 g0]
    have eb : (s[1]'g1).toNat = b := by rw [hb, byt_eq s 1 g1]
    have ec : (s[2]'g2).toNat = c := by rw [hc, byt_eq s 2 g2]
    have b255 := byt_lt s 1
    have c255 := byt_lt s 2
    rw [← hb] at b255
    rw [← hc] at c255
    have HABC := Lib.hid (And.intro ha (And.intro hb hc))
    clear ha hb hc
    by_cases q0 : a = 237
    · have t0 : ((a : Int) != 237) = false := by simp; omega
      by_cases q1 : b < 160
      · have t1 : (b : Int) < 160 := by omega
        have HE := Lib.hid (show P = (0, 0) by rw [HP.out]; exact lrune_none s HRN.out (fun h => by have := h.2.2.1; have := HABC.out; omega))
        clear q0 q1 q3
        go_enter Try.func24, Try.ntmps24
        go_wp2_with fail
        refine HR.mono ?_
        rintro e w' ⟨rfl, rfl⟩
        go_wp2_with fail
        go_returns
        exact ⟨by rw [HE.out]; rfl, 0, rfl⟩
      by_cases q2 : 191 < b
      · have t1 : ¬ (b : Int) < 160 := by omega
        have t2 : (191 : Int) < b := by omega
        have HE := Lib.hid (show P = (0, 0) by rw [HP.out]; exact lrune_none s HRN.out (fun h => by have := h.2.2.2.1; have := HABC.out; omega))
        clear q0 q1 q3 q2
        go_enter Try.func24, Try.ntmps24
        go_wp2_with fail
        refine HR.mono ?_
        rintro e w' ⟨rfl, rfl⟩
        go_wp2_with fail
        go_returns
        exact ⟨by rw [HE.out]; rfl, 0, rfl⟩
      have t1 : ¬ (b : Int) < 160 := by omega
      have t2 : ¬ (191 : Int) < b := by omega
      have hh := and192_8 c c255
      obtain ⟨y, hy⟩ : ∃ y, y = c / 64 * 64 := ⟨_, rfl⟩
      rw [← hy] at hh
      by_cases q4 : c / 64 = 2
      · have t4 : ((y : Int) != 128) = false := by simp; omega
        have m1 := and63_8 b b255
        have m2 := and63_8 c c255
        obtain ⟨u, hu⟩ : ∃ u, u = b % 64 := ⟨_, rfl⟩
        obtain ⟨v, hv⟩ : ∃ v, v = c % 64 := ⟨_, rfl⟩
        rw [← hu] at m1
        rw [← hv] at m2
        have ub : u < 64 := by omega
        have vb : v < 64 := by omega
        have o1 := or_d000 u ub
        have o2 := or_d000' u v ub vb
        have HE := Lib.hid (show P = (53248 + u * 64 + v, 3) by
          have h := HABC.out
          rw [HP.out, lrune_sur s ⟨by omega, by omega, by omega, by omega, by omega⟩, ← h.2.1, ← h.2.2, hu, hv])
        clear q0 q1 q3 q2 q4 hy hu hv
        go_enter Try.func24, Try.ntmps24
        go_wp2_with fail
        refine HR.mono ?_
        rintro e w' ⟨rfl, rfl⟩
        go_wp2_with fail
        go_quiet (fail)
        go_wp2_with fail
        go_returns
        exact ⟨by rw [HE.out]; rfl, _, rfl⟩
      · have t4 : ((y : Int) != 128) = true := by simp; omega
        have HE := Lib.hid (show P = (0, 0) by rw [HP.out]; exact lrune_none s HRN.out (fun h => by have := h.2.2.2.2; have := HABC.out; omega))
        clear q0 q1 q3 q2 q4 hy
        go_enter Try.func24, Try.ntmps24
        go_wp2_with fail
        refine HR.mono ?_
        rintro e w' ⟨rfl, rfl⟩
        go_wp2_with fail
        go_returns
        exact ⟨by rw [HE.out]; rfl, 0, rfl⟩
    · have t0 : ((a : Int) != 237) = true := by simp; omega
      have HE := Lib.hid (show P = (0, 0) by rw [HP.out]; exact lrune_none s HRN.out (fun h => by have := h.2.1; have := HABC.out; omega))
      clear q0 q3
      go_enter Try.func24, Try.ntmps24
      go_wp2_with fail
      refine HR.mono ?_
      rintro e w' ⟨rfl, rfl⟩
      go_wp2_with fail
      go_returns
      exact ⟨by rw [HE.out]; rfl, 0, rfl⟩
set_option maxRecDepth 100000 in
set_option maxHeartbeats 1000000 in
theorem between_walk (a n b : Nat) (w : World) : Calls Try.prog 45 #[.int .i64 a, .int .i64 n, .int .i64 b] w fun e w' => e = .returned (.bool (decide (a ≤ n) && decide (n ≤ b))) ∧ w' = w := by
  obtain ⟨B, hB⟩ : ∃ B, B = (decide (a ≤ n) && decide (n ≤ b)) := ⟨_, rfl⟩
  rw [← hB]
  by_cases h1 : a ≤ n
  · by_cases h2 : n ≤ b
    · have HE := Lib.hid (show B = true by rw [hB]; simp [h1, h2])
      have d2 : decide (n ≤ b) = true := by simp [h2]
      clear hB
      go_enter Try.func45, Try.ntmps45
      go_wp2_with fail
      go_returns
      exact ⟨by rw [HE.out]; rfl, rfl⟩
    · have HE := Lib.hid (show B = false by rw [hB]; simp [h1, h2])
      have d2 : decide (n ≤ b) = false := by simp; omega
      clear hB
      go_enter Try.func45, Try.ntmps45
      go_wp2_with fail
      go_returns
      exact ⟨by rw [HE.out]; rfl, rfl⟩
  · have HE := Lib.hid (show B = false by rw [hB]; simp [h1])
    have d2 : decide (a ≤ n) = false := by simp; omega
    clear hB
    go_enter Try.func45, Try.ntmps45
    go_wp2_with fail
    go_returns
    exact ⟨by rw [HE.out]; rfl, rfl⟩
theorem trail_walk (r : Nat) (w : World) : Calls Try.prog 25 #[.int .i64 r] w fun e w' => e = .returned (.bool (trail r)) ∧ w' = w := by
  have H := Lib.hid (between_walk 56320 r 57343 w)
  obtain ⟨B, hB⟩ : ∃ B, B = trail r := ⟨_, rfl⟩
  rw [← hB]
  rw [show (decide (56320 ≤ r) && decide (r ≤ 57343)) = B from hB.symm] at H
  clear hB
  go_enter Try.func25, Try.ntmps25
  go_wp2_with fail
  refine (H.out).mono ?_
  rintro e w' ⟨rfl, rfl⟩
  go_wp2_with fail
  go_returns
  exact ⟨rfl, rfl⟩
theorem lead_walk (r : Nat) (w : World) : Calls Try.prog 26 #[.int .i64 r] w fun e w' => e = .returned (.bool (lead r)) ∧ w' = w := by
  have H := Lib.hid (between_walk 55296 r 56319 w)
  obtain ⟨B, hB⟩ : ∃ B, B = lead r := ⟨_, rfl⟩
  rw [← hB]
  rw [show (decide (55296 ≤ r) && decide (r ≤ 56319)) = B from hB.symm] at H
  clear hB
  go_enter Try.func26, Try.ntmps26
  go_wp2_with fail
  refine (H.out).mono ?_
  rintro e w' ⟨rfl, rfl⟩
  go_wp2_with fail
  go_returns
  exact ⟨rfl, rfl⟩
end Go.Proofs.Ytkhnkemmkedfcaa.Wtf
