/- Go's math: the remainder by 2 to the power of 32. The walk. -/
import Derived.Test.YtkhnkemmkedfcaaFloA
namespace Go.Proofs.Ytkhnkemmkedfcaa.Flo
open Ieee Go.RowKit Go.Proofs.Ytkhnkemmkedfcaa.Aid
attribute [local go_sem ↓] Go.wp_at_zero Go.wp_at_succ
set_option linter.unusedVariables false
set_option maxRecDepth 100000 in
theorem frexp' (K : Nat) (p : Int) (w : World) (h : Nrm K p) : Calls Try.prog 90 #[.float .f64 (W K p)] w fun e w' => e = .returned (.tuple #[.float .f64 (W K (-53)), .int .i64 (p + 53)]) ∧ w' = w := by
  have H := Lib.hid (frexp K p w h)
  obtain ⟨x, hx⟩ : ∃ x, x = W K p := ⟨_, rfl⟩
  obtain ⟨z, hz⟩ : ∃ z, z = W K (-53) := ⟨_, rfl⟩
  rw [← hx, ← hz] at H ⊢
  clear hx hz
  go_enter Try.func90, Try.ntmps90
  go_wp2_with fail
  refine H.out.mono ?_
  rintro e w' ⟨rfl, rfl⟩
  go_wp2_with fail
  go_returns
  exact ⟨rfl, rfl⟩
set_option maxRecDepth 100000 in
theorem ldexp' (K : Nat) (p e : Int) (w : World) (h : Nrm K p) (h2 : Nrm K (p + e)) : Calls Try.prog 91 #[.float .f64 (W K p), .int .i64 e] w fun en w' => en = .returned (.float .f64 (W K (p + e))) ∧ w' = w := by
  have H := Lib.hid (ldexp K p e w h h2)
  obtain ⟨x, hx⟩ : ∃ x, x = W K p := ⟨_, rfl⟩
  obtain ⟨z, hz⟩ : ∃ z, z = W K (p + e) := ⟨_, rfl⟩
  rw [← hx, ← hz] at H ⊢
  clear hx hz h h2
  go_enter Try.func91, Try.ntmps91
  go_wp2_with fail
  refine H.out.mono ?_
  rintro e w' ⟨rfl, rfl⟩
  go_wp2_with fail
  go_returns
  exact ⟨rfl, rfl⟩
/-- How far below the ones the least digit of a double stands; 52 more than that below the 32nd. -/
def e74 : Nat := 1074
def e54 : Nat := 1054
def top : Nat := 4503599627370496 * 2 ^ e54
theorem e_is : 52 + e54 = 32 + e74 := by decide
/-- The same but for whole parts above the 32nd. -/
def Cong (a b : Nat) : Prop := V a % top = V b % top
theorem V_W {K : Nat} {p : Int} (h : Nrm K p) : V (W K p) = K * 2 ^ (p + 1074).toNat := by
  have hl := W_lt h
  have hd := W_div h
  have hm : mant (W K p) = K := by
    unfold mant
    rw [rung_small hl, if_neg (by unfold W; have := h.1; omega), hd.2]
    have := h.1
    omega
  have hp : pe (W K p) = (p + 1074).toNat := by unfold pe; rw [hd.1]; omega
  rw [V, hm, hp]
theorem V_top : V 4751297606875873280 = top := by
  have h : (4751297606875873280 : Nat) = W 4503599627370496 (-20) := by decide
  have e : ((-20 : Int) + 1074).toNat = e54 := by decide
  rw [h, V_W ⟨by omega, by omega, by omega, by omega⟩, e]
  rfl
theorem V_zero : V 0 = 0 := by
  have : mant 0 = 0 := by decide
  rw [V, this, Nat.zero_mul]
/-- A round of the remainder: the first digit goes. -/
def next (K : Nat) (p : Int) : Nat := if K = 4503599627370496 then 0 else W ((K - 4503599627370496) * 2 ^ (52 - (K - 4503599627370496).log2)) (p - ((52 - (K - 4503599627370496).log2 : Nat) : Int))
theorem next_is {K : Nat} {p : Int} (h : Nrm K p) (hp : -20 ≤ p) : next K p < W K p ∧ Cong (next K p) (W K p) := by
  have hk := h.1
  have hl := W_lt h
  have hv : V (next K p) + 4503599627370496 * 2 ^ (p + 1074).toNat = V (W K p) := by
    rw [V_W h]
    unfold next
    by_cases hz : K = 4503599627370496
    · rw [if_pos hz, V_zero, hz, Nat.zero_add]
    · rw [if_neg hz]
      obtain ⟨F, hF⟩ : ∃ F, F = K - 4503599627370496 := ⟨_, rfl⟩
      rw [← hF]
      have hn := (near_left F p (by omega) (by have := h.2.1; omega) (by omega) h.2.2.2).2
      have hL : F.log2 ≤ 52 := by
        have := (Nat.log2_lt (n := F) (k := 53) (by omega)).2 (by have := h.2.1; omega)
        omega
      rw [V_W hn, Nat.mul_assoc, ← Nat.pow_add]
      have e : 52 - F.log2 + (p - ((52 - F.log2 : Nat) : Int) + 1074).toNat = (p + 1074).toNat := by omega
      rw [e, ← Nat.add_mul]
      congr 1
      omega
  have hpos := Nat.two_pow_pos (p + 1074).toNat
  refine ⟨?_, ?_⟩
  · rcases Nat.lt_or_ge (next K p) (W K p) with h1 | h1
    · exact h1
    · exfalso
      rcases Nat.lt_or_ge (W K p) (next K p) with h2 | h2
      · have hnl : next K p < 9218868437227405312 := by
          unfold next
          split
          · omega
          · rename_i hz
            exact W_lt (near_left (K - 4503599627370496) p (by omega) (by have := h.2.1; omega) (by omega) h.2.2.2).2
        have := V_mono h2 hnl
        omega
      · have e : next K p = W K p := by omega
        rw [e] at hv
        omega
  · unfold Cong
    rw [← hv]
    obtain ⟨n, hn⟩ : ∃ n, n = (p + 1074).toNat := ⟨_, rfl⟩
    rw [← hn]
    have hge : e54 + (n - e54) = n := by unfold e54; omega
    have e : 4503599627370496 * 2 ^ n = top * 2 ^ (n - e54) := by
      have h1 := Nat.pow_add 2 e54 (n - e54)
      rw [hge] at h1
      rw [h1, top, Nat.mul_assoc]
    rw [e, Nat.add_mul_mod_self_left]
/-- What is left. -/
def ModPost (b : Nat) (w : World) (e : Ending) (w' : World) : Prop := w' = w ∧ ∃ r, e = .returned (.float .f64 r) ∧ r < 4751297606875873280 ∧ Cong r b
set_option maxRecDepth 100000 in
set_option maxHeartbeats 4000000 in
theorem mod (b : Nat) (w : World) (hb : b < 9218868437227405312) : Calls Try.prog 64 #[.float .f64 b, .float .f64 4751297606875873280] w (ModPost b w) := by
  have hy : (4751297606875873280 : Nat) < 9218868437227405312 := by omega
  have hyr : rung 4751297606875873280 = 4751297606875873280 := rung_small hy
  have HI := Lib.hid (fun w => isInf b w (by omega) (by rw [rung_small hb]; exact hb))
  have HN := Lib.hid (fun w => isNaN b w (by rw [rung_small hb]; exact hb))
  have HNy := Lib.hid (fun w => isNaN 4751297606875873280 w (by rw [hyr]; exact hy))
  have HA := Lib.hid (show ∀ w, Calls Try.prog 39 #[.float .f64 4751297606875873280] w fun e w' => e = .returned (.float .f64 4751297606875873280) ∧ w' = w from fun w => by
    have h := abs 4751297606875873280 w (by omega)
    rw [hyr] at h
    exact h)
  have hwy : W 4503599627370496 (-20) = 4751297606875873280 := by decide
  have hwf : W 4503599627370496 (-53) = 4602678819172646912 := by decide
  have HF := Lib.hid (show ∀ w, Calls Try.prog 90 #[.float .f64 4751297606875873280] w fun e w' => e = .returned (.tuple #[.float .f64 4602678819172646912, .int .i64 33]) ∧ w' = w from fun w => by
    have h := frexp' 4503599627370496 (-20) w ⟨by omega, by omega, by omega, by omega⟩
    rw [hwy, hwf] at h
    exact h)
  have HFR := Lib.hid (fun (K : Nat) (p : Int) (w : World) (h : Nrm K p) => frexp' K p w h)
  have HLD := Lib.hid (show ∀ (p : Int) (w : World), -20 ≤ p → p ≤ 971 → Calls Try.prog 91 #[.float .f64 4751297606875873280, .int .i64 (p + 53 - 33)] w fun e w' => e = .returned (.float .f64 (W 4503599627370496 p)) ∧ w' = w from fun p w h1 h2 => by
    have h := ldexp' 4503599627370496 (-20) (p + 53 - 33) w ⟨by omega, by omega, by omega, by omega⟩ ⟨by omega, by omega, by omega, by omega⟩
    rw [hwy, show -20 + (p + 53 - 33) = p by omega] at h
    exact h)
  have o1 : (FloatKind.f64.format.order 4751297606875873280 0 == some Ordering.eq) = false := by rw [feq hy (by omega)]; exact decide_eq_false (by omega)
  have o2 : (FloatKind.f64.format.order b 0 == some Ordering.lt) = false := by rw [flt hb (by omega)]; exact decide_eq_false (by omega)
  have HB := Lib.hid hb
  clear hyr hwy hwf hy
  go_enter Try.func64, Try.ntmps64
  go_wp2_with fail
  refine (HI.out _).mono ?_
  rintro e w' ⟨rfl, rfl⟩
  go_wp2_with fail
  refine (HN.out _).mono ?_
  rintro e w' ⟨rfl, rfl⟩
  go_wp2_with fail
  refine (HNy.out _).mono ?_
  rintro e w' ⟨rfl, rfl⟩
  go_wp2_with fail
  refine (HA.out _).mono ?_
  rintro e w' ⟨rfl, rfl⟩
  go_wp2_with fail
  refine (HF.out _).mono ?_
  rintro e w' ⟨rfl, rfl⟩
  go_wp2_with fail
  clear o1
  go_loop [7] (fun v => ∃ r : Nat, v = .float .f64 r ∧ r < 9218868437227405312 ∧ Cong r b) (fun v => match v with | .float _ n => n | _ => 0)
  case atStart => exact ⟨b, rfl, HB.out, rfl⟩
  case round =>
    obtain ⟨r, rfl, hr, hcg⟩ := hrel
    have HCG := Lib.hid hcg
    clear hcg
    by_cases hge : 4751297606875873280 ≤ r
    · have g1 : (FloatKind.f64.format.order r 4751297606875873280 == some Ordering.gt) = decide (4751297606875873280 < r) := fgt hr (by omega)
      have g2 : (FloatKind.f64.format.order r 4751297606875873280 == some Ordering.eq) = decide (r = 4751297606875873280) := feq hr (by omega)
      have g3 : (FloatKind.f64.format.order r 4751297606875873280 == some Ordering.gt || FloatKind.f64.format.order r 4751297606875873280 == some Ordering.eq) = true := by
        rw [g1, g2, Bool.or_eq_true, decide_eq_true_eq, decide_eq_true_eq]
        omega
      have hrr := rung_small hr
      obtain ⟨hwo, hnr⟩ := W_of (b := r) (by rw [hrr]; exact hr) (by rw [hrr]; omega)
      rw [hrr] at hwo
      obtain ⟨K, hK⟩ : ∃ K, K = mant r := ⟨_, rfl⟩
      obtain ⟨p, hp⟩ : ∃ p, p = place r := ⟨_, rfl⟩
      rw [← hK, ← hp] at hwo hnr
      have hp20 : -20 ≤ p := by
        have h1 : (p + 1074).toNat + 1 = r / 4503599627370496 := by rw [hwo, (W_div hnr).1]
        omega
      have hnx := next_is hnr hp20
      rw [← hwo] at hnx
      have HFR2 := Lib.hid (fun w => HFR.out K p w hnr)
      have HLD2 := Lib.hid (fun w => HLD.out p w hp20 hnr.2.2.2)
      have hsub : ∀ w, (binOp .sub 30 (.float .f64 r) (.float .f64 (W 4503599627370496 p))).run Try.prog w = .ok (.float .f64 (next K p)) w := fun w => by
        rw [hwo]
        exact run_float_arith w .sub 30 .f64 _ _ _ (sub_top hnr (by omega))
      have hfl : (FloatKind.f64.format.order (W K (-53)) 4602678819172646912 == some Ordering.lt) = false := by
        rw [flt (W_lt ⟨hnr.1, hnr.2.1, by omega, by omega⟩) (by omega)]
        refine decide_eq_false ?_
        unfold W
        have := hnr.1
        omega
      have hp971 := hnr.2.2.2
      have HNX := Lib.hid hnx
      have HRO := Lib.hid hwo
      rw [← hwo] at HFR2
      obtain ⟨Y, hY⟩ : ∃ Y, Y = W 4503599627370496 p := ⟨_, rfl⟩
      obtain ⟨Z, hZ⟩ : ∃ Z, Z = W K (-53) := ⟨_, rfl⟩
      obtain ⟨N, hN⟩ : ∃ N, N = next K p := ⟨_, rfl⟩
      rw [← hY] at HLD2 hsub
      rw [← hZ] at HFR2 hfl
      rw [← hN] at hsub HNX
      have HC2 := Lib.hid (show Cong N b from HNX.out.2.trans HCG.out)
      clear hwo hnr hK hp hrr hnx hY hZ hN g1 g2 hge
      go_wp2_with fail
      refine (HFR2.out _).mono ?_
      rintro e w' ⟨rfl, rfl⟩
      go_wp2_with fail
      refine (HLD2.out _).mono ?_
      rintro e w' ⟨rfl, rfl⟩
      go_wp2_with fail
      go_round
      case rel => exact ⟨N, rfl, by have := HNX.out.1; omega, HC2.out⟩
      case measure => have := HNX.out.1; simp only; omega
    · have g1 : (FloatKind.f64.format.order r 4751297606875873280 == some Ordering.gt) = false := by rw [fgt hr (by omega)]; exact decide_eq_false (by omega)
      have g2 : (FloatKind.f64.format.order r 4751297606875873280 == some Ordering.eq) = false := by rw [feq hr (by omega)]; exact decide_eq_false (by omega)
      have g3 : (FloatKind.f64.format.order r 4751297606875873280 == some Ordering.gt || FloatKind.f64.format.order r 4751297606875873280 == some Ordering.eq) = false := by rw [g1, g2]; rfl
      have HLT := Lib.hid (show r < 4751297606875873280 by omega)
      clear hge
      go_wp2_with fail
      go_returns
      exact ⟨rfl, r, rfl, HLT.out, HCG.out⟩
end Go.Proofs.Ytkhnkemmkedfcaa.Flo
