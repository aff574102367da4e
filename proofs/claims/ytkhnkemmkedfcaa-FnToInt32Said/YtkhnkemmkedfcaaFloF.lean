/- The reference for ToInt32: NumUint32, NumInt32. -/
import Derived.Test.YtkhnkemmkedfcaaFloE
import Derived.Laws.ShiftsVarLaws
namespace Go.Proofs.Ytkhnkemmkedfcaa.Flo
open Ieee Go.RowKit Go.Proofs.Ytkhnkemmkedfcaa.Aid
attribute [local go_sem ↓] Go.wp_at_zero Go.wp_at_succ
set_option linter.unusedVariables false
/-- The reference's answer. -/
def U' (b : Nat) : Nat := if rung b < 9218868437227405312 then U b else 0
def UPost (b : Nat) (w : World) (e : Ending) (w' : World) : Prop := e = .returned (.int .u32 (U' b : Int)) ∧ w' = w
set_option maxRecDepth 100000 in
set_option maxHeartbeats 2000000 in
theorem numUint32 (b : Nat) (w : World) (h : b < 18446744073709551616) : Calls Try.prog 22 #[.float .f64 b] w (UPost b w) := by
  have HF := Lib.hid (numFinite b w h)
  by_cases hf : rung b < 9218868437227405312
  · have HP := Lib.hid (numParts b w h hf)
    have hu : ∀ t : Nat, t = tr b % 4294967296 → neg b = false → U' b = t := fun t ht hn => by
      unfold U' U
      rw [if_pos hf, hn, ht]
      rfl
    have hu2 : ∀ t : Nat, t = tr b % 4294967296 → neg b = true → U' b = (4294967296 - t) % 4294967296 := fun t ht hn => by
      unfold U' U
      rw [if_pos hf, hn, ht]
      rfl
    have HU := Lib.hid hu
    have HU2 := Lib.hid hu2
    have hpb := place_bd hf
    have hmb := mant_lt b
    have htr : ∀ X : Nat, X % 4294967296 = tr b % 4294967296 → X % 4294967296 = tr b % 4294967296 := fun X h => h
    rw [decide_eq_true hf] at HF
    clear hu hu2 hf
    have hm64 : mant b < 2 ^ 64 := by
      rw [show (2 : Nat) ^ 64 = 18446744073709551616 by decide]
      omega
    by_cases c0 : 32 ≤ place b ∨ place b ≤ -64
    · have ht : tr b % 4294967296 = 0 := by
        unfold tr
        rcases c0 with c | c
        · rw [if_pos (by omega), show (place b).toNat = 32 + ((place b).toNat - 32) by omega, Nat.pow_add, Nat.mul_left_comm, show (2 : Nat) ^ 32 = 4294967296 by decide, Nat.mul_mod_right]
        · rw [if_neg (by omega), show (-place b).toNat = 64 + ((-place b).toNat - 64) by omega, Nat.pow_add, ← Nat.div_div_eq_div_mul, Nat.div_eq_of_lt hm64, Nat.zero_div]
      have HT := Lib.hid ht
      have hd1 : (decide (32 ≤ place b) || decide (place b ≤ -64)) = true := by
        rw [Bool.or_eq_true, decide_eq_true_eq, decide_eq_true_eq]; exact c0
      obtain ⟨p, hp⟩ : ∃ p, p = place b := ⟨_, rfl⟩
      obtain ⟨m, hm⟩ : ∃ m, m = mant b := ⟨_, rfl⟩
      rw [← hp, ← hm] at HP
      rw [← hp] at hd1 c0 hpb
      rw [← hm] at hmb
      clear hp hm hm64 ht htr h
      cases hn : neg b
      · have HE := Lib.hid (HU.out 0 HT.out.symm hn)
        rw [hn] at HP
        clear hn
        rcases c0 with c | c
        · have c' : 32 ≤ p := c
          go_enter Try.func22, Try.ntmps22
          go_wp2_with fail
          refine HF.out.mono ?_
          rintro e w' ⟨rfl, rfl⟩
          go_wp2_with fail
          refine HP.out.mono ?_
          rintro e w' ⟨rfl, rfl⟩
          go_wp2_with fail
          go_returns
          exact ⟨by rw [HE.out]; rfl, rfl⟩
        · have c' : ¬ 32 ≤ p := by omega
          go_enter Try.func22, Try.ntmps22
          go_wp2_with fail
          refine HF.out.mono ?_
          rintro e w' ⟨rfl, rfl⟩
          go_wp2_with fail
          refine HP.out.mono ?_
          rintro e w' ⟨rfl, rfl⟩
          go_wp2_with fail
          go_returns
          exact ⟨by rw [HE.out]; rfl, rfl⟩
      · have HE := Lib.hid (HU2.out 0 HT.out.symm hn)
        rw [hn] at HP
        clear hn
        rcases c0 with c | c
        · have c' : 32 ≤ p := c
          go_enter Try.func22, Try.ntmps22
          go_wp2_with fail
          refine HF.out.mono ?_
          rintro e w' ⟨rfl, rfl⟩
          go_wp2_with fail
          refine HP.out.mono ?_
          rintro e w' ⟨rfl, rfl⟩
          go_wp2_with fail
          go_returns
          exact ⟨by rw [HE.out]; rfl, rfl⟩
        · have c' : ¬ 32 ≤ p := by omega
          go_enter Try.func22, Try.ntmps22
          go_wp2_with fail
          refine HF.out.mono ?_
          rintro e w' ⟨rfl, rfl⟩
          go_wp2_with fail
          refine HP.out.mono ?_
          rintro e w' ⟨rfl, rfl⟩
          go_wp2_with fail
          go_returns
          exact ⟨by rw [HE.out]; rfl, rfl⟩
    · by_cases c1 : 0 ≤ place b
      · obtain ⟨c, hc⟩ : ∃ c : Nat, c = (place b).toNat := ⟨_, rfl⟩
        have hp : place b = (c : Int) := by omega
        obtain ⟨X, hX⟩ : ∃ X, X = mant b * 2 ^ c % 18446744073709551616 := ⟨_, rfl⟩
        have ht : X % 4294967296 = tr b % 4294967296 := by
          unfold tr
          rw [if_pos c1, ← hc, hX]
          omega
        obtain ⟨m, hm⟩ : ∃ m, m = mant b := ⟨_, rfl⟩
        obtain ⟨t, hte⟩ : ∃ t, t = X % 4294967296 := ⟨_, rfl⟩
        rw [hp, ← hm] at HP
        have hs : IntKind.u64.wrap ((m : Int) * 2 ^ c) = (X : Int) := by
          have hy : (m : Int) * 2 ^ c = ((m * 2 ^ c : Nat) : Int) := by norm_cast
          rw [← hm] at hX
          rw [IntKind.wrap_u64, hy, hX]
          generalize m * 2 ^ c = y
          omega
        have hcv : (X : Int) % 4294967296 = (t : Int) := by omega
        have HT := Lib.hid (hte.trans ht)
        have cl : c < 32 := by omega
        have tl : t < 4294967296 := by omega
        have k1 : ¬ (32 : Int) ≤ (c : Int) := by omega
        have k2 : ¬ (c : Int) ≤ -64 := by omega
        clear hm64 hc hp hX ht hm hte c0 c1 hpb hmb htr h
        cases hn : neg b
        · have HE := Lib.hid (HU.out t HT.out hn)
          rw [hn] at HP
          clear hn
          go_enter Try.func22, Try.ntmps22
          go_wp2_with fail
          refine HF.out.mono ?_
          rintro e w' ⟨rfl, rfl⟩
          go_wp2_with fail
          refine HP.out.mono ?_
          rintro e w' ⟨rfl, rfl⟩
          go_wp2_with fail
          go_returns
          exact ⟨by rw [HE.out]; show Ending.returned (Value.int IntKind.u32 ((X : Int) % 4294967296)) = _; rw [hcv], rfl⟩
        · have HE := Lib.hid (HU2.out t HT.out hn)
          rw [hn] at HP
          clear hn
          have hng : (-(t : Int)) % 4294967296 = (((4294967296 - t) % 4294967296 : Nat) : Int) := by omega
          go_enter Try.func22, Try.ntmps22
          go_wp2_with fail
          refine HF.out.mono ?_
          rintro e w' ⟨rfl, rfl⟩
          go_wp2_with fail
          refine HP.out.mono ?_
          rintro e w' ⟨rfl, rfl⟩
          go_wp2_with fail
          go_returns
          exact ⟨by rw [HE.out]; show Ending.returned (Value.int IntKind.u32 (-(t : Int) % 4294967296)) = _; rw [hng], rfl⟩
      · obtain ⟨c, hc⟩ : ∃ c : Nat, c = (-place b).toNat := ⟨_, rfl⟩
        have hp : place b = -(c : Int) := by omega
        obtain ⟨X, hX⟩ : ∃ X, X = mant b / 2 ^ c := ⟨_, rfl⟩
        have ht : X % 4294967296 = tr b % 4294967296 := by
          unfold tr
          rw [if_neg c1, ← hc, hX]
        obtain ⟨m, hm⟩ : ∃ m, m = mant b := ⟨_, rfl⟩
        obtain ⟨t, hte⟩ : ∃ t, t = X % 4294967296 := ⟨_, rfl⟩
        rw [hp, ← hm] at HP
        have hs : (m : Int) / 2 ^ c = (X : Int) := by
          rw [hX, hm]
          norm_cast
        have hcv : (X : Int) % 4294967296 = (t : Int) := by omega
        have HT := Lib.hid (hte.trans ht)
        have cl : c < 64 := by omega
        have c2 : 0 < c := by omega
        have tl : t < 4294967296 := by omega
        have k1 : ¬ (32 : Int) ≤ -(c : Int) := by omega
        have k2 : ¬ -(c : Int) ≤ -64 := by omega
        have k3 : ¬ (0 : Int) ≤ -(c : Int) := by omega
        clear hm64 hc hp hX ht hm hte c0 c1 hpb hmb htr h
        cases hn : neg b
        · have HE := Lib.hid (HU.out t HT.out hn)
          rw [hn] at HP
          clear hn
          go_enter Try.func22, Try.ntmps22
          go_wp2_with fail
          refine HF.out.mono ?_
          rintro e w' ⟨rfl, rfl⟩
          go_wp2_with fail
          refine HP.out.mono ?_
          rintro e w' ⟨rfl, rfl⟩
          go_wp2_with fail
          go_returns
          exact ⟨by rw [HE.out]; show Ending.returned (Value.int IntKind.u32 ((X : Int) % 4294967296)) = _; rw [hcv], rfl⟩
        · have HE := Lib.hid (HU2.out t HT.out hn)
          rw [hn] at HP
          clear hn
          have hng : (-(t : Int)) % 4294967296 = (((4294967296 - t) % 4294967296 : Nat) : Int) := by omega
          go_enter Try.func22, Try.ntmps22
          go_wp2_with fail
          refine HF.out.mono ?_
          rintro e w' ⟨rfl, rfl⟩
          go_wp2_with fail
          refine HP.out.mono ?_
          rintro e w' ⟨rfl, rfl⟩
          go_wp2_with fail
          go_returns
          exact ⟨by rw [HE.out]; show Ending.returned (Value.int IntKind.u32 (-(t : Int) % 4294967296)) = _; rw [hng], rfl⟩
  · have HE := Lib.hid (show U' b = 0 by unfold U'; rw [if_neg hf])
    rw [decide_eq_false hf] at HF
    clear hf h
    go_enter Try.func22, Try.ntmps22
    go_wp2_with fail
    refine HF.out.mono ?_
    rintro e w' ⟨rfl, rfl⟩
    go_wp2_with fail
    go_returns
    exact ⟨by rw [HE.out]; rfl, rfl⟩
end Go.Proofs.Ytkhnkemmkedfcaa.Flo
