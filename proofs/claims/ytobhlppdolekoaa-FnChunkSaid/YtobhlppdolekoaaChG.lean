/- The reference's reading of a Base64 VLQ: mapDigit, VLQ. The walks. -/
import Derived.Test.YtobhlppdolekoaaChB
namespace Go.Proofs.Ytobhlppdolekoaa.Ch
open Go.RowKit Go.Proofs.Ytobhlppdolekoaa.Aid Go.Proofs.Ytobhlppdolekoaa.Bytes Go.Proofs.Ytobhlppdolekoaa.Runes
attribute [local go_sem ↓] Go.wp_at_zero Go.wp_at_succ
set_option linter.unusedVariables false
set_option linter.unusedSimpArgs false
theorem alpha_inj' : ∀ a b : Fin 64, alpha a.val = alpha b.val → a = b := by decide +kernel
theorem alpha_inj {a b : Nat} (ha : a < 64) (hb : b < 64) (h : alpha a = alpha b) : a = b := by
  have := alpha_inj' ⟨a, ha⟩ ⟨b, hb⟩ h
  injection this
set_option maxRecDepth 100000 in
set_option maxHeartbeats 4000000 in
theorem mapDigit (d : Nat) (hd : d < 64) (w : World) : Calls Try.prog 31 #[.int .u8 (alpha d)] w fun e w' => e = .returned (.int .i64 d) ∧ w' = w := by
  obtain ⟨A, hA⟩ : ∃ A, A = alpha d := ⟨_, rfl⟩
  have HA := Lib.hid hA
  rw [← hA]
  clear hA
  go_enter Try.func31, Try.ntmps31
  go_wp2_with fail
  go_loopw [3] (fun i wr => ∃ k : Nat, k ≤ d ∧ i = .int .i64 k ∧ wr = w) (fun i _ => d - (intOf i).toNat)
  case atStart => exact ⟨0, Nat.zero_le _, rfl, rfl⟩
  case round =>
    obtain ⟨k, hk, rfl, rfl⟩ := hrel
    have hx := alpha_at k (by omega)
    have hlt : (k : Int) < 64 := by omega
    obtain ⟨X, hX⟩ : ∃ X, X = alpha k := ⟨_, rfl⟩
    have HX := Lib.hid hX
    rw [← hX] at hx
    clear hX
    by_cases hkd : k = d
    · have he : ((X : Int) == (A : Int)) = true := by
        have := HX.out
        have := HA.out
        subst hkd
        simp
        omega
      have HKD := Lib.hid hkd
      clear hkd
      go_wp2_with fail
      go_returns
      exact ⟨by first | rfl | (rw [HKD.out]; rfl), rfl⟩
    · have he : ((X : Int) == (A : Int)) = false := by
        have h1 := HX.out
        have h2 := HA.out
        have : X ≠ A := fun e => hkd (alpha_inj (by omega) hd (by omega))
        simp
        omega
      go_wp2_with fail
      go_roundw
      case rel => exact ⟨k + 1, by omega, rfl, trivial⟩
      case measure => simp [intOf]; omega
theorem pow32 (j : Nat) : (32 : Nat) ^ j = 2 ^ (5 * j) := by rw [Nat.pow_mul]
theorem and1 (x : Nat) (h : x < 2 ^ 63) : bits .and .i64 (x : Int) 1 = ((x % 2 : Nat) : Int) := by
  have := bits_mask .i64 63 (by decide) wraps_i64 1 (by decide) (x : Int) (by omega) (by exact_mod_cast h)
  rw [show ((2 : Int) ^ 1 - 1) = 1 from rfl] at this
  rw [this]
  omega
theorem shl_digit (v j : Nat) (hj : j ≤ 6) : wrap64 (((v / 32 ^ j % 32 : Nat) : Int) * 2 ^ (5 * j)) = ((v / 32 ^ j % 32 * 32 ^ j : Nat) : Int) := by
  obtain ⟨p, hp⟩ : ∃ p : Nat, p = 32 ^ j := ⟨_, rfl⟩
  have hp1 : p ≤ 1073741824 := by
    rw [hp]
    exact Nat.le_trans (Nat.pow_le_pow_right (by omega) hj) (by decide)
  have e2 : ((2 : Int) ^ (5 * j)) = (p : Int) := by rw [hp, pow32]; simp
  have hd := Nat.mod_lt (v / p) (show 0 < 32 by omega)
  have hmul : v / p % 32 * p ≤ 31 * p := Nat.mul_le_mul_right p (by omega)
  rw [e2, ← hp]
  have e3 : (((v / p % 32 : Nat) : Int) * (p : Int)) = ((v / p % 32 * p : Nat) : Int) := by rw [Int.natCast_mul]
  rw [e3, wrap64_small _ (by omega) (by omega)]
set_option maxRecDepth 100000 in
set_option maxHeartbeats 8000000 in
theorem vlqRead (T : ByteArray) (i : Nat) (n : Int) (w : World) (hT : T.size ≤ 100000000000) (h0 : -2147483648 < n) (h1 : n < 2147483648) (hi : i + (vlq n).length ≤ T.size) (hd : ∀ j d, (vlq n)[j]? = some d → byt T (i + j) = d) :
    Calls Try.prog 18 #[.string T, .int .i64 i] w fun e w' => e = .returned (.tuple #[.int .i64 n, .int .i64 ((i + (vlq n).length : Nat) : Int), .bool true]) ∧ w' = w := by
  obtain ⟨v, hv⟩ : ∃ v, v = signed n := ⟨_, rfl⟩
  have hlt : v < 4294967296 := by rw [hv]; exact signed_lt h0 h1
  have hv1 : v ≠ 1 := by rw [hv]; exact signed_ne1 n
  have hun : unsign v = n := by rw [hv]; exact unsign_signed n
  have hq : vlq n = txt (enc v) := by rw [vlq, hv]
  have hlen : (vlq n).length = (enc v).length := by rw [hq, txt, List.length_map]
  rw [hlen] at hi ⊢
  have HD : Hid (∀ j d, (enc v)[j]? = some d → byt T (i + j) = alpha d) := Lib.hid (fun j d h => hd j (alpha d) (by rw [hq, txt, List.getElem?_map, h]; rfl))
  have HUN := Lib.hid hun
  have hlen7 := enc_length 6 v (by omega)
  clear hd hq hlen hv hun
  go_enter Try.func18, Try.ntmps18
  go_wp2_with fail
  go_loopw [1, 7, 8] (fun x z y wr => ∃ j : Nat, j < (enc v).length ∧ x = .int .i64 ((i + j : Nat) : Int) ∧ y = .int .i64 ((5 * j : Nat) : Int) ∧ z = .int .i64 ((v % 32 ^ j : Nat) : Int) ∧ wr = w) (fun x _ _ _ => T.size - (intOf x).toNat)
  case atStart => exact ⟨0, enc_pos v, rfl, rfl, by simp [Nat.mod_one], rfl⟩
  case round =>
    obtain ⟨j, hj, rfl, rfl, rfl, rfl⟩ := hrel
    obtain ⟨d, h1', h2, h3, h4⟩ := enc_at v j hj
    have hb := HD.out j d h1'
    obtain ⟨a, ea⟩ : ∃ a : Nat, a = i + j := ⟨_, rfl⟩
    rw [← ea] at hb ⊢
    have hlta : a < T.size := by omega
    have hlta' : (a : Int) < T.size := by omega
    obtain ⟨A, hA⟩ : ∃ A, A = alpha d := ⟨_, rfl⟩
    have hTA : (T[a]'hlta).toNat = A := by rw [← byt_eq T a hlta, hb, hA]
    have HMD := Lib.hid (fun w => mapDigit d h2 w)
    rw [← hA] at HMD
    have HEA := Lib.hid ea
    have hand := and31 d (by omega)
    have hsh := shl_digit v j (by omega)
    rw [← h3] at hsh
    obtain ⟨z, hz⟩ : ∃ z : Int, z = ((d % 32 : Nat) : Int) := ⟨_, rfl⟩
    obtain ⟨X, hX⟩ : ∃ X : Nat, X = d % 32 * 32 ^ j := ⟨_, rfl⟩
    obtain ⟨p, hp⟩ : ∃ p : Nat, p = v % 32 ^ j := ⟨_, rfl⟩
    obtain ⟨q, hq⟩ : ∃ q : Nat, q = v % 32 ^ (j + 1) := ⟨_, rfl⟩
    have hpq : p + X = q := by rw [hp, hX, hq, h3, low_succ]
    rw [← hz] at hand hsh
    rw [← hX] at hsh
    rw [← hp]
    have z0 : 0 ≤ z := by omega
    have z1 : z ≤ 31 := by omega
    have hqv : q ≤ v := by rw [hq]; exact Nat.mod_le _ _
    have hj6 : j ≤ 6 := by omega
    have HQ := Lib.hid hq
    have HPQ := Lib.hid hpq
    have H4 := Lib.hid h4
    clear hz h1' h3 hq hX hp hA hb ea hpq
    have pX : p + X < 4294967296 := by have := HPQ.out; omega
    by_cases hmore : 32 ≤ d
    · have H5 := Lib.hid (h4.1 hmore)
      have t1 : ¬ (d : Int) < 32 := by omega
      have t2 : ¬ (d : Int) < 0 := by omega
      clear h4 hmore
      go_wp2_with fail
      refine (HMD.out _).mono ?_
      rintro e w2 ⟨rfl, rfl⟩
      go_wp2_with fail
      go_roundw
      case rel => exact ⟨j + 1, H5.out, val_int (by have := HEA.out; omega), val_int (by omega), val_int (by rw [← HQ.out, ← HPQ.out]; omega), trivial⟩
      case measure => simp [intOf]; omega
    · have hl : j + 1 = (enc v).length := by omega
      have hqe : p + X = v := by
        rw [HPQ.out, HQ.out, hl]
        exact Nat.mod_eq_of_lt (enc_all v)
      have t1 : (d : Int) < 32 := by omega
      have t2 : ¬ (d : Int) < 0 := by omega
      have HQE := Lib.hid hqe
      have HL := Lib.hid hl
      have HV1 := Lib.hid hv1
      have HLT := Lib.hid hlt
      clear h4 hmore hl hqe hv1 hlt hqv h0 h1
      go_wp2_with fail
      refine (HMD.out _).mono ?_
      rintro e w2 ⟨rfl, rfl⟩
      go_upto_region 11 with fail
      have hy : (p : Int) + X = (v : Int) := by have := HQE.out; omega
      rw [hy]
      have hvs : v < 4294967296 := HLT.out
      have hq1 := and1 v (by omega)
      have k1 : ((v : Int) == 1) = false := by have := HV1.out; simp; omega
      clear pX hsh hand hTA hi hj hy
      have f2 : ((i + (enc v).length : Nat) : Int) = (a : Int) + 1 := by
        have := HEA.out
        have := HL.out
        omega
      have HF2 := Lib.hid f2
      clear f2
      rcases Nat.mod_two_eq_zero_or_one v with hodd | hodd
      · have ho : bits .and .i64 (v : Int) 1 = 0 := by rw [hq1, hodd]; rfl
        have k2 : decide ((v : Int) / 2 < 2147483648) = true := decide_eq_true (by omega)
        have k3 : decide (-2147483648 < (v : Int) / 2) = true := decide_eq_true (by omega)
        have HO := Lib.hid hodd
        clear hodd hq1 hvs
        go_wp2_with fail
        go_returns
        refine ⟨?_, rfl⟩
        have f1 : n = (v : Int) / 2 := by
          have := HO.out
          rw [← HUN.out, unsign, if_neg (by omega)]
          omega
        rw [f1, HF2.out]
        rfl
      · have ho : bits .and .i64 (v : Int) 1 = 1 := by rw [hq1, hodd]; rfl
        have hw : wrap64 (-((v : Int) / 2)) = -((v : Int) / 2) := wrap64_small _ (by omega) (by omega)
        have HW := Lib.hid hw
        have HO := Lib.hid hodd
        clear hodd hq1 hvs hw
        go_upto_region 14 with fail
        rw [HW.out]
        obtain ⟨Y, hY⟩ : ∃ Y : Int, Y = -((v : Int) / 2) := ⟨_, rfl⟩
        rw [← hY]
        have HY := Lib.hid hY
        have k2 : Y < 2147483648 := by omega
        have k3 : -2147483648 < Y := by have := HLT.out; omega
        clear hY
        go_wp2_with fail
        go_returns
        refine ⟨?_, rfl⟩
        have f1 : n = Y := by
          have := HO.out
          have := HY.out
          rw [← HUN.out, unsign, if_pos (by omega)]
          omega
        rw [f1, HF2.out]
        rfl
end Go.Proofs.Ytobhlppdolekoaa.Ch
