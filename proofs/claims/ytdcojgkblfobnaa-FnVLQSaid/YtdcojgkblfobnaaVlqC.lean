/- The package DecodeVLQ: digits are read back as the number. The walk. -/
import Derived.Test.YtdcojgkblfobnaaVlqB
import Derived.Test.YtdcojgkblfobnaaShelf
namespace Go.Proofs.Ytdcojgkblfobnaa.Vlq
open Go.RowKit Go.Proofs.Ytdcojgkblfobnaa.Aid
attribute [local go_sem ↓] Go.wp_at_zero Go.wp_at_succ
/-- The number back. -/
def unsign (v : Nat) : Int := if v % 2 = 1 then -((v / 2 : Nat) : Int) else ((v / 2 : Nat) : Int)
theorem unsign_signed (n : Int) : unsign (signed n) = n := by
  unfold unsign signed
  split <;> split <;> omega
theorem index_letter (d : Nat) (h : d < 64) : Lib.indexByte letters.data.toList (alpha d) = (d : Int) := by
  have : ∀ k : Fin 64, Lib.indexByte letters.data.toList (alpha k.val) = (k.val : Int) := by decide +kernel
  exact this ⟨d, h⟩
theorem find_letter (d : Nat) (h : d < 64) (w : World) : Calls Try.prog 71 #[.string letters, .int .u8 ((alpha d).toNat : Int)] w fun e w' => e = .returned (.int .i64 (d : Int)) ∧ w' = w := by
  have h1 := Try.strings_IndexByte letters ((alpha d).toNat : Int) w
  rw [show (((alpha d).toNat : Int)).toNat.toUInt8 = alpha d from by simp, index_letter d h] at h1
  exact h1
theorem pow32 (j : Nat) : (32 : Nat) ^ j = 2 ^ (5 * j) := by rw [Nat.pow_mul]
theorem or_digit (v j : Nat) (hj : j ≤ 6) : bits .or .i64 ((v : Int) % 32 ^ j) (wrap64 (((v / 32 ^ j % 32 : Nat) : Int) * 2 ^ (5 * j))) = ((v % 32 ^ (j + 1) : Nat) : Int) := by
  obtain ⟨p, hp⟩ : ∃ p : Nat, p = 32 ^ j := ⟨_, rfl⟩
  have hp1 : p ≤ 1073741824 := by
    rw [hp]
    exact Nat.le_trans (Nat.pow_le_pow_right (by omega) hj) (by decide)
  have hp0 : 0 < p := by rw [hp]; exact Nat.pow_pos (by omega)
  have e1 : ((32 : Int) ^ j) = (p : Int) := by rw [hp]; simp
  have e2 : ((2 : Int) ^ (5 * j)) = (p : Int) := by rw [hp, pow32]; simp
  have hm := Nat.mod_lt v hp0
  have hd := Nat.mod_lt (v / p) (show 0 < 32 by omega)
  have hmul : v / p % 32 * p ≤ 31 * p := Nat.mul_le_mul_right p (by omega)
  rw [low_succ, e1, e2, ← hp]
  have e3 : (((v / p % 32 : Nat) : Int) * (p : Int)) = ((v / p % 32 * p : Nat) : Int) := by rw [Int.natCast_mul]
  rw [e3, wrap64_small _ (by omega) (by omega)]
  have e4 : (v : Int) % (p : Int) = ((v % p : Nat) : Int) := by rw [Int.natCast_emod]
  rw [e4]
  have := bits_join_low .i64 63 (by decide) wraps_i64 (5 * j) ((v % p : Nat) : Int) ((v / p % 32 * p : Nat) : Int) (by omega) (by rw [e2]; omega) (by omega) (by omega) (by rw [e2]; exact_mod_cast Nat.mul_mod_left _ _) (by omega)
  rw [this]
  omega
theorem and32 (d : Nat) (h : d < 64) : bits .and .i64 (d : Int) 32 = if 32 ≤ d then 32 else 0 := by
  have h1 := (bits_nat .i64 63 (by decide) wraps_i64 d 32 (by omega) (by decide)).1
  have h2 : ∀ k : Fin 64, (k.val &&& 32) = if 32 ≤ k.val then 32 else 0 := by decide
  rw [show ((32 : Nat) : Int) = 32 from rfl] at h1
  rw [h1, h2 ⟨d, h⟩]
  split <;> rfl
theorem and1 (x : Nat) (h : x < 2 ^ 63) : bits .and .i64 (x : Int) 1 = ((x % 2 : Nat) : Int) := by
  have := bits_mask .i64 63 (by decide) wraps_i64 1 (by decide) (x : Int) (by omega) (by exact_mod_cast h)
  rw [show ((2 : Int) ^ 1 - 1) = 1 from rfl] at this
  rw [this]
  omega
set_option maxRecDepth 100000 in
set_option maxHeartbeats 2000000 in
theorem decode (b o n c s v : Nat) (w : World) (hv : v < 4294967296) (hn : n ≤ 1000000) (hs : s + (enc v).length ≤ n)
    (hc : ∀ j d, (enc v)[j]? = some d → w.cell? ⟨b, o + (s + j), none⟩ = some (.int .u8 ((alpha d).toNat : Int))) :
    Calls Try.prog 57 #[.slice (some ⟨b, o, none⟩) n c, .int .i64 s] w fun e w' => e = .returned (.tuple #[.int .i64 (unsign v), .int .i64 ((s + (enc v).length : Nat) : Int)]) ∧ w' = w := by
  have HC := Lib.hid hc
  have hlen7 := enc_length 6 v (by omega)
  clear hc
  go_enter Try.func57, Try.ntmps57
  go_wp2_with fail
  go_loopw [1, 6, 7] (fun x y z wr => ∃ j : Nat, j < (enc v).length ∧ x = .int .i64 ((s + j : Nat) : Int) ∧ y = .int .i64 ((5 * j : Nat) : Int) ∧ z = .int .i64 ((v % 32 ^ j : Nat) : Int) ∧ wr = w) (fun x _ _ _ => n - (intOf x).toNat)
  case atStart => exact ⟨0, enc_pos v, rfl, rfl, by simp [Nat.mod_one], rfl⟩
  case round =>
    obtain ⟨j, hj, rfl, rfl, rfl, rfl⟩ := hrel
    obtain ⟨d, h1, h2, h3, h4⟩ := enc_at v j hj
    have cr := HC.out j d h1
    have HF := find_letter d h2
    have i0 : (0 : Int) ≤ ((s + j : Nat) : Int) := by omega
    have i1 : ((s + j : Nat) : Int) < n := by omega
    obtain ⟨a, ea⟩ : ∃ a : Nat, a = s + j := ⟨_, rfl⟩
    rw [← ea] at cr i0 i1 ⊢
    have HEA := Lib.hid ea
    clear ea
    have hand := and31 d (by omega)
    have hor := or_digit v j (by omega)
    rw [← h3] at hor
    have hb := and32 d h2
    obtain ⟨z, hz⟩ : ∃ z : Int, z = ((d % 32 : Nat) : Int) := ⟨_, rfl⟩
    obtain ⟨q, hq⟩ : ∃ q : Nat, q = v % 32 ^ (j + 1) := ⟨_, rfl⟩
    rw [← hz] at hand hor
    rw [← hq] at hor
    have z0 : 0 ≤ z := by omega
    have z1 : z ≤ 31 := by omega
    have d1 : (d : Int) ≤ 63 := by omega
    have hqv : q ≤ v := by rw [hq]; exact Nat.mod_le _ _
    have hq1 := and1 q (by omega)
    have HQ := Lib.hid hq
    have H4 := Lib.hid h4
    clear hz h1 h3 hq
    by_cases hmore : 32 ≤ d
    · rw [if_pos hmore] at hb
      have H5 := Lib.hid (h4.1 hmore)
      clear h4 hmore
      go_wp2_with fail
      refine (HF _).mono ?_
      rintro e w2 ⟨rfl, rfl⟩
      go_wp2_with fail
      go_roundw
      case rel => exact ⟨j + 1, H5.out, by have := HEA.out; go_num, by go_num, by rw [HQ.out], trivial⟩
      case measure => simp [intOf]; omega
    · rw [if_neg hmore] at hb
      have hl : j + 1 = (enc v).length := by omega
      have hqe : q = v := by
        rw [HQ.out, hl]
        exact Nat.mod_eq_of_lt (enc_all v)
      have HQE := Lib.hid hqe
      have HL := Lib.hid hl
      clear h4 hmore hl hqe
      rcases Nat.mod_two_eq_zero_or_one q with hodd | hodd
      · have ho : bits .and .i64 (q : Int) 1 = 0 := by rw [hq1, hodd]; rfl
        have HO := Lib.hid hodd
        clear hodd hq1
        go_wp2_with fail
        refine (HF _).mono ?_
        rintro e w2 ⟨rfl, rfl⟩
        go_wp2_with fail
        go_returns
        refine ⟨?_, rfl⟩
        have f1 : unsign v = (q : Int) / 2 := by
          rw [← HQE.out, unsign, if_neg (by rw [HO.out]; decide)]
          omega
        have f2 : ((s + (enc v).length : Nat) : Int) = (a : Int) + 1 := by
          have := HEA.out
          have := HL.out
          omega
        rw [f1, f2]
        rfl
      · have ho : bits .and .i64 (q : Int) 1 = 1 := by rw [hq1, hodd]; rfl
        have HO := Lib.hid hodd
        clear hodd hq1
        go_wp2_with fail
        refine (HF _).mono ?_
        rintro e w2 ⟨rfl, rfl⟩
        go_wp2_with fail
        go_returns
        refine ⟨?_, rfl⟩
        have f1 : unsign v = -((q : Int) / 2) := by
          rw [← HQE.out, unsign, if_pos HO.out]
          omega
        have f2 : ((s + (enc v).length : Nat) : Int) = (a : Int) + 1 := by
          have := HEA.out
          have := HL.out
          omega
        rw [f1, f2]
        rfl
end Go.Proofs.Ytdcojgkblfobnaa.Vlq
