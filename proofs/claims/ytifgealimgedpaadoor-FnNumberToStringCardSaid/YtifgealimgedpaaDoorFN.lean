/- Double functions: the negative, IsInf, the parts, whole numbers. -/
import Derived.Test.YtifgealimgedpaaDoorFP
namespace Go.Proofs.YtifgealimgedpaaDoor.Nats
open Ieee Go.RowKit Go.Proofs.YtifgealimgedpaaDoor.Aid Go.Proofs.YtifgealimgedpaaDoor.Runes Go.Proofs.YtifgealimgedpaaDoor.Bytes Go.Proofs.YtifgealimgedpaaDoor.Flo
attribute [local go_sem ↓] Go.wp_at_zero Go.wp_at_succ
set_option linter.unusedVariables false
def ngw (b : Nat) : Nat := Op.negFloat .f64 b
theorem run_ngw (b : Nat) (W : World) : (Op.unary .neg (.float .f64 b)).run Tryd.prog W = .ok (.float .f64 (ngw b)) W := rfl
theorem ngw_is (b : Nat) (h : b < 18446744073709551616) : rung (ngw b) = rung b ∧ ngw b < 18446744073709551616 ∧ neg (ngw b) = !neg b ∧ (neg b = true → ngw b = rung b) := by
  have e : ngw b = b ^^^ 2 ^ 63 := rfl
  have hd : (b ^^^ 2 ^ 63) / 2 ^ 63 = b / 2 ^ 63 ^^^ 1 := by rw [Nat.xor_div_two_pow]
  have hm : (b ^^^ 2 ^ 63) % 2 ^ 63 = b % 2 ^ 63 := by rw [Nat.xor_mod_two_pow]; simp
  have hs : b / 2 ^ 63 = 0 ∨ b / 2 ^ 63 = 1 := by omega
  have hx : ngw b = 2 ^ 63 * ((b ^^^ 2 ^ 63) / 2 ^ 63) + (b ^^^ 2 ^ 63) % 2 ^ 63 := by rw [e]; omega
  rw [hd, hm] at hx
  unfold rung neg
  rcases hs with q | q <;> rw [q] at hx
  · rw [show (0 ^^^ 1 : Nat) = 1 by decide] at hx
    rw [show b / 9223372036854775808 % 2 = 0 by omega, show ngw b / 9223372036854775808 % 2 = 1 by omega]
    exact ⟨by omega, by omega, rfl, fun h => by cases h⟩
  · rw [show (1 ^^^ 1 : Nat) = 0 by decide] at hx
    rw [show b / 9223372036854775808 % 2 = 1 by omega, show ngw b / 9223372036854775808 % 2 = 0 by omega]
    exact ⟨by omega, by omega, rfl, fun _ => by omega⟩
theorem max_word : double.read 9218868437227405311 = .number false 9007199254740991 971 := by decide
theorem ord_max (b : Nat) (h : rung b ≤ 9218868437227405312) : (FloatKind.f64.format.order b 9218868437227405311 == some Ordering.gt) = (decide (rung b = 9218868437227405312) && !neg b) := by
  show (double.order b 9218868437227405311 == _) = _
  unfold Format.order
  rw [max_word]
  by_cases c : rung b = 9218868437227405312
  · rw [read_inf c, decide_eq_true c]
    generalize neg b = s
    cases s <;> decide
  · rw [read_fin (by omega), decide_eq_false c]
    cases hn : neg b
    · have e1 := order_pos (mant b) 9007199254740991 (place b) 971
      have hw : double.order (rung b) 9218868437227405311 = some (compare ((rung b : Nat) : Int) ((9218868437227405311 : Nat) : Int)) := order_words (by omega) (by omega)
      unfold Format.order at hw
      rw [max_word, read_fin (by rw [rung_rung]; omega), mant_rung, place_rung, neg_small (show rung b < 9218868437227405312 by omega)] at hw
      rw [hw, Flo.cmp_gt]
      simp only [Bool.false_and]
      exact decide_eq_false (by omega)
    · show (some (compare (signed true (mant b) (place b - min (place b) 971).toNat) (signed false 9007199254740991 (971 - min (place b) 971).toNat)) == some Ordering.gt) = _
      unfold signed
      simp only [Nat.shiftLeft_eq, if_true, Bool.false_eq_true, if_false]
      have p1 := Nat.two_pow_pos (971 - min (place b) 971).toNat
      obtain ⟨A, hA⟩ : ∃ A, A = mant b * 2 ^ (place b - min (place b) 971).toNat := ⟨_, rfl⟩
      obtain ⟨B, hB⟩ : ∃ B, B = 9007199254740991 * 2 ^ (971 - min (place b) 971).toNat := ⟨_, rfl⟩
      rw [← hA, ← hB]
      unfold compare
      simp only [instOrdInt]
      unfold compareOfLessAndEq
      rw [if_pos (by omega)]
      rfl
set_option maxRecDepth 100000 in
theorem isInf (b : Nat) (w : World) (h : b < 18446744073709551616) (hf : rung b ≤ 9218868437227405312) : Calls Tryd.prog 8 #[.float .f64 b, .int .i64 0] w fun e w' => e = .returned (.bool (decide (rung b = 9218868437227405312))) ∧ w' = w := by
  have HA := Lib.hid (abs b w h)
  have HG := Lib.hid (show (FloatKind.f64.format.order (rung b) 9218868437227405311 == some Ordering.gt) = decide (rung b = 9218868437227405312) by
    rw [ord_max _ (by rw [rung_rung]; exact hf), rung_rung]
    by_cases c : rung b = 9218868437227405312
    · rw [c]; decide
    · rw [neg_small (show rung b < 9218868437227405312 by omega)]; simp)
  clear h hf
  go_enter Tryd.func8, Tryd.ntmps8
  go_wp2_with fail
  refine HA.out.mono ?_
  rintro e w' ⟨rfl, rfl⟩
  go_wp2_with fail
  go_returns
  exact ⟨by rw [← HG.out]; rfl, rfl⟩
set_option maxRecDepth 100000 in
theorem isInfP (b : Nat) (w : World) (h : b < 18446744073709551616) (hf : rung b ≤ 9218868437227405312) : Calls Tryd.prog 8 #[.float .f64 b, .int .i64 1] w fun e w' => e = .returned (.bool (decide (rung b = 9218868437227405312) && !neg b)) ∧ w' = w := by
  have HG := Lib.hid (ord_max b hf)
  clear h hf
  go_enter Tryd.func8, Tryd.ntmps8
  go_wp2_with fail
  go_returns
  exact ⟨by rw [← HG.out]; rfl, rfl⟩
set_option maxRecDepth 100000 in
theorem isInfM (b : Nat) (w : World) (h : b < 18446744073709551616) (hf : rung b ≤ 9218868437227405312) : Calls Tryd.prog 8 #[.float .f64 b, .int .i64 (-1)] w fun e w' => e = .returned (.bool (decide (rung b = 9218868437227405312) && neg b)) ∧ w' = w := by
  have hng := run_ngw b
  obtain ⟨n1, n2, n3, n4⟩ := ngw_is b h
  have HG := Lib.hid (ord_max (ngw b) (by rw [n1]; exact hf))
  rw [n1, n3, Bool.not_not] at HG
  clear h hf n1 n2 n3 n4
  go_enter Tryd.func8, Tryd.ntmps8
  go_wp2_with fail
  go_returns
  exact ⟨by rw [← HG.out]; rfl, rfl⟩
theorem orExp (F c : Nat) (hF : F < 4503599627370496) (hc : c < 2048) : bits .or .u64 (F : Int) ((c * 4503599627370496 : Nat) : Int) = ((c * 4503599627370496 + F : Nat) : Int) := by
  rw [u64_or_nat F (c * 4503599627370496) (by omega) (by omega)]
  congr 1
  have := Nat.shiftLeft_add_eq_or_of_lt (i := 52) (b := F) (by omega) c
  rw [Nat.shiftLeft_eq] at this
  rw [Nat.or_comm, ← this]
theorem and52 (x : Nat) (h : x < 18446744073709551616) : bits .and .u64 (x : Int) 4503599627370495 = ((x % 4503599627370496 : Nat) : Int) := by
  have h1 := u64_and_nat x 4503599627370495 h (by omega)
  rw [show ((4503599627370495 : Nat) : Int) = 4503599627370495 from rfl] at h1
  rw [h1, show 4503599627370495 = 2 ^ 52 - 1 by decide, Nat.and_two_pow_sub_one_eq_mod]
set_option maxRecDepth 100000 in
set_option maxHeartbeats 1000000 in
theorem numParts (b : Nat) (w : World) (h : b < 18446744073709551616) (hf : rung b < 9218868437227405312) : Calls Tryd.prog 17 #[.float .f64 b] w fun e w' => e = .returned (.tuple #[.bool (neg b), .int .u64 (mant b), .int .i64 (place b)]) ∧ w' = w := by
  have hb := callBits
  obtain ⟨q, hq⟩ : ∃ q, q = b / 4503599627370496 := ⟨_, rfl⟩
  obtain ⟨s, hs⟩ : ∃ s, s = b / 9223372036854775808 := ⟨_, rfl⟩
  obtain ⟨F, hF⟩ : ∃ F, F = b % 4503599627370496 := ⟨_, rfl⟩
  have e1 : (b : Int) / 4503599627370496 = (q : Int) := by omega
  have e0 : (b : Int) / 9223372036854775808 = (s : Int) := by omega
  have e2 : bits .and .u64 (q : Int) 2047 = ((q % 2048 : Nat) : Int) := and2047 q (by omega)
  obtain ⟨z, hz⟩ : ∃ z, z = q % 2048 := ⟨_, rfl⟩
  rw [← hz] at e2
  have e3 : bits .and .u64 (b : Int) 4503599627370495 = (F : Int) := by rw [and52 b h, hF]
  have z1 : z < 2048 := by omega
  have wz : IntKind.i64.wrap (z : Int) = z := IntWalk.i64_in _ (by omega)
  have HN := Lib.hid (show neg b = ((s : Int) == 1) by
    unfold neg
    rw [← hs]
    by_cases c : s = 1
    · rw [c]; rfl
    · have : s = 0 := by omega
      rw [this]; rfl)
  by_cases c : z = 0
  · have HM := Lib.hid (show mant b = F ∧ place b = -1074 by
      unfold mant place
      unfold rung at *
      rw [if_pos (by omega), if_pos (by omega)]
      exact ⟨by omega, rfl⟩)
    subst c
    clear hq hs hF hz h hf
    go_enter Tryd.func17, Tryd.ntmps17
    go_wp2_with fail
    go_returns
    exact ⟨by rw [HN.out, HM.out.1, HM.out.2]; rfl, rfl⟩
  · have HM := Lib.hid (show mant b = F + 4503599627370496 ∧ place b = (z : Int) - 1075 by
      unfold mant place
      unfold rung at *
      rw [if_neg (by omega), if_neg (by omega)]
      exact ⟨by omega, by omega⟩)
    have e4 := or52 F (by omega)
    have cz : ¬ (z : Int) = 0 := by omega
    obtain ⟨m, hm⟩ : ∃ m, m = F + 4503599627370496 := ⟨_, rfl⟩
    rw [← hm] at e4 HM
    clear hq hs hF hz h hf c hm
    go_enter Tryd.func17, Tryd.ntmps17
    go_wp2_with fail
    go_returns
    exact ⟨by rw [HN.out, HM.out.1, HM.out.2]; rfl, rfl⟩
theorem digit_slice (d : Nat) (h : d < 36) (W : World) : (Instr.slice 9 (.string ⟨#[48, 49, 50, 51, 52, 53, 54, 55, 56, 57, 97, 98, 99, 100, 101, 102, 103, 104, 105, 106, 107, 108, 109, 110, 111, 112, 113, 114, 115, 116, 117, 118, 119, 120, 121, 122]⟩) (some (.int .i64 d)) (some (.int .i64 ((d : Int) + 1))) none).run Tryd.prog W = .ok (.string ⟨#[dgt d]⟩) W := by
  have key : ∀ d : Fin 36, (⟨#[48, 49, 50, 51, 52, 53, 54, 55, 56, 57, 97, 98, 99, 100, 101, 102, 103, 104, 105, 106, 107, 108, 109, 110, 111, 112, 113, 114, 115, 116, 117, 118, 119, 120, 121, 122]⟩ : ByteArray).extract d.val (d.val + 1) = ⟨#[dgt d.val]⟩ := by decide +kernel
  rw [run_slice_string (P := Tryd.prog) (w := W) 9 _ .i64 .i64 d ((d : Int) + 1) rfl (by omega) (by omega) (by show (d : Int) + 1 ≤ 36; omega), show ((d : Int)).toNat = d by omega, show ((d : Int) + 1).toNat = d + 1 by omega, key ⟨d, h⟩]
theorem numDigit (d : Nat) (h : d < 36) (w : World) : Calls Tryd.prog 11 #[.int .i64 d] w fun e w' => e = .returned (.string ⟨#[dgt d]⟩) ∧ w' = w := by
  have hS := digit_slice d h
  go_enter Tryd.func11, Tryd.ntmps11
  go_wp2_with fail
  go_returns
  exact ⟨rfl, rfl⟩
/-- What is told of a whole number's parts. -/
theorem told_whole {b : Nat} {n : Int} (h : Told b n) : 0 ≤ place b ∨ (-64 < place b ∧ IntKind.u64.wrap ((mant b : Int) / 2 ^ (-place b).toNat * 2 ^ (-place b).toNat) = (mant b : Int)) ∨ mant b = 0 := by
  obtain ⟨h0, h1, h2⟩ := h
  rcases h2 with ⟨_, h2⟩ | ⟨hn, h2, _, h3⟩
  · refine .inr (.inr ?_)
    unfold mant
    rw [h2]
    rfl
  · rw [place_dx, mant_dm]
    by_cases c : 0 ≤ dx (rung b)
    · exact .inl c
    · refine .inr (.inl ?_)
      unfold exA exB at h3
      rw [show (dx (rung b)).toNat = 0 by omega, Nat.pow_zero, Nat.mul_one] at h3
      have hl := dm_lt (rung b)
      have hn1 : 1 ≤ n.natAbs := by omega
      obtain ⟨k, hk⟩ : ∃ k, k = (-dx (rung b)).toNat := ⟨_, rfl⟩
      rw [← hk] at h3 ⊢
      have hk53 : k < 53 := by
        rcases Nat.lt_or_ge k 53 with q | q
        · exact q
        · have e1 : 2 ^ 53 ≤ 2 ^ k := Nat.pow_le_pow_right (by omega) q
          have e2 : 1 * 2 ^ k ≤ n.natAbs * 2 ^ k := Nat.mul_le_mul_right _ hn1
          omega
      refine ⟨by omega, ?_⟩
      have p := Nat.two_pow_pos k
      have e : ((dm (rung b) : Nat) : Int) / 2 ^ k * 2 ^ k = ((dm (rung b) : Nat) : Int) := by
        rw [h3]
        have : (((n.natAbs * 2 ^ k : Nat) : Int)) / 2 ^ k = ((n.natAbs : Nat) : Int) := by
          rw [Int.natCast_mul, Int.natCast_pow]
          exact Int.mul_ediv_cancel _ (by have : (0 : Int) < 2 ^ k := Int.pow_pos (by omega)
                                          exact Int.ne_of_gt this)
        rw [this, Int.natCast_mul, Int.natCast_pow]
        rfl
      rw [e, IntKind.wrap_u64]
      omega
theorem told_small {b : Nat} {n : Int} (h : Told b n) : ¬ 4845873199050653696 < rung b := by
  intro hg
  obtain ⟨h0, h1, h2⟩ := h
  rcases h2 with ⟨_, h2⟩ | ⟨hn, h2, _, h3⟩
  · omega
  · have hx : 1 ≤ dx (rung b) := by unfold dx fe; omega
    have hd : 4503599627370496 ≤ dm (rung b) := by unfold dm; split <;> omega
    unfold exA exB at h3
    rw [show (-dx (rung b)).toNat = 0 by omega, Nat.pow_zero, Nat.mul_one] at h3
    have p := Nat.two_pow_pos (dx (rung b)).toNat
    have : dm (rung b) * 1 ≤ dm (rung b) * 2 ^ (dx (rung b)).toNat := Nat.mul_le_mul_left _ p
    omega
def WholePost (b : Nat) (w : World) (e : Ending) (w' : World) : Prop := w' = w ∧ ∃ z, e = .returned (.bool z) ∧ ∀ n, Told b n → z = true
set_option maxRecDepth 100000 in
set_option maxHeartbeats 2000000 in
theorem numWhole (b : Nat) (w : World) (h : b < 18446744073709551616) : Calls Tryd.prog 10 #[.float .f64 b] w (WholePost b w) := by
  have HF := Lib.hid (numFinite b w h)
  by_cases hf : rung b < 9218868437227405312
  · have HA := Lib.hid (abs b w h)
    have HP := Lib.hid (numParts b w h hf)
    rw [decide_eq_true hf] at HF
    have hg : (FloatKind.f64.format.order (rung b) 4845873199050653696 == some Ordering.gt) = decide (4845873199050653696 < rung b) := fgt hf (by omega)
    obtain ⟨g, hge⟩ : ∃ g, g = decide (4845873199050653696 < rung b) := ⟨_, rfl⟩
    rw [← hge] at hg
    have HGE := Lib.hid hge
    have hm53 := mant_lt b
    have hpl := place_bd hf
    obtain ⟨R, hR⟩ : ∃ R, R = rung b := ⟨_, rfl⟩
    obtain ⟨M, hM⟩ : ∃ M, M = mant b := ⟨_, rfl⟩
    obtain ⟨E, hE⟩ : ∃ E, E = place b := ⟨_, rfl⟩
    rw [← hR] at HA hg
    rw [← hM, ← hE] at HP
    rw [← hM] at hm53
    rw [← hE] at hpl
    have HT := Lib.hid (fun (n : Int) (hn : Told b n) => told_whole hn)
    rw [← hM, ← hE] at HT
    clear hR hM hE hge h hf
    cases g
    · go_enter Tryd.func10, Tryd.ntmps10
      go_wp2_with fail
      refine HF.out.mono ?_
      rintro e w' ⟨rfl, rfl⟩
      go_wp2_with fail
      refine HA.out.mono ?_
      rintro e w' ⟨rfl, rfl⟩
      go_wp2_with fail
      refine HP.out.mono ?_
      rintro e w' ⟨rfl, rfl⟩
      go_wp2_with fail
      all_goals
        go_returns
        refine ⟨rfl, _, rfl, fun n hn => ?_⟩
        have := HT.out n hn
        first | rfl | (simp; omega) | (simp_all; done) | (exfalso; omega)
    · go_enter Tryd.func10, Tryd.ntmps10
      go_wp2_with fail
      refine HF.out.mono ?_
      rintro e w' ⟨rfl, rfl⟩
      go_wp2_with fail
      refine HA.out.mono ?_
      rintro e w' ⟨rfl, rfl⟩
      go_wp2_with fail
      go_returns
      exact ⟨rfl, _, rfl, fun n hn => absurd (of_decide_eq_true HGE.out.symm) (told_small hn)⟩
  · rw [decide_eq_false hf] at HF
    have HT := Lib.hid (show ∀ n, ¬ Told b n from fun n hn => hf hn.2.1)
    clear hf h
    go_enter Tryd.func10, Tryd.ntmps10
    go_wp2_with fail
    refine HF.out.mono ?_
    rintro e w' ⟨rfl, rfl⟩
    go_wp2_with fail
    go_returns
    exact ⟨rfl, _, rfl, fun n hn => absurd hn (HT.out n)⟩
end Go.Proofs.YtifgealimgedpaaDoor.Nats
