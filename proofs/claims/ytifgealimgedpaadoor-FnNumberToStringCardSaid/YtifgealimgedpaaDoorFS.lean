/- The reference's text of a double in a base (NumTextIn): the walks. -/
import Derived.Test.YtifgealimgedpaaDoorFT
namespace Go.Proofs.YtifgealimgedpaaDoor.Nats
open Ieee Go.RowKit Go.Proofs.YtifgealimgedpaaDoor.Aid Go.Proofs.YtifgealimgedpaaDoor.Runes Go.Proofs.YtifgealimgedpaaDoor.Bytes Go.Proofs.YtifgealimgedpaaDoor.Flo
attribute [local go_sem ↓] Go.wp_at_zero Go.wp_at_succ
set_option linter.unusedVariables false
def tr (b : Nat) : Nat := if 0 ≤ place b then mant b * 2 ^ (place b).toNat else mant b / 2 ^ (-place b).toNat
theorem cut_low (s : Bool) (n d : Nat) : Toward.zero.cut s n d = n / 2 ^ d := by
  unfold Toward.cut
  simp only [Nat.shiftLeft_eq, Nat.one_mul, Bool.toNat_false, Nat.add_zero]
  by_cases h : d ≤ n.log2 + 2
  · rw [Nat.min_eq_left h]
  · rw [Nat.min_eq_right (by omega)]
    have h1 : n < 2 ^ (n.log2 + 1) := Nat.lt_log2_self
    have h2 : 2 ^ (n.log2 + 1) ≤ 2 ^ (n.log2 + 2) := Nat.pow_le_pow_right (by omega) (by omega)
    have h3 : 2 ^ (n.log2 + 2) ≤ 2 ^ d := Nat.pow_le_pow_right (by omega) (by omega)
    rw [Nat.div_eq_of_lt (by omega), Nat.div_eq_of_lt (by omega)]
theorem toInt_pos {r : Nat} (h : r < 9218868437227405312) : (double.read r).toInt .zero = some (tr r : Int) := by
  rw [read_fin (by rw [rung_small h]; exact h), neg_small h]
  unfold Datum.toInt Datum.integral
  simp only [cut_low]
  unfold signed tr
  by_cases c : 0 ≤ place r
  · have e : (-place r).toNat = 0 := by omega
    simp [c, e, Nat.shiftLeft_eq]
  · have e : (place r).toNat = 0 := by omega
    simp [c, e]
theorem told_tr {b : Nat} {n : Int} (h : Told b n) : tr b = n.natAbs := by
  obtain ⟨h0, h1, h2⟩ := h
  rcases h2 with ⟨hn, h2⟩ | ⟨hn, h2, _, h3⟩
  · have : mant b = 0 := by unfold mant; rw [h2]; rfl
    unfold tr
    rw [this, hn]
    split <;> simp
  · unfold tr
    rw [place_dx, mant_dm]
    unfold exA exB at h3
    split
    · rename_i c
      rw [h3, show (-dx (rung b)).toNat = 0 by omega, Nat.pow_zero, Nat.mul_one]
    · rename_i c
      rw [show (dx (rung b)).toNat = 0 by omega, Nat.pow_zero, Nat.mul_one] at h3
      rw [h3, Nat.mul_div_cancel _ (Nat.two_pow_pos _)]
/-- A conversion to an uint64: what fits, or any, drawn. -/
theorem castU64 (b : Nat) (w : World) : ∃ (N : Nat) (w' : World), (convert 22 28 (.float .f64 b)).run Tryd.prog w = .ok (.int .u64 N) w' ∧ N < 18446744073709551616 ∧ Below w.heap.size w w' ∧ (b < 9218868437227405312 → ∀ n, Told b n → N = n.natAbs) := by
  cases h : floatToIntVal .f64 b .u64 with
  | some v =>
    have hv : 0 ≤ v ∧ v < 18446744073709551616 := by
      unfold floatToIntVal at h
      split at h
      · split at h
        · rename_i hb
          cases h
          have h1 : (0 : Int) ≤ v := hb.1
          have h2 : v ≤ (18446744073709551615 : Int) := hb.2
          omega
        · cases h
      · cases h
    have hT : b < 9218868437227405312 → ∀ n, Told b n → v.toNat = n.natAbs := by
      intro hb n hn
      unfold floatToIntVal FloatKind.decode FloatKind.format at h
      rw [toInt_pos hb] at h
      simp only at h
      split at h
      · cases h
        rw [told_tr hn]
        omega
      · cases h
    obtain ⟨N, rfl⟩ : ∃ N : Nat, v = (N : Int) := ⟨v.toNat, by omega⟩
    exact ⟨N, w, run_convert_float_int w 22 28 .f64 .u64 b N (by kernel_rfl) (by kernel_rfl) h, by omega, Below.refl _ _, fun a n b => by have := hT a n b; omega⟩
  | none =>
    have hw : 0 ≤ IntKind.u64.wrap ((Question.floatToInt .f64 b .u64).cut (w.tape w.drawn (Question.floatToInt .f64 b .u64)) : Nat) ∧ IntKind.u64.wrap ((Question.floatToInt .f64 b .u64).cut (w.tape w.drawn (Question.floatToInt .f64 b .u64)) : Nat) < 18446744073709551616 := by
      rw [IntKind.wrap_u64]; omega
    have h1 : Tryd.prog.underlying 22 = some (.float .f64) := by kernel_rfl
    have h2 : Tryd.prog.underlying 28 = some (.int .u64) := by kernel_rfl
    unfold floatToIntVal at h
    have h3 : ∀ n, (FloatKind.f64.decode b).toInt .zero = some n → ¬ (IntKind.u64.min ≤ n ∧ n ≤ IntKind.u64.max) := by
      intro n hn hc
      rw [hn] at h
      simp only [if_pos hc] at h
      cases h
    have hrun : (convert 22 28 (.float .f64 b)).run Tryd.prog w = .ok (.int .u64 (IntKind.u64.wrap ((Question.floatToInt .f64 b .u64).cut (w.tape w.drawn (Question.floatToInt .f64 b .u64)) : Nat))) w.drew := by
      cases hd : (FloatKind.f64.decode b).toInt .zero with
      | none => simp [convert, run_underlying h1, run_underlying h2, Conv.floatToInt, hd, Question.forced]
      | some n =>
        have := h3 n hd
        simp [convert, run_underlying h1, run_underlying h2, Conv.floatToInt, hd, this, Question.forced]
    generalize IntKind.u64.wrap ((Question.floatToInt .f64 b .u64).cut (w.tape w.drawn (Question.floatToInt .f64 b .u64)) : Nat) = v at hw hrun
    obtain ⟨N, rfl⟩ : ∃ N : Nat, v = (N : Int) := ⟨v.toNat, by omega⟩
    refine ⟨N, w.drew, hrun, by omega, (Below.refl _ _).drew, fun hb n hn => ?_⟩
    exfalso
    have e := toInt_pos hb
    have ht := told_tr hn
    have hs := hn.1
    refine h3 (tr b : Int) e ⟨?_, ?_⟩
    · show (0 : Int) ≤ _; omega
    · show _ ≤ (18446744073709551615 : Int); omega
theorem bound_le {b n : Nat} (h : n ≤ 5100) : n ≤ if neg b then 5101 else 5100 := by split <;> omega
/-- What the reference says of a double in a base. -/
def InAll (b r : Nat) (t : ByteArray) (z : Bool) : Prop := t.size ≤ (if neg b then 5101 else 5100) ∧ (∀ n, Told b n → z = true ∧ t = ⟨(fmtR r n).toArray⟩) ∧ (9218868437227405312 < rung b → z = true ∧ t = tNaN) ∧ (rung b = 9218868437227405312 → z = true ∧ t = if neg b then tMin ++ tInf else tInf)
def InPost (b r : Nat) (w : World) (e : Ending) (w' : World) : Prop := Below w.heap.size w w' ∧ ∃ (t : ByteArray) (z : Bool), e = .returned (.tuple #[.string t, .bool z]) ∧ InAll b r t z
theorem min_text (l : List UInt8) : tMin ++ (⟨l.toArray⟩ : ByteArray) = ⟨(45 :: l).toArray⟩ := by
  apply ByteArray.ext
  rw [ByteArray.data_append]
  apply Array.toList_inj.1
  simp [tMin]
theorem all_in {b r : Nat} {t : ByteArray} (h : TextAll b t) (hs : t.size ≤ 5001) (hr : r = 10 ∨ ¬ rung b < 9218868437227405312) : InAll b r t true := by
  refine ⟨bound_le (by omega), fun n hn => ⟨rfl, ?_⟩, fun hN => ⟨rfl, h.1 hN⟩, fun hI => ⟨rfl, h.2.1 hI⟩⟩
  rcases hr with rfl | hr
  · obtain ⟨h0, h1, h2⟩ := hn
    rcases h2 with ⟨rfl, h2⟩ | ⟨hn, h2, h4, h3⟩
    · rw [h.2.2.1 h2, fmtR, if_neg (by omega), rad_lo (by decide)]
      rfl
    · obtain ⟨u, hu, ht⟩ := h.2.2.2 h2 h1
      rw [ht, h4, hu.2 n.natAbs (by omega) (by omega) h3, fmtR, rad_ten]
      by_cases c : n < 0
      · rw [if_pos c, decide_eq_true c, if_pos rfl, min_text]
      · rw [if_neg c, decide_eq_false c, if_neg (by decide)]
  · exact absurd hn.2.1 hr
theorem rad_len (r : Nat) (hr : 2 ≤ r) : ∀ k n, n < 2 ^ (k + 1) → (rad r n).length ≤ k + 1 := by
  intro k
  induction k with
  | zero =>
    intro n hn
    rw [rad_lo (by omega)]
    simp
  | succ k ih =>
    intro n hn
    rcases Nat.lt_or_ge n r with h | h
    · rw [rad_lo h]; simp
    · rw [rad_hi h hr, List.length_append]
      have e : 2 ^ (k + 1 + 1) = 2 ^ (k + 1) * 2 := Nat.pow_succ 2 (k + 1)
      have hq : n / r ≤ n / 2 := Nat.div_le_div_left hr (by omega)
      have := ih (n / r) (by omega)
      simp only [List.length_cons, List.length_nil]
      omega
theorem untold {b : Nat} (h : ∀ n, ¬ Told b n) {r : Nat} {t : ByteArray} {z : Bool} (hs : t.size ≤ 5100) (hf : rung b < 9218868437227405312) : InAll b r t z :=
  ⟨bound_le hs, fun n hn => absurd hn (h n), fun _ => by omega, fun _ => by omega⟩
set_option maxRecDepth 100000 in
set_option maxHeartbeats 2000000 in
theorem textA (b r : Nat) (w : World) (h : b < 18446744073709551616) (h2 : 2 ≤ r) (h36 : r ≤ 36) (hA : r = 10 ∨ ¬ rung b < 9218868437227405312) : Calls Tryd.prog 5 #[.float .f64 b, .int .i64 r] w (InPost b r w) := by
  have HT := Lib.hid (numText b w h)
  have HIN := Lib.hid (fun (t : ByteArray) (h : TextAll b t) (hs : t.size ≤ 5001) => all_in h hs hA)
  by_cases h10 : r = 10
  · have h10' : ((r : Int) == 10) = true := by rw [h10]; rfl
    clear hA h
    go_enter Tryd.func5, Tryd.ntmps5
    go_wp2_with fail
    refine HT.out.mono ?_
    rintro e W ⟨hb, t, rfl, hs, ht⟩
    have HB := Lib.hid hb
    have HR := Lib.hid (HIN.out t ht hs)
    clear hb hs ht
    go_wp2_with fail
    go_returns
    exact ⟨HB.out, t, true, rfl, HR.out⟩
  · have h10' : ((r : Int) == 10) = false := by simp; omega
    have HN := Lib.hid (isNaN b w)
    have hnf : ¬ rung b < 9218868437227405312 := by exact hA.resolve_left h10
    by_cases hn : 9218868437227405312 < rung b
    · rw [decide_eq_true hn] at HN
      clear hA h hn hnf h10
      go_enter Tryd.func5, Tryd.ntmps5
      go_wp2_with fail
      refine HN.out.mono ?_
      rintro e W ⟨rfl, rfl⟩
      go_wp2_with fail
      refine HT.out.mono ?_
      rintro e W2 ⟨hb, t, rfl, hs, ht⟩
      have HB := Lib.hid hb
      have HR := Lib.hid (HIN.out t ht hs)
      clear hb hs ht
      go_wp2_with fail
      go_returns
      exact ⟨HB.out, t, true, rfl, HR.out⟩
    · have HI := Lib.hid (isInf b w h (by omega))
      rw [decide_eq_false hn] at HN
      rw [decide_eq_true (show rung b = 9218868437227405312 by omega)] at HI
      clear hA h hn hnf h10
      go_enter Tryd.func5, Tryd.ntmps5
      go_wp2_with fail
      refine HN.out.mono ?_
      rintro e W ⟨rfl, rfl⟩
      go_wp2_with fail
      refine HI.out.mono ?_
      rintro e W ⟨rfl, rfl⟩
      go_wp2_with fail
      refine HT.out.mono ?_
      rintro e W2 ⟨hb, t, rfl, hs, ht⟩
      have HB := Lib.hid hb
      have HR := Lib.hid (HIN.out t ht hs)
      clear hb hs ht
      go_wp2_with fail
      go_returns
      exact ⟨HB.out, t, true, rfl, HR.out⟩
set_option maxRecDepth 100000 in
set_option maxHeartbeats 4000000 in
theorem textB (b r : Nat) (w : World) (h : b < 9223372036854775808) (h2 : 2 ≤ r) (h36 : r ≤ 36) (h10 : r ≠ 10) (hf : b < 9218868437227405312) : Calls Tryd.prog 5 #[.float .f64 b, .int .i64 r] w (InPost b r w) := by
  have h10' : ((r : Int) == 10) = false := by simp; omega
  have hrg : rung b = b := rung_small hf
  have HN := Lib.hid (isNaN b w)
  have HI := Lib.hid (isInf b w (by omega) (by rw [hrg]; omega))
  rw [hrg, decide_eq_false (by omega)] at HN HI
  have HW := Lib.hid (numWhole b w (by omega))
  obtain ⟨oe, ol⟩ := ord_zero (b := b) (by rw [hrg]; exact hf)
  rw [neg_small hf, Bool.false_and] at ol
  rw [hrg] at oe
  have HUN := Lib.hid (fun (hn : ∀ n, ¬ Told b n) (t : ByteArray) (z : Bool) (hs : t.size ≤ 5100) => untold (r := r) (z := z) hn hs (by rw [hrg]; exact hf))
  obtain ⟨N, w1, hc, hN, hb1, hTN⟩ := castU64 b w
  have HB1 := Lib.hid hb1
  have HTN := Lib.hid (hTN hf)
  have HF := Lib.hid hf
  have HRG := Lib.hid hrg
  clear h hf hrg hb1 hTN
  go_enter Tryd.func5, Tryd.ntmps5
  go_wp2_with fail
  refine HN.out.mono ?_
  rintro e W ⟨rfl, rfl⟩
  go_wp2_with fail
  refine HI.out.mono ?_
  rintro e W ⟨rfl, rfl⟩
  go_wp2_with fail
  refine HW.out.mono ?_
  rintro e W ⟨rfl, z, rfl, hz⟩
  have HZ := Lib.hid hz
  clear hz
  cases z
  · go_wp2_with fail
    go_returns
    exact ⟨Below.refl _ _, _, false, rfl, HUN.out (fun n hn => by cases HZ.out n hn) _ _ (by decide)⟩
  · by_cases h0 : b = 0
    · rw [decide_eq_true h0] at oe
      have HZ0 := Lib.hid h0
      clear h0
      go_wp2_with fail
      go_returns
      exact ⟨Below.refl _ _, _, true, rfl, bound_le (by decide), fun n hn => ⟨rfl, by
        have hb0 := HZ0.out
        subst hb0
        have hn0 : n = 0 := by
          rcases hn.2.2 with q | q
          · exact q.1
          · exact absurd q.2.1 (by decide)
        rw [hn0, fmtR, if_neg (by omega), rad_lo (show (0 : Int).natAbs < r by simp; omega)]
        rfl⟩, fun hx => by rw [HRG.out] at hx; have := HF.out; omega, fun hx => by rw [HRG.out] at hx; have := HF.out; omega⟩
    · rw [decide_eq_false h0] at oe
      have HZ0 := Lib.hid h0
      clear h0
      go_wp2_with fail
      go_loopw [8, 9] (fun sv nv wr => ∃ (k : Nat) (l : List UInt8), sv = .string ⟨l.toArray⟩ ∧ nv = .int .u64 k ∧ (l.length ≤ 64 ∧ k ≤ N) ∧ Hid (k < 2 ^ (64 - l.length)) ∧ Hid (0 < N → (0 < k → rad r N = rad r k ++ l) ∧ (k = 0 → rad r N = l)) ∧ Hid (Below W.heap.size W wr)) (fun _ nv _ => (intOf nv).toNat)
      case atStart => exact ⟨N, [], rfl, rfl, ⟨by simp, by omega⟩, Lib.hid (by simp; omega), Lib.hid (fun hN => ⟨fun _ => by simp, fun h => by omega⟩), HB1⟩
      case round =>
        obtain ⟨k, l, rfl, rfl, ⟨hl, hkN⟩, HK, HR, HB⟩ := hrel
        obtain ⟨L, hL⟩ : ∃ L : ByteArray, L = ⟨l.toArray⟩ := ⟨_, rfl⟩
        have hLs : L.size = l.length := by rw [hL]; simp [ByteArray.size]
        have HL := Lib.hid hL
        rw [← hL]
        clear hL
        by_cases hk : 0 < k
        · obtain ⟨d, hd⟩ : ∃ d, d = k % r := ⟨_, rfl⟩
          obtain ⟨q, hq⟩ : ∃ q, q = k / r := ⟨_, rfl⟩
          have hd36 : d < 36 := by rw [hd]; have := Nat.mod_lt k (show 0 < r by omega); omega
          have hqk : q < k := by rw [hq]; exact Nat.div_lt_self (by omega) (by omega)
          have HD := Lib.hid (fun w => numDigit d hd36 w)
          have ed : (k : Int) % (r : Int) = (d : Int) := by rw [hd]; simp
          have eq : (k : Int) / (r : Int) = (q : Int) := by rw [hq]; simp
          have wq : IntKind.u64.wrap (q : Int) = (q : Int) := by rw [IntKind.wrap_u64]; omega
          have wd : IntKind.i64.wrap (d : Int) = (d : Int) := IntWalk.i64_in _ (by omega)
          have HDK := Lib.hid hd
          have HQK := Lib.hid hq
          clear hd hq
          go_wp2_with fail
          refine (HD.out _).mono ?_
          rintro e w2 ⟨rfl, rfl⟩
          have hx : 1 + L.size ≤ 9223372036854775807 := by omega
          go_wp2_with fail
          go_roundw
          case rel =>
            have hk2 := HK.out
            have hl63 : l.length ≤ 63 := by
              rcases Nat.lt_or_ge l.length 64 with q | q
              · omega
              · have : l.length = 64 := by omega
                rw [this] at hk2
                omega
            refine ⟨q, dgt d :: l, ?_, rfl, ⟨by simp; omega, by omega⟩, Lib.hid ?_, Lib.hid ?_, ?_⟩
            · rw [HL.out]
              congr 1
            · have hq2 : q * 2 ≤ k := by
                rw [HQK.out]
                have e1 : k / r ≤ k / 2 := Nat.div_le_div_left h2 (by omega)
                omega
              have e1 : 2 ^ (63 - l.length + 1) = 2 ^ (63 - l.length) * 2 := Nat.pow_succ 2 (63 - l.length)
              rw [show 63 - l.length + 1 = 64 - l.length by omega] at e1
              rw [show 64 - (dgt d :: l).length = 63 - l.length by simp]
              omega
            · intro hN0
              have h1 := (HR.out hN0).1 hk
              rcases Nat.lt_or_ge k r with c | c
              · have hq0 : q = 0 := by rw [HQK.out]; exact Nat.div_eq_of_lt c
                have hdk : d = k := by rw [HDK.out]; exact Nat.mod_eq_of_lt c
                rw [rad_lo c] at h1
                rw [hdk]
                exact ⟨fun h => by omega, fun _ => h1⟩
              · have hq1 : 0 < q := by rw [HQK.out]; exact Nat.div_pos c (by omega)
                rw [rad_hi c h2, List.append_assoc, ← HQK.out, ← HDK.out] at h1
                exact ⟨fun _ => h1, fun h => by omega⟩
            · exact HB
          case measure => simp [intOf]; omega
        · have hk0 : k = 0 := by omega
          subst hk0
          go_wp2_with fail
          go_returns
          refine ⟨HB.out, L, true, rfl, bound_le (by omega), fun n hn => ⟨rfl, ?_⟩, fun hx => by rw [HRG.out] at hx; have := HF.out; omega, fun hx => by rw [HRG.out] at hx; have := HF.out; omega⟩
          have hNn := HTN.out n hn
          have hng : neg b = false := neg_small HF.out
          rcases hn.2.2 with q | ⟨q0, q1, q2, q3⟩
          · exact absurd (by rw [← HRG.out]; exact q.2) HZ0.out
          · have hpos : ¬ n < 0 := by
              rw [hng] at q2
              exact of_decide_eq_false q2.symm
            rw [HL.out, fmtR, if_neg hpos, ← hNn, (HR.out (by omega)).2 trivial]
/-- Below zero: the minus sign, then the text of the other one. -/
theorem told_neg {b : Nat} {n : Int} (h : Told b n) (hn : neg b = true) (h0 : 0 < rung b) : n < 0 ∧ Told (rung b) (-n) := by
  obtain ⟨h1, h2, h3⟩ := h
  rcases h3 with q | ⟨q0, q1, q2, q3⟩
  · omega
  · have hlt : n < 0 := by rw [hn] at q2; exact of_decide_eq_true q2.symm
    refine ⟨hlt, by omega, by rw [rung_rung]; exact h2, .inr ⟨by omega, by rw [rung_rung]; exact q1, ?_, ?_⟩⟩
    · rw [neg_small h2]
      exact (decide_eq_false (by omega)).symm
    · rw [rung_rung, show (-n).natAbs = n.natAbs by omega]
      exact q3
set_option maxRecDepth 100000 in
set_option maxHeartbeats 4000000 in
theorem textC (b r : Nat) (w : World) (h : b < 18446744073709551616) (hn : neg b = true) (h2 : 2 ≤ r) (h36 : r ≤ 36) (h10 : r ≠ 10) (hf : rung b < 9218868437227405312) : Calls Tryd.prog 5 #[.float .f64 b, .int .i64 r] w (InPost b r w) := by
  have h10' : ((r : Int) == 10) = false := by simp; omega
  have HN := Lib.hid (isNaN b w)
  have HI := Lib.hid (isInf b w h (by omega))
  rw [decide_eq_false (by omega)] at HN HI
  have HW := Lib.hid (numWhole b w h)
  obtain ⟨oe, ol⟩ := ord_zero (b := b) hf
  rw [hn, Bool.true_and] at ol
  have HUN := Lib.hid (fun (hn : ∀ n, ¬ Told b n) (t : ByteArray) (z : Bool) (hs : t.size ≤ 5100) => untold (r := r) (z := z) hn hs hf)
  have hng := run_ngw b
  rw [(ngw_is b h).2.2.2 hn] at hng
  have HB5 := Lib.hid (textB (rung b) r w (rung_bd b) h2 h36 h10 hf)
  have HF := Lib.hid hf
  have HNG := Lib.hid hn
  obtain ⟨R, hR⟩ : ∃ R, R = rung b := ⟨_, rfl⟩
  rw [← hR] at oe ol hng HB5
  have HR := Lib.hid hR
  clear h hf hR hn
  go_enter Tryd.func5, Tryd.ntmps5
  go_wp2_with fail
  refine HN.out.mono ?_
  rintro e W ⟨rfl, rfl⟩
  go_wp2_with fail
  refine HI.out.mono ?_
  rintro e W ⟨rfl, rfl⟩
  go_wp2_with fail
  refine HW.out.mono ?_
  rintro e W ⟨rfl, z, rfl, hz⟩
  have HZ := Lib.hid hz
  clear hz
  cases z
  · go_wp2_with fail
    go_returns
    exact ⟨Below.refl _ _, _, false, rfl, HUN.out (fun n hn => by cases HZ.out n hn) _ _ (by decide)⟩
  · by_cases h0 : R = 0
    · rw [decide_eq_true h0] at oe
      have HZ0 := Lib.hid h0
      clear h0
      go_wp2_with fail
      go_returns
      exact ⟨Below.refl _ _, _, true, rfl, bound_le (by decide), fun n hn => ⟨rfl, by
        have hn0 : n = 0 := by
          rcases hn.2.2 with q | q
          · exact q.1
          · have q1 := q.2.1
            rw [← HR.out, HZ0.out] at q1
            omega
        rw [hn0, fmtR, if_neg (by omega), rad_lo (show (0 : Int).natAbs < r by simp; omega)]
        rfl⟩, fun hx => by have := HF.out; omega, fun hx => by have := HF.out; omega⟩
    · rw [decide_eq_false h0] at oe
      rw [decide_eq_true (show 0 < R by omega)] at ol
      have HZ0 := Lib.hid h0
      clear h0
      go_wp2_with fail
      refine HB5.out.mono ?_
      rintro e W2 ⟨hb, t, z, rfl, hs, ht⟩
      have HB := Lib.hid hb
      have HT := Lib.hid ht.1
      have hs2 : t.size ≤ 5100 := by rw [HR.out, neg_small HF.out] at hs; exact hs
      have HS := Lib.hid hs2
      have hx : 1 + t.size ≤ 9223372036854775807 := by omega
      clear hb ht hs hs2
      go_wp2_with fail
      go_returns
      refine ⟨HB.out, _, z, rfl, ?_, fun n hn => ?_, fun hx => by have := HF.out; omega, fun hx => by have := HF.out; omega⟩
      · rw [HNG.out, if_pos rfl, ByteArray.size_append]
        show 1 + t.size ≤ 5101
        have := HS.out
        omega
      · obtain ⟨hlt, hT⟩ := told_neg hn HNG.out (by rw [← HR.out]; have := HZ0.out; omega)
        rw [← HR.out] at hT
        obtain ⟨hz, ht⟩ := HT.out _ hT
        refine ⟨hz, ?_⟩
        rw [ht, fmtR, if_neg (by omega), fmtR, if_pos hlt, show (-n).natAbs = n.natAbs by omega]
        exact min_text _
theorem textIn (b r : Nat) (w : World) (h : b < 18446744073709551616) (h2 : 2 ≤ r) (h36 : r ≤ 36) : Calls Tryd.prog 5 #[.float .f64 b, .int .i64 r] w (InPost b r w) := by
  by_cases hA : r = 10 ∨ ¬ rung b < 9218868437227405312
  · exact textA b r w h h2 h36 hA
  · have h10 : r ≠ 10 := fun q => hA (.inl q)
    have hf : rung b < 9218868437227405312 := by
      rcases Nat.lt_or_ge (rung b) 9218868437227405312 with q | q
      · exact q
      · exact absurd (.inr (by omega)) hA
    cases hn : neg b
    · have hb : b < 9223372036854775808 := by
        unfold neg at hn
        rcases Nat.lt_or_ge b 9223372036854775808 with q | q
        · exact q
        · rw [show b / 9223372036854775808 % 2 = 1 by omega] at hn
          cases hn
      exact textB b r w hb h2 h36 h10 (by unfold rung at hf; omega)
    · exact textC b r w h hn h2 h36 h10 hf
end Go.Proofs.YtifgealimgedpaaDoor.Nats
