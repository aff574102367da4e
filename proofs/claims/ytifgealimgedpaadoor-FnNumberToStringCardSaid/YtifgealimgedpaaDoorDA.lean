/- A double as a quotient; what comes back; digits cut. The walks. -/
import Derived.Test.YtifgealimgedpaaDoorDig
import Derived.Test.YtifgealimgedpaaDoorRC
import Derived.Deep.QuietTactic
import Derived.BigQuiet
namespace Go.Proofs.YtifgealimgedpaaDoor.Nats
open Go.RowKit Go.Proofs.YtifgealimgedpaaDoor.Aid Go.Proofs.YtifgealimgedpaaDoor.Runes Go.Proofs.YtifgealimgedpaaDoor.Bytes
attribute [local go_sem ↓] Go.wp_at_zero Go.wp_at_succ
set_option linter.unusedVariables false
theorem mask32 (q : Nat) (h : q < 18446744073709551616) : bits .and .u64 (q : Int) 4294967295 = ((q % 4294967296 : Nat) : Int) := by
  have h1 := u64_and_nat q 4294967295 h (by omega)
  rw [show ((4294967295 : Nat) : Int) = 4294967295 from rfl] at h1
  rw [h1, show 4294967295 = 2 ^ 32 - 1 by decide, Nat.and_two_pow_sub_one_eq_mod]
theorem mask52 (q : Nat) (h : q < 18446744073709551616) : bits .and .u64 (q : Int) 4503599627370495 = ((q % 4503599627370496 : Nat) : Int) := by
  have h1 := u64_and_nat q 4503599627370495 h (by omega)
  rw [show ((4503599627370495 : Nat) : Int) = 4503599627370495 from rfl] at h1
  rw [h1, show 4503599627370495 = 2 ^ 52 - 1 by decide, Nat.and_two_pow_sub_one_eq_mod]
theorem mask11 (q : Nat) (h : q < 2048) : bits .and .u64 (q : Int) 2047 = (q : Int) := by
  have h1 := u64_and_nat q 2047 (by omega) (by omega)
  rw [show ((2047 : Nat) : Int) = 2047 from rfl] at h1
  rw [h1, show 2047 = 2 ^ 11 - 1 by decide, Nat.and_two_pow_sub_one_eq_mod]
  omega
theorem or52 (q : Nat) (h : q < 4503599627370496) : bits .or .u64 (q : Int) 4503599627370496 = ((q + 4503599627370496 : Nat) : Int) := by
  have h1 := u64_or_nat q 4503599627370496 (by omega) (by omega)
  rw [show ((4503599627370496 : Nat) : Int) = 4503599627370496 from rfl] at h1
  rw [h1]
  congr 1
  have := Nat.shiftLeft_add_eq_or_of_lt (i := 52) (b := q) h 1
  rw [Nat.shiftLeft_eq, Nat.or_comm] at this
  rw [show 4503599627370496 = 1 * 2 ^ 52 by decide, ← this]
  omega
/-- Two limbs. -/
theorem two_limbs (q h : Nat) (w : World) (hq : q < 18446744073709551616) (hb : Blk w h 28 [.int .u64 ((q % 4294967296 : Nat) : Int), .int .u64 ((q / 4294967296 : Nat) : Int)]) :
    Calls Tryd.prog 41 #[.slice (some ⟨h, 0, none⟩) 2 2] w fun e w' => w' = w ∧ ∃ v, e = .returned v ∧ Num w v q := by
  have hN : NatAt w (some ⟨h, 0, none⟩) 2 2 (fun i => if i = 0 then q % 4294967296 else q / 4294967296) := ⟨Nat.le_refl _, by omega, reads_blk hb 2 fun i hi => by
    rcases (by omega : i = 0 ∨ i = 1) with rfl | rfl <;> rfl⟩
  refine (natTrim _ 2 2 _ w hN).mono ?_
  rintro e w' ⟨rfl, k, hk, rfl⟩
  refine ⟨rfl, _, rfl, _, k, 2, _, rfl, ⟨by have := hk.1; omega, by have := hk.1; omega, fun i hi => hN.2.2 i (by have := hk.1; omega)⟩, fun i hi => ?_, hk.2.2, ?_⟩
  · show (if i = 0 then q % 4294967296 else q / 4294967296) < 4294967296
    split <;> omega
  · rw [← val_trim _ 2 k hk.1 hk.2.1]
    show val _ 0 + q % 4294967296 * 2 ^ (32 * 0) + q / 4294967296 * 2 ^ (32 * 1) = q
    rw [val, show (2 : Nat) ^ (32 * 0) = 1 by decide, show (2 : Nat) ^ (32 * 1) = 4294967296 by decide]
    omega
def PairPost (A B : Nat) (w : World) (e : Ending) (w' : World) : Prop := Below w.heap.size w w' ∧ ∃ u v, e = .returned (.tuple #[u, v]) ∧ Num w' u A ∧ Num w' v B
set_option maxRecDepth 100000 in
set_option maxHeartbeats 8000000 in
theorem exactOf (q : Nat) (w : World) (hq : q < 9218868437227405312) : Calls Tryd.prog 27 #[.int .u64 q] w (PairPost (exA q) (exB q) w) := by
  obtain ⟨f, hf⟩ : ∃ f, f = q / 4503599627370496 := ⟨_, rfl⟩
  obtain ⟨r, hr⟩ : ∃ r, r = q % 4503599627370496 := ⟨_, rfl⟩
  have e1 : (q : Int) / 4503599627370496 = (f : Int) := by omega
  have f2 : f ≤ 2046 := by omega
  have e2 := mask11 f (by omega)
  have e3 := mask52 q (by omega)
  rw [← hr] at e3
  have e4 := or52 r (by omega)
  have HM := Lib.hid (show dm q = if f = 0 then r else r + 4503599627370496 by rw [dm, hf, hr])
  have HX := Lib.hid (show dx q = ((max f 1 : Nat) : Int) - 1075 by rw [dx, fe, hf])
  have HMB := Lib.hid (dm_lt q)
  have HEA := Lib.hid (show exA q = dm q * 2 ^ (dx q).toNat from rfl)
  have HEB := Lib.hid (show exB q = 2 ^ (-(dx q)).toNat from rfl)
  obtain ⟨A, hA⟩ : ∃ A, A = exA q := ⟨_, rfl⟩
  obtain ⟨B, hB⟩ : ∃ B, B = exB q := ⟨_, rfl⟩
  obtain ⟨M, hM⟩ : ∃ M, M = dm q := ⟨_, rfl⟩
  obtain ⟨X, hX⟩ : ∃ X, X = dx q := ⟨_, rfl⟩
  rw [← hA, ← hM, ← hX] at HEA
  rw [← hB, ← hX] at HEB
  rw [← hM] at HM HMB
  rw [← hX] at HX
  rw [← hA, ← hB]
  clear hf hr hq hA hB hM hX
  go_enter Tryd.func27, Tryd.ntmps27
  go_upto_if 14 with fail
  go_cut [4, 5] (fun ev mv wx => ev = .int .i64 (max f 1 : Nat) ∧ mv = .int .u64 M ∧ wx = w)
  case first =>
    by_cases h0 : f = 0
    · have t0 : ((f : Int) == 0) = true := by rw [h0]; rfl
      have HM2 := Lib.hid (show M = r by rw [HM.out, if_pos h0])
      have HF2 := Lib.hid (show max f 1 = 1 by omega)
      clear h0
      go_wp2_with fail
      go_meet
      exact ⟨by rw [HF2.out]; rfl, by rw [HM2.out], rfl⟩
    · have t0 : ((f : Int) == 0) = false := by rw [beq_eq_false_iff_ne]; omega
      have HM2 := Lib.hid (show M = r + 4503599627370496 by rw [HM.out, if_neg h0])
      have HF2 := Lib.hid (show max f 1 = f by omega)
      clear h0
      go_wp2_with fail
      go_meet
      exact ⟨by rw [HF2.out], by rw [HM2.out]; exact val_int (by omega), rfl⟩
  case rest =>
    obtain ⟨rfl, rfl, rfl⟩ := hcut
    obtain ⟨E, hE⟩ : ∃ E, E = max f 1 := ⟨_, rfl⟩
    rw [← hE] at HX ⊢
    have E2 : E ≤ 2046 := by omega
    have HMB2 := HMB.out
    have e5 := mask32 M (by omega)
    have HBL := Lib.hid (Blk.new wc 28 [.int .u64 ((M % 4294967296 : Nat) : Int), .int .u64 ((M / 4294967296 : Nat) : Int)])
    have HTL := Lib.hid (two_limbs M wc.heap.size _ (by omega) HBL.out)
    have HBW := Lib.hid (below_at (Below.refl wc.heap.size wc) (.cells #[.int .u64 ((M % 4294967296 : Nat) : Int), .int .u64 ((M / 4294967296 : Nat) : Int)] 28))
    have HBM := Lib.hid (show blen M ≤ 53 from blen_le_of_lt HMB2)
    obtain ⟨lo, hlo⟩ : ∃ lo, lo = M % 4294967296 := ⟨_, rfl⟩
    have e6 : (M : Int) / 4294967296 = ((M / 4294967296 : Nat) : Int) := by omega
    obtain ⟨hi, hhi⟩ : ∃ hi, hi = M / 4294967296 := ⟨_, rfl⟩
    rw [← hlo] at e5
    rw [← hhi] at e6
    rw [← hlo, ← hhi] at HBL HTL HBW
    clear hE HMB2 hlo hhi e1 e2 e3 e4
    go_wp2_with fail
    refine HTL.out.mono ?_
    rintro e W ⟨rfl, v, rfl, hv⟩
    have HV := Lib.hid hv
    clear hv
    have HSM := Lib.hid (fun w => show Calls Tryd.prog 35 #[.int .i64 1] w (Gives 1 w) from natSmall 1 w (by omega))
    by_cases h75 : 1075 ≤ E
    · obtain ⟨m, hm⟩ : ∃ m : Nat, m = E - 1075 := ⟨_, rfl⟩
      have em : (E : Int) - 1075 = (m : Int) := by omega
      have HXM := Lib.hid (show X.toNat = m ∧ (-X).toNat = 0 by have := HX.out; omega)
      have m2 : m ≤ 1000 := by omega
      clear hm
      go_wp2_with fail
      refine (shift_walk v M m _ HV.out (by have := HBM.out; omega)).mono ?_
      rintro e W2 ⟨hb2, a, rfl, ha⟩
      have HA2 := Lib.hid ha
      have HB2 := Lib.hid (HBW.out.trans (hb2.mono HBW.out.size))
      clear ha hb2
      go_wp2_with fail
      refine (HSM.out _).mono ?_
      rintro e W3 ⟨hb3, b, rfl, hb⟩
      have HB3 := Lib.hid (HB2.out.trans (hb3.mono HB2.out.size))
      have HA3 := Lib.hid (HA2.out.below hb3)
      have HBB := Lib.hid hb
      clear hb hb3
      go_wp2_with fail
      go_returns
      exact ⟨HB3.out, a, b, rfl, by rw [HEA.out, HXM.out.1]; exact HA3.out, by rw [HEB.out, HXM.out.2]; exact HBB.out⟩
    · obtain ⟨m, hm⟩ : ∃ m : Nat, m = 1075 - E := ⟨_, rfl⟩
      have em : 1075 - (E : Int) = (m : Int) := by omega
      have HXM := Lib.hid (show X.toNat = 0 ∧ (-X).toNat = m by have := HX.out; omega)
      have m2 : m ≤ 1075 := by omega
      clear hm
      go_wp2_with fail
      refine (HSM.out _).mono ?_
      rintro e W2 ⟨hb2, b, rfl, hb⟩
      have HB2 := Lib.hid (HBW.out.trans (hb2.mono HBW.out.size))
      have HA2 := Lib.hid (HV.out.below hb2)
      have HSH := Lib.hid (shift_walk b 1 m _ hb (by have : blen 1 = 1 := by decide
                                                     omega))
      clear hb hb2
      go_wp2_with fail
      refine HSH.out.mono ?_
      rintro e W3 ⟨hb3, c, rfl, hc⟩
      have HB3 := Lib.hid (HB2.out.trans (hb3.mono HB2.out.size))
      have HA3 := Lib.hid (HA2.out.below hb3)
      have HC := Lib.hid hc
      clear hc hb3
      go_wp2_with fail
      go_returns
      exact ⟨HB3.out, v, c, rfl, by rw [HEA.out, HXM.out.1, Nat.pow_zero, Nat.mul_one]; exact HA3.out, by rw [HEB.out, HXM.out.2]; have := HC.out; rwa [Nat.one_mul] at this⟩
theorem blen_one : blen 1 = 1 := by decide
def WordPost (q : Nat) (w : World) (e : Ending) (w' : World) : Prop := Below w.heap.size w w' ∧ e = .returned (.int .u64 (q : Int))
set_option maxRecDepth 100000 in
set_option maxHeartbeats 8000000 in
theorem backTo (q : Nat) (x : Int) (w : World) (hq : q < 18446744073709551616) (x0 : -3000 ≤ x) (x1 : x ≤ 3000) : Calls Tryd.prog 32 #[.int .u64 q, .int .i64 x] w (WordPost (backP q x) w) := by
  have e5 := mask32 q hq
  have HBL := Lib.hid (Blk.new w 28 [.int .u64 ((q % 4294967296 : Nat) : Int), .int .u64 ((q / 4294967296 : Nat) : Int)])
  have HTL := Lib.hid (two_limbs q w.heap.size _ hq HBL.out)
  have HBW := Lib.hid (below_at (Below.refl w.heap.size w) (.cells #[.int .u64 ((q % 4294967296 : Nat) : Int), .int .u64 ((q / 4294967296 : Nat) : Int)] 28))
  have HBM := Lib.hid (show blen q ≤ 64 from blen_le_of_lt hq)
  have e6 : (q : Int) / 4294967296 = ((q / 4294967296 : Nat) : Int) := by omega
  obtain ⟨lo, hlo⟩ : ∃ lo, lo = q % 4294967296 := ⟨_, rfl⟩
  obtain ⟨hi, hhi⟩ : ∃ hi, hi = q / 4294967296 := ⟨_, rfl⟩
  rw [← hlo] at e5
  rw [← hhi] at e6
  rw [← hlo, ← hhi] at HBL HTL HBW
  have HSM := Lib.hid (fun w => show Calls Tryd.prog 35 #[.int .i64 1] w (Gives 1 w) from natSmall 1 w (by omega))
  have HR := Lib.hid (show backP q x = roundP (q * 10 ^ x.toNat) (10 ^ (-x).toNat) from rfl)
  obtain ⟨R, hR⟩ : ∃ R, R = backP q x := ⟨_, rfl⟩
  rw [← hR] at HR ⊢
  clear hlo hhi hR
  go_enter Tryd.func32, Tryd.ntmps32
  go_wp2_with fail
  refine HTL.out.mono ?_
  rintro e W ⟨rfl, v, rfl, hv⟩
  have HV := Lib.hid hv
  clear hv
  go_wp2_with fail
  refine (HSM.out _).mono ?_
  rintro e W2 ⟨hb2, b, rfl, hb⟩
  have HB2 := Lib.hid (HBW.out.trans (hb2.mono HBW.out.size))
  have HV2 := Lib.hid (HV.out.below hb2)
  have HBN := Lib.hid hb
  clear hb hb2
  by_cases hx : 0 ≤ x
  · obtain ⟨m, rfl⟩ : ∃ m : Nat, x = (m : Int) := ⟨x.toNat, by omega⟩
    have HPW := Lib.hid (show Calls Tryd.prog 29 #[v, .int .i64 10, .int .i64 m] W2 (Gives (q * 10 ^ m) W2) from natPower v q 10 m W2 HV2.out (by have := HBM.out; omega) (by omega))
    have HPB := Lib.hid (blen_pow q 10 m 4 (by omega))
    have HRE := Lib.hid (show R = roundP (q * 10 ^ m) 1 by rw [HR.out, Int.toNat_natCast, show (-(m : Int)).toNat = 0 by omega, Nat.pow_zero])
    go_wp2_with fail
    refine HPW.out.mono ?_
    rintro e W3 ⟨hb3, c, rfl, hc⟩
    have HB3 := Lib.hid (HB2.out.trans (hb3.mono HB2.out.size))
    have HRW := Lib.hid (round_walk c b (q * 10 ^ m) 1 W3 hc (HBN.out.below hb3) (by omega) (by have := HPB.out; have := HBM.out; omega) (by rw [blen_one]; omega))
    clear hb3 hc
    go_wp2_with fail
    refine HRW.out.mono ?_
    rintro e W4 ⟨hb4, rfl⟩
    have HB4 := Lib.hid (HB3.out.trans (hb4.mono HB3.out.size))
    clear hb4
    go_wp2_with fail
    go_returns
    exact ⟨HB4.out, by rw [HRE.out]; rfl⟩
  · obtain ⟨m, hm⟩ : ∃ m : Nat, m = (-x).toNat := ⟨_, rfl⟩
    have em : -x = (m : Int) := by omega
    have HPW := Lib.hid (show Calls Tryd.prog 29 #[b, .int .i64 10, .int .i64 m] W2 (Gives (1 * 10 ^ m) W2) from natPower b 1 10 m W2 HBN.out (by have := blen_one; omega) (by omega))
    have HPB := Lib.hid (blen_pow 1 10 m 4 (by omega))
    have HRE := Lib.hid (show R = roundP q (1 * 10 ^ m) by rw [HR.out, show x.toNat = 0 by omega, ← hm, Nat.pow_zero, Nat.mul_one, Nat.one_mul])
    have HPP := Lib.hid (show 0 < 1 * 10 ^ m by rw [Nat.one_mul]; exact ten_pos m)
    have m1 : m ≤ 3000 := by omega
    clear hm
    go_wp2_with fail
    refine HPW.out.mono ?_
    rintro e W3 ⟨hb3, c, rfl, hc⟩
    have HB3 := Lib.hid (HB2.out.trans (hb3.mono HB2.out.size))
    have HRW := Lib.hid (round_walk v c q (1 * 10 ^ m) W3 (HV2.out.below hb3) hc HPP.out (by have := HBM.out; omega) (by have := HPB.out; have := blen_one; omega))
    clear hb3 hc
    go_wp2_with fail
    refine HRW.out.mono ?_
    rintro e W4 ⟨hb4, rfl⟩
    have HB4 := Lib.hid (HB3.out.trans (hb4.mono HB3.out.size))
    clear hb4
    go_wp2_with fail
    go_returns
    exact ⟨HB4.out, by rw [HRE.out, Nat.one_mul]; rfl⟩
/-- No more digits than four for three bits. -/
theorem digits_bd (b : Nat) : ∀ u, u < 2 ^ b → (Lib.decDigits u).length ≤ b + 1 := by
  induction b with
  | zero =>
    intro u hu
    rw [Lib.decDigits, dif_pos (by omega)]
    simp
  | succ b ih =>
    intro u hu
    rw [Lib.decDigits]
    split
    · simp
    · have := ih (u / 10) (by rw [Nat.pow_succ] at hu; omega)
      simp
      omega
theorem digits_len (q : Nat) (h : q < 18446744073709551616) : (Lib.decDigits q).length ≤ 400 := by
  have := digits_bd 64 q h
  omega
theorem dec_pos (u : Nat) : 0 < (Lib.decDigits u).length := by
  rw [Lib.decDigits]
  split <;> simp
/-- What is cut: the digits without zeros at their end, and the place of the dot. -/
def CutPost (q : Nat) (n : Int) (k : Nat) (w : World) (e : Ending) (w' : World) : Prop :=
  Below w.heap.size w w' ∧ ∃ (s : ByteArray) (z : Nat), e = .returned (.tuple #[.string s, .int .i64 (if k < (Lib.decDigits q).length then n + 1 else n)]) ∧ Lib.decDigits q = s.data.toList ++ List.replicate z 48 ∧ 0 < s.size
theorem cut_zero (s : ByteArray) (m : Nat) (h : s.size = m + 1) (hz : byt s m = 48) : s.data.toList = (s.extract 0 m).data.toList ++ [48] := by
  have h1 : s.data.toList.length = m + 1 := by rw [Array.length_toList]; exact h
  have h2 : (s.extract 0 m).data.toList = s.data.toList.take m := by
    rw [ByteArray.data_extract]
    simp
  have h3 : s.data.toList[m]? = some 48 := by
    have hlt : m < s.size := by omega
    have := byt_eq s m hlt
    rw [hz] at this
    have h4 : s.data.toList[m]? = some (s[m]'hlt) := by
      rw [List.getElem?_eq_getElem (by omega)]
      rfl
    rw [h4]
    congr 1
    exact UInt8.toNat_inj.1 (by rw [← this]; rfl)
  rw [h2]
  have h5 := List.take_append_drop m s.data.toList
  have h6 : s.data.toList.drop m = [48] := by
    rw [List.drop_eq_getElem_cons (by omega)]
    rw [List.getElem?_eq_getElem (by omega)] at h3
    rw [Option.some.inj h3, List.drop_eq_nil_of_le (by omega)]
  rw [h6] at h5
  exact h5.symm
set_option maxRecDepth 100000 in
set_option maxHeartbeats 8000000 in
theorem cutDigits (q : Nat) (n : Int) (k : Nat) (w : World) (hq : q < 18446744073709551616) (n0 : -3000 ≤ n) (n1 : n ≤ 3000) (hk : k ≤ 100) : Calls Tryd.prog 33 #[.int .u64 q, .int .i64 n, .int .i64 k] w (CutPost q n k w) := by
  have e5 := mask32 q hq
  have HBL := Lib.hid (Blk.new w 28 [.int .u64 ((q % 4294967296 : Nat) : Int), .int .u64 ((q / 4294967296 : Nat) : Int)])
  have HTL := Lib.hid (two_limbs q w.heap.size _ hq HBL.out)
  have HBW := Lib.hid (below_at (Below.refl w.heap.size w) (.cells #[.int .u64 ((q % 4294967296 : Nat) : Int), .int .u64 ((q / 4294967296 : Nat) : Int)] 28))
  have HBM := Lib.hid (show blen q ≤ 64 from blen_le_of_lt hq)
  have e6 : (q : Int) / 4294967296 = ((q / 4294967296 : Nat) : Int) := by omega
  obtain ⟨lo, hlo⟩ : ∃ lo, lo = q % 4294967296 := ⟨_, rfl⟩
  obtain ⟨hi, hhi⟩ : ∃ hi, hi = q / 4294967296 := ⟨_, rfl⟩
  rw [← hlo] at e5
  rw [← hhi] at e6
  rw [← hlo, ← hhi] at HBL HTL HBW
  have HDP := Lib.hid (dec_pos q)
  obtain ⟨D, hD⟩ : ∃ D, D = Lib.decDigits q := ⟨_, rfl⟩
  have HDD := Lib.hid hD
  clear hlo hhi hD
  go_enter Tryd.func33, Tryd.ntmps33
  go_wp2_with fail
  refine HTL.out.mono ?_
  rintro e W ⟨rfl, v, rfl, hv⟩
  have HDW := Lib.hid (digits_walk v q _ hv (by have := HBM.out; omega))
  clear hv
  go_wp2_with fail
  refine HDW.out.mono ?_
  rintro e W2 ⟨hb2, rfl⟩
  have HB2 := Lib.hid (HBW.out.trans (hb2.mono HBW.out.size))
  clear hb2
  obtain ⟨S, hS⟩ : ∃ S : ByteArray, S = ⟨(Lib.decDigits q).toArray⟩ := ⟨_, rfl⟩
  have HSL := Lib.hid (show Lib.decDigits q = S.data.toList by rw [hS])
  have HSZ := Lib.hid (show (Lib.decDigits q).length = S.size by rw [HSL.out, Array.length_toList]; rfl)
  rw [← hS]
  clear hS
  have ssz : 0 < S.size := by rw [← HSZ.out]; exact HDP.out
  have HSB := Lib.hid (show S.size ≤ 400 by
    have := digits_len q hq
    rw [HSZ.out] at this
    exact this)
  obtain ⟨n2, hn2⟩ : ∃ n2 : Int, n2 = if k < (Lib.decDigits q).length then n + 1 else n := ⟨_, rfl⟩
  have HN2 := Lib.hid hn2
  go_upto_if 19 with fail
  go_cut [1] (fun nv wx => nv = .int .i64 n2 ∧ wx = W2)
  case first =>
    by_cases hl : k < S.size
    · have q1 : (k : Int) < (S.size : Int) := by omega
      have HNE := Lib.hid (show n2 = n + 1 by rw [hn2, HSZ.out, if_pos hl])
      clear hl hn2
      go_wp2_with fail
      go_meet
      exact ⟨by rw [HNE.out], rfl⟩
    · have q1 : ¬ (k : Int) < (S.size : Int) := by omega
      have HNE := Lib.hid (show n2 = n by rw [hn2, HSZ.out, if_neg hl])
      clear hl hn2
      go_wp2_with fail
      go_meet
      exact ⟨by rw [HNE.out], rfl⟩
  case rest =>
    obtain ⟨rfl, rfl⟩ := hcut
    clear hn2
    go_wp2_with fail
    go_loopw [8] (fun sv wr => (∃ (t : ByteArray) (z : Nat), sv = .string t ∧ Lib.decDigits q = t.data.toList ++ List.replicate z 48 ∧ 0 < t.size ∧ t.size ≤ 400) ∧ wr = wc) (fun sv _ => (match sv with | .string t => t.size | _ => 0))
    case atStart => exact ⟨⟨S, 0, rfl, by rw [HSL.out]; simp, ssz, HSB.out⟩, rfl⟩
    case round =>
      obtain ⟨⟨t, z, rfl, hdz, ht0, ht4⟩, rfl⟩ := hrel
      have HDZ := Lib.hid hdz
      clear hdz
      by_cases ht1 : 1 < t.size
      · have q2 : (1 : Int) < (t.size : Int) := by omega
        obtain ⟨m, hm⟩ : ∃ m, t.size = m + 1 := ⟨t.size - 1, by omega⟩
        have q3 : (t.size : Int) - 1 = (m : Int) := by omega
        have hmt : m < t.size := by omega
        have q4 : (m : Int) < (t.size : Int) := by omega
        have hsl : ∀ w, (Instr.slice 9 (.string t) none (some (.int .i64 (m : Int))) none).run Tryd.prog w = .ok (.string (t.extract 0 m)) w := fun w => slice_to t m (by omega) w
        have HSZ2 := Lib.hid (extract_size0 t 0 m (by omega) (by omega))
        have HM := Lib.hid hm
        clear hm
        by_cases hz : byt t m = 48
        · have hz' : (t[m]'hmt).toNat = 48 := by rw [← byt_eq t m hmt]; exact hz
          have HCZ := Lib.hid (cut_zero t m HM.out hz)
          clear hz
          go_wp2_with fail
          go_roundw
          case rel =>
            refine ⟨⟨_, z + 1, rfl, ?_, by rw [HSZ2.out]; have := HM.out; omega, by rw [HSZ2.out]; omega⟩, trivial⟩
            rw [HDZ.out, HCZ.out, List.append_assoc]
            rfl
          case measure => have := HSZ2.out; have := HM.out; simp only [*]; omega
        · have hz' : ((((t[m]'hmt).toNat : Nat) : Int) == 48) = false := by rw [← byt_eq t m hmt]; simp; omega
          clear hz
          go_wp2_with fail
          go_returns
          exact ⟨HB2.out, t, z, by rw [HN2.out]; rfl, HDZ.out, ht0⟩
      · have q2 : ¬ (1 : Int) < (t.size : Int) := by omega
        clear ht1
        go_wp2_with fail
        go_returns
        exact ⟨HB2.out, t, z, by rw [HN2.out]; rfl, HDZ.out, ht0⟩
end Go.Proofs.YtifgealimgedpaaDoor.Nats
