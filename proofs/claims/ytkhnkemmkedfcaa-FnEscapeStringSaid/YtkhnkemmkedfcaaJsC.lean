/- The reference's scanner: digits of base 16 and code points behind \u. The walks. -/
import Derived.Test.YtkhnkemmkedfcaaJsB
namespace Go.Proofs.Ytkhnkemmkedfcaa.Js
open Go.RowKit Go.Proofs.Ytkhnkemmkedfcaa.Aid Go.Proofs.Ytkhnkemmkedfcaa.Runes Go.Proofs.Ytkhnkemmkedfcaa.Bytes Go.Proofs.Ytkhnkemmkedfcaa.Wtf Go.Proofs.Ytkhnkemmkedfcaa.Esc
attribute [local go_sem ↓] Go.wp_at_zero Go.wp_at_succ
set_option linter.unusedVariables false
theorem hex_none (r : Nat) (h : hexv r = none) (w : World) : Calls Try.prog 71 #[.int .i64 r] w fun e w' => e = .returned (.int .i64 (-1)) ∧ w' = w := by
  have h1 : ¬ (48 ≤ r ∧ r ≤ 57) := fun c => by rw [hexv, if_pos c] at h; cases h
  have h2 : ¬ (97 ≤ r ∧ r ≤ 102) := fun c => by rw [hexv, if_neg h1, if_pos c] at h; cases h
  have h3 : ¬ (65 ≤ r ∧ r ≤ 70) := fun c => by rw [hexv, if_neg h1, if_neg h2, if_pos c] at h; cases h
  have HD := Lib.hid (digit_walk r w false (by simp; omega))
  have HB := Lib.hid (between_is (a := 97) (n := r) (b := 102) (v := false) (by simp; omega) w)
  have HC := Lib.hid (between_is (a := 65) (n := r) (b := 70) (v := false) (by simp; omega) w)
  clear h h1 h2 h3
  go_enter Try.func71, Try.ntmps71
  go_wp2_with fail
  refine (HD.out).mono ?_
  rintro e w' ⟨rfl, rfl⟩
  go_wp2_with fail
  refine (HB.out).mono ?_
  rintro e w' ⟨rfl, rfl⟩
  go_wp2_with fail
  refine (HC.out).mono ?_
  rintro e w' ⟨rfl, rfl⟩
  go_wp2_with fail
  go_returns
  exact ⟨rfl, rfl⟩
theorem Sc.set {w : World} {g : Nat} {s : ByteArray} {at_ : Nat} {bad : Int} (h : Sc w g s at_ bad) (p : Nat) : Sc (w.setCell ⟨g, 1, none⟩ (.int .i64 p)) g s p bad := Blk.set_ h 1 _
theorem Sc.grown {w w' : World} {g : Nat} {s : ByteArray} {at_ : Nat} {bad : Int} (h : Sc w g s at_ bad) (hb : Below w.heap.size w w') : Sc w' g s at_ bad := Blk.below h hb (Blk.lt h)
/-- What the reading of digits hands back. -/
def HexPost (o : Option Nat) (d : Nat) (g : Nat) (s : ByteArray) (at_ : Nat) (bad : Int) (w : World) (e : Ending) (w' : World) : Prop :=
  w.grownBy w' (some g) ∧ match o with
  | some v => e = .returned (.tuple #[.int .i64 v, .bool true]) ∧ Sc w' g s (at_ + d) bad
  | none => e = .returned (.tuple #[.int .i64 0, .bool false]) ∧ ∃ p, p ≤ s.size ∧ Sc w' g s p bad
theorem drop_head (s : ByteArray) (p : Nat) : ((nats s).drop p).getD 0 0 = byt s p := by rw [getD_drop, Nat.add_zero]
set_option maxRecDepth 100000 in
set_option maxHeartbeats 4000000 in
theorem scanHex (g : Nat) (s : ByteArray) (at_ d : Nat) (bad : Int) (w : World) (h : Sc w g s at_ bad) (hs : s.size ≤ 140737488351232) (ha : at_ ≤ s.size) (hd : d ≤ 4) :
    Calls Try.prog 99 #[.pointer (some ⟨g, 0, none⟩), .int .i64 d] w (HexPost (hexN d ((nats s).drop at_) 0) d g s at_ bad w) := by
  obtain ⟨O, hO⟩ : ∃ O, O = hexN d ((nats s).drop at_) 0 := ⟨_, rfl⟩
  rw [← hO]
  have HO := Lib.hid hO
  have HS := Lib.hid h
  clear hO h
  go_enter Try.func99, Try.ntmps99
  go_wp2_with fail
  go_loopw [6, 7] (fun ov iv wr => ∃ i acc p : Nat, iv = .int .i64 i ∧ i ≤ d ∧ ov = .int .i64 acc ∧ acc + 1 ≤ 16 ^ i ∧ p = at_ + i ∧ p ≤ s.size ∧ O = hexN (d - i) ((nats s).drop p) acc ∧ Sc wr g s p bad ∧ w.grownBy wr (some g)) (fun _ iv _ => d - (intOf iv).toNat)
  case atStart => exact ⟨0, 0, at_, rfl, Nat.zero_le _, rfl, by simp, rfl, ha, HO.out, HS.out, World.grownBy.refl w _⟩
  case round =>
    obtain ⟨i, acc, p, rfl, hi, rfl, hacc, hp, hps, hrec, hsc, hgr⟩ := hrel
    have c0 := Blk.get hsc 0 rfl
    have c1 := Blk.get hsc 1 rfl
    have f1 := Blk.frozen hsc 1
    have HREC := Lib.hid hrec
    have HSC := Lib.hid hsc
    have HGR := Lib.hid hgr
    have HP := Lib.hid hp
    clear hrec hsc hgr hp
    by_cases hlt : i < d
    · have t0 : (i : Int) < d := by omega
      have HPW := Lib.hid (show 16 ^ (i + 1) = 16 ^ i * 16 from Nat.pow_succ 16 i)
      have hpw : acc ≤ 4095 := by
        have := Nat.pow_le_pow_right (show 0 < 16 by omega) (show i ≤ 3 by omega)
        omega
      by_cases hin : p < s.size
      · have t1 : decide (s.size ≤ p) = false := by simp; omega
        have t2 : (p : Int) < s.size := by omega
        obtain ⟨b, hb⟩ : ∃ b : Nat, b = byt s p := ⟨_, rfl⟩
        have eb : (s[p]'hin).toNat = b := by rw [hb, byt_eq s _ hin]
        have b255 := byt_lt s p
        rw [← hb] at b255
        have wb : IntKind.i64.wrap (b : Int) = b := IntWalk.i64_in _ (by omega)
        cases hv : hexv b with
        | some v =>
          have HX := Lib.hid (fun w => hex_walk b v hv w)
          have v16 := hexv_lt hv
          have HE := Lib.hid (show O = hexN (d - (i + 1)) ((nats s).drop (p + 1)) (16 * acc + v) by
            rw [HREC.out, show d - i = (d - (i + 1)) + 1 by omega, hexN, drop_head, ← hb, hv, List.drop_drop])
          have t3 : decide ((v : Int) < 0) = false := by simp
          have wa : IntKind.i64.wrap (16 * (acc : Int)) = 16 * (acc : Int) := IntWalk.i64_in _ (by omega)
          have wc : IntKind.i64.wrap (16 * (acc : Int) + (v : Int)) = 16 * (acc : Int) + (v : Int) := IntWalk.i64_in _ (by omega)
          clear hv hb
          go_wp2_with fail
          go_quiet ((go_at_call 71; exact Calls.quiet_of_same (HX.out _)))
          go_wp2_with fail
          have HSC2 := Lib.hid (Sc.drewN HSC.out nq)
          have HGR2 := Lib.hid (only_drewN HGR.out nq)
          obtain ⟨w2, hw2⟩ : ∃ w2, w2 = wr.drewN nq := ⟨_, rfl⟩
          rw [← hw2] at HSC2 HGR2 ⊢
          clear hw2 c0 c1 f1 t1 t3
          have c0 := Blk.get HSC2.out 0 rfl
          have c1 := Blk.get HSC2.out 1 rfl
          have f1 := Blk.frozen HSC2.out 1
          go_quiet ((go_at_call 71; exact Calls.quiet_of_same (HX.out _)))
          clear wa wb wc
          go_wp2_with fail
          go_roundw
          case rel => exact ⟨i + 1, 16 * acc + v, p + 1, val_int (by omega), by omega, val_int (by omega), by rw [HPW.out]; omega, by have := HP.out; omega, by omega, HE.out, Sc.set (Sc.drewN HSC2.out _) (p + 1), only_setCell (p := ⟨g, 1, none⟩) (only_drewN HGR2.out _) (.inl rfl) _⟩
          case measure => simp [intOf]; omega
        | none =>
          have HX := Lib.hid (fun w => hex_none b hv w)
          have HE := Lib.hid (show O = none by rw [HREC.out, show d - i = (d - (i + 1)) + 1 by omega, hexN, drop_head, ← hb, hv])
          clear hv hb
          go_wp2_with fail
          go_quiet ((go_at_call 71; exact Calls.quiet_of_same (HX.out _)))
          go_wp2_with fail
          go_returns
          rw [HE.out]
          exact ⟨only_drewN HGR.out _, rfl, p, hps, Sc.drewN HSC.out _⟩
      · have t1 : decide (s.size ≤ p) = true := by simp; omega
        have HE := Lib.hid (show O = none by
          rw [HREC.out, show d - i = (d - (i + 1)) + 1 by omega, hexN, drop_head, byt_out s p (by omega)]
          rfl)
        clear hin
        go_wp2_with fail
        go_quiet (fail)
        go_wp2_with fail
        go_returns
        rw [HE.out]
        exact ⟨only_drewN HGR.out _, rfl, p, hps, Sc.drewN HSC.out _⟩
    · have t0 : ¬ (i : Int) < d := by omega
      have HE := Lib.hid (show O = some acc by rw [HREC.out, show d - i = 0 by omega, hexN])
      have HSE := Lib.hid (show Sc wr g s (at_ + d) bad by have := HP.out; rw [show at_ + d = p by omega]; exact HSC.out)
      clear hlt
      go_wp2_with fail
      go_returns
      rw [HE.out]
      exact ⟨HGR.out, rfl, HSE.out⟩
end Go.Proofs.Ytkhnkemmkedfcaa.Js
