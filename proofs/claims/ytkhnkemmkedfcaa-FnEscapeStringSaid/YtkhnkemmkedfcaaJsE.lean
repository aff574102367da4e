/- The reference's scanner: old octal escapes. The walk. -/
import Derived.Test.YtkhnkemmkedfcaaJsD
namespace Go.Proofs.Ytkhnkemmkedfcaa.Js
open Go.RowKit Go.Proofs.Ytkhnkemmkedfcaa.Aid Go.Proofs.Ytkhnkemmkedfcaa.Runes Go.Proofs.Ytkhnkemmkedfcaa.Bytes Go.Proofs.Ytkhnkemmkedfcaa.Wtf Go.Proofs.Ytkhnkemmkedfcaa.Esc
attribute [local go_sem ↓] Go.wp_at_zero Go.wp_at_succ
set_option linter.unusedVariables false
/-- Some number, somewhere. -/
def OctPost (g : Nat) (s : ByteArray) (at_ : Nat) (bad : Int) (w : World) (e : Ending) (w' : World) : Prop :=
  ∃ v p : Nat, e = .returned (.int .i64 v) ∧ v ≤ 255 ∧ at_ ≤ p ∧ p ≤ s.size ∧ Sc w' g s p bad ∧ w.grownBy w' (some g)
set_option maxRecDepth 100000 in
set_option maxHeartbeats 4000000 in
theorem octal (g : Nat) (s : ByteArray) (at_ : Nat) (bad : Int) (w : World) (h : Sc w g s at_ bad) (hs : s.size ≤ 140737488351232) (ha : at_ ≤ s.size) :
    Calls Try.prog 101 #[.pointer (some ⟨g, 0, none⟩)] w (OctPost g s at_ bad w) := by
  have HS := Lib.hid h
  clear h
  go_enter Try.func101, Try.ntmps101
  go_wp2_with fail
  go_loopw [3, 4] (fun ov dv wr => ∃ out d p : Nat, ov = .int .i64 out ∧ dv = .int .i64 d ∧ out ≤ 255 ∧ d ≤ 3 ∧ at_ ≤ p ∧ p ≤ s.size ∧ Sc wr g s p bad ∧ w.grownBy wr (some g)) (fun _ dv _ => 3 - (intOf dv).toNat)
  case atStart => exact ⟨0, 0, at_, rfl, rfl, by omega, by omega, Nat.le_refl _, ha, HS.out, World.grownBy.refl w _⟩
  case round =>
    obtain ⟨out, d, p, rfl, rfl, hout, hd, hap, hps, hsc, hgr⟩ := hrel
    have c0 := Blk.get hsc 0 rfl
    have c1 := Blk.get hsc 1 rfl
    have HSC := Lib.hid hsc
    have HGR := Lib.hid hgr
    clear hsc hgr
    by_cases hin : p < s.size
    · have t1 : decide (p < s.size) = true := by simp; omega
      have t2 : (p : Int) < s.size := by omega
      obtain ⟨b, hb⟩ : ∃ b : Nat, b = byt s p := ⟨_, rfl⟩
      have eb : (s[p]'hin).toNat = b := by rw [hb, byt_eq s _ hin]
      have b255 := byt_lt s p
      rw [← hb] at b255
      have wb : IntKind.i64.wrap (b : Int) = b := IntWalk.i64_in _ (by omega)
      clear hb
      by_cases hr : 48 ≤ b ∧ b ≤ 55
      · have HB := Lib.hid (fun w => between_is (a := 48) (n := b) (b := 55) (v := true) (by simp [hr]) w)
        by_cases h3 : d < 3
        · have t3 : decide ((d : Int) < 3) = true := by simp; omega
          have wa : IntKind.i64.wrap (8 * (out : Int)) = 8 * (out : Int) := IntWalk.i64_in _ (by omega)
          have wu : IntKind.u8.wrap ((b : Int) - 48) = (b : Int) - 48 := IntWalk.u8_in _ (by omega)
          have wv : IntKind.i64.wrap ((b : Int) - 48) = (b : Int) - 48 := IntWalk.i64_in _ (by omega)
          have wc : IntKind.i64.wrap (8 * (out : Int) + ((b : Int) - 48)) = 8 * (out : Int) + ((b : Int) - 48) := IntWalk.i64_in _ (by omega)
          by_cases hl : 8 * out + (b - 48) < 256
          · have t4 : decide (8 * (out : Int) + ((b : Int) - 48) < 256) = true := by simp; omega
            obtain ⟨z, hz⟩ : ∃ z : Nat, z = 8 * out + (b - 48) := ⟨_, rfl⟩
            have HZ := Lib.hid (show (z : Int) = 8 * (out : Int) + ((b : Int) - 48) by omega)
            have z255 : z ≤ 255 := by omega
            clear hr hl hz
            go_wp2_with fail
            go_quiet ((go_at_call 45; exact Calls.quiet_of_same (HB.out _)))
            go_wp2_with fail
            have HSC2 := Lib.hid (Sc.drewN HSC.out nq)
            have HGR2 := Lib.hid (only_drewN HGR.out nq)
            obtain ⟨w2, hw2⟩ : ∃ w2, w2 = wr.drewN nq := ⟨_, rfl⟩
            rw [← hw2] at HSC2 HGR2 ⊢
            clear hw2 c0 c1 t1 t3 t4
            have c0 := Blk.get HSC2.out 0 rfl
            have c1 := Blk.get HSC2.out 1 rfl
            have f1 := Blk.frozen HSC2.out 1
            go_quiet (fail)
            clear wa wb wc wu wv
            go_wp2_with fail
            go_roundw
            case rel => exact ⟨z, d + 1, p + 1, val_int (by have := HZ.out; omega), val_int (by omega), z255, by omega, by omega, by omega, Sc.set (Sc.drewN HSC2.out _) (p + 1), only_setCell (p := ⟨g, 1, none⟩) (only_drewN HGR2.out _) (.inl rfl) _⟩
            case measure => simp [intOf]; omega
          · have t4 : decide (8 * (out : Int) + ((b : Int) - 48) < 256) = false := by simp; omega
            clear hr hl
            go_wp2_with fail
            go_quiet ((go_at_call 45; exact Calls.quiet_of_same (HB.out _)))
            go_wp2_with fail
            go_returns
            exact ⟨out, p, rfl, hout, hap, hps, Sc.drewN HSC.out _, only_drewN HGR.out _⟩
        · have t3 : decide ((d : Int) < 3) = false := by simp; omega
          clear hr h3
          go_wp2_with fail
          go_quiet ((go_at_call 45; exact Calls.quiet_of_same (HB.out _)))
          go_wp2_with fail
          go_returns
          exact ⟨out, p, rfl, hout, hap, hps, Sc.drewN HSC.out _, only_drewN HGR.out _⟩
      · have HB := Lib.hid (fun w => between_is (a := 48) (n := b) (b := 55) (v := false) (by simp; omega) w)
        clear hr
        go_wp2_with fail
        go_quiet ((go_at_call 45; exact Calls.quiet_of_same (HB.out _)))
        go_wp2_with fail
        go_returns
        exact ⟨out, p, rfl, hout, hap, hps, Sc.drewN HSC.out _, only_drewN HGR.out _⟩
    · have t1 : decide (p < s.size) = false := by simp; omega
      clear hin
      go_wp2_with fail
      go_quiet (fail)
      go_wp2_with fail
      go_returns
      exact ⟨out, p, rfl, hout, hap, hps, Sc.drewN HSC.out _, only_drewN HGR.out _⟩
end Go.Proofs.Ytkhnkemmkedfcaa.Js
