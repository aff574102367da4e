/- The reference's scanner: digits. The walk. -/
import Derived.Test.YtefippeaalkmeaaScA
import Derived.Deep.CutRange
import Derived.Deep.DeepCutAuto
import Derived.Deep.CutBlock
namespace Go.Proofs.Ytefippeaalkmeaa.Scan
open Go.RowKit Go.Proofs.Ytefippeaalkmeaa.Aid Go.Proofs.Ytefippeaalkmeaa.Runes Go.Proofs.Ytefippeaalkmeaa.Bytes Go.Proofs.Ytefippeaalkmeaa.Nats
attribute [local go_sem ↓] Go.wp_at_zero Go.wp_at_succ
set_option linter.unusedVariables false
def DigPost (g : Nat) (s : ByteArray) (at_ : Nat) (bad : Int) (w : World) (e : Ending) (w' : World) : Prop :=
  ∃ (q : Nat) (t : ByteArray), e = .returned (.string t) ∧ Dig t ∧ t.size ≤ q - at_ ∧ Moved g s at_ bad w w' q
theorem hexi_some {b v : Nat} (h : hexv b = some v) : hexi b = (v : Int) := by rw [hexi, h]
theorem hexi_none {b : Nat} (h : hexv b = none) : hexi b = -1 := by rw [hexi, h]
theorem dig_next {s t : ByteArray} {p v : Nat} (h : Dig t) (hp : p < s.size) (hv : hexv (byt s p) = some v) : Dig (t ++ s.extract p (p + 1)) := by
  refine h.append ?_
  intro b hb
  rw [nats_extract, cut_next s p p (Nat.le_refl _) hp, cut_self] at hb
  simp at hb
  rw [hb, hv]
  rfl
theorem dig_nil : Dig ⟨#[]⟩ := fun b hb => by simp [nats] at hb
set_option maxRecDepth 100000 in
set_option maxHeartbeats 8000000 in
theorem scanDigits (g : Nat) (s : ByteArray) (at_ : Nat) (bad : Int) (base : Nat) (sep : Bool) (w : World) (h : Sc w g s at_ bad) (hb0 : 0 ≤ bad) (hb2 : bad ≤ 2) (hs : s.size ≤ 4096) (ha : at_ ≤ s.size) (hbase : base ≤ 16) :
    Calls Try.prog 32 #[.pointer (some ⟨g, 0, none⟩), .int .i64 base, .bool sep] w (DigPost g s at_ bad w) := by
  have HS := Lib.hid h
  clear h
  go_enter Try.func32, Try.ntmps32
  go_wp2_with fail
  go_loopw [7] (fun ov wr => ∃ (p : Nat) (t : ByteArray), ov = .string t ∧ at_ ≤ p ∧ p ≤ s.size ∧ Dig t ∧ t.size ≤ p - at_ ∧ Seg s at_ p ∧ Sc wr g s p bad ∧ w.grownBy wr (some g)) (fun _ wr => s.size - place wr g)
  case atStart => exact ⟨at_, _, rfl, Nat.le_refl _, ha, dig_nil, by simp [ByteArray.size], Seg.refl _ _, HS.out, World.grownBy.refl w _⟩
  case round =>
    obtain ⟨p, t, rfl, hap, hps, hd, ht, hseg, hsc, hgr⟩ := hrel
    have c0 := Blk.get hsc 0 rfl
    have c1 := Blk.get hsc 1 rfl
    have f1 := Blk.frozen hsc 1
    have HSC := Lib.hid hsc
    have HPL := Lib.hid (place_is hsc)
    have HGR := Lib.hid hgr
    have HD := Lib.hid hd
    have HSEG := Lib.hid hseg
    have HT := Lib.hid ht
    have tsz : t.size ≤ 5000 := by omega
    clear hsc hgr hd hseg ht
    by_cases hin : p < s.size
    · have t1 : decide (p < s.size) = true := by simp; omega
      have t2 : (p : Int) < s.size := by omega
      obtain ⟨b, hb⟩ : ∃ b : Nat, b = byt s p := ⟨_, rfl⟩
      have eb : (s[p]'hin).toNat = b := by rw [hb, byt_eq s _ hin]
      have b255 := byt_lt s p
      rw [← hb] at b255
      have wb : IntKind.i64.wrap (b : Int) = b := IntWalk.i64_in _ (by omega)
      have HBB := Lib.hid hb
      clear hb
      go_wp2_with fail
      go_quiet (fail)
      go_wp2_with fail
      have HSC2 := Lib.hid (Sc.drewN HSC.out nq)
      have HGR2 := Lib.hid (only_drewN HGR.out nq)
      obtain ⟨W2, hW2⟩ : ∃ W2, W2 = wr.drewN nq := ⟨_, rfl⟩
      rw [← hW2] at HSC2 HGR2 ⊢
      clear hW2 c0 c1 f1
      have c0 := Blk.get HSC2.out 0 rfl
      have c1 := Blk.get HSC2.out 1 rfl
      have f1 := Blk.frozen HSC2.out 1
      go_quiet (fail)
      have HSC3 := Lib.hid (Sc.drewN HSC2.out nq)
      have HGR3 := Lib.hid (only_drewN HGR2.out nq)
      obtain ⟨W3, hW3⟩ : ∃ W3, W3 = W2.drewN nq := ⟨_, rfl⟩
      rw [← hW3] at HSC3 HGR3 ⊢
      clear hW3 c0 c1 f1
      have c0 := Blk.get HSC3.out 0 rfl
      have c1 := Blk.get HSC3.out 1 rfl
      have f1 := Blk.frozen HSC3.out 1
      clear t1
      by_cases h95 : b = 95
      · have t3 : ((b : Int) == 95) = true := by simp; omega
        have HSG := Lib.hid (show Seg s p (p + 1) from Seg.one (by rw [← HBB.out, h95]; unfold Sgn; omega))
        clear h95
        go_wp2_with fail
        go_cut [42] (fun bv wx => ∃ k : Nat, bv = .bool (decide (p + 1 < s.size)) ∧ wx = W3.drewN k)
        case first =>
          by_cases hn1 : p + 1 < s.size
          · have t4 : decide ((p : Int) + 1 < (s.size : Int)) = true := by simp; omega
            have HDT := Lib.hid (show decide (p + 1 < s.size) = true by simp [hn1])
            clear hn1
            go_wp2_with fail
            go_quiet (fail)
            go_wp2_with fail
            go_meet
            exact ⟨_, by rw [HDT.out], rfl⟩
          · have t4 : decide ((p : Int) + 1 < (s.size : Int)) = false := by simp; omega
            have HDT := Lib.hid (show decide (p + 1 < s.size) = false by simp [hn1])
            clear hn1
            go_wp2_with fail
            go_quiet (fail)
            go_wp2_with fail
            go_meet
            exact ⟨_, by rw [HDT.out], rfl⟩
        case rest =>
          obtain ⟨k4, rfl, hwc⟩ := hcut
          have HSC4 := Lib.hid (show Sc wc g s p bad by rw [hwc]; exact Sc.drewN HSC3.out k4)
          have HGR4 := Lib.hid (show w.grownBy wc (some g) by rw [hwc]; exact only_drewN HGR3.out k4)
          clear hwc c0 c1 f1
          obtain ⟨W4, rfl⟩ : ∃ W4, W4 = wc := ⟨_, rfl⟩
          have c0 := Blk.get HSC4.out 0 rfl
          have c1 := Blk.get HSC4.out 1 rfl
          have f1 := Blk.frozen HSC4.out 1
          go_upto_if 42 with fail
          go_cut [9] (fun nv wx => ∃ (x : Int) (k : Nat), nv = .int .i64 x ∧ wx = W4.drewN k)
          case first =>
            by_cases hn1 : p + 1 < s.size
            · have t4 : decide (p + 1 < s.size) = true := by simp; omega
              have t5 : ((p + 1 : Nat) : Int) < s.size := by omega
              obtain ⟨c, hc⟩ : ∃ c : Nat, c = byt s (p + 1) := ⟨_, rfl⟩
              have ec : (s[p + 1]'hn1).toNat = c := by rw [hc, byt_eq s _ hn1]
              have c255 := byt_lt s (p + 1)
              rw [← hc] at c255
              have wb2 : IntKind.i64.wrap (c : Int) = c := IntWalk.i64_in _ (by omega)
              have HX := Lib.hid (fun w => hex_walk c w (by omega))
              obtain ⟨x, hx⟩ : ∃ x, x = hexi c := ⟨_, rfl⟩
              rw [← hx] at HX
              clear hc hx
              go_wp2_with fail
              go_quiet ((go_at_call 47; exact Calls.quiet_of_same (HX.out _)))
              go_wp2_with fail
              go_meet
              exact ⟨_, _, rfl, rfl⟩
            · have t4 : decide (p + 1 < s.size) = false := by simp; omega
              go_wp2_with fail
              go_meet
              exact ⟨-1, 0, rfl, rfl⟩
          case rest =>
            obtain ⟨x, k, rfl, hwc⟩ := hcut
            have HSC5 := Lib.hid (show Sc wc g s p bad by rw [hwc]; exact Sc.drewN HSC4.out k)
            have HGR5 := Lib.hid (show w.grownBy wc (some g) by rw [hwc]; exact only_drewN HGR4.out k)
            clear hwc c0 c1 f1
            obtain ⟨W5, rfl⟩ : ∃ W5, W5 = wc := ⟨_, rfl⟩
            have c0 := Blk.get HSC5.out 0 rfl
            have c1 := Blk.get HSC5.out 1 rfl
            have f1 := Blk.frozen HSC5.out 1
            go_upto_region 8 with fail
            go_cut [69] (fun bv wx => ∃ b, bv = .bool b ∧ wx = W5)
            case first =>
              cases sep
              all_goals
                go_wp2_with fail
                all_goals
                  go_meet
                  exact ⟨_, rfl, rfl⟩
            case rest =>
              obtain ⟨b2, rfl, rfl⟩ := hcut
              cases b2 with
              | true =>
                have HFA := Lib.hid (scanFail g s p bad 1 wc HSC5.out (by omega) (by omega) hb0 hb2)
                go_wp2_with fail
                refine HFA.out.mono ?_
                rintro e W6 ⟨rfl, ⟨b3, b31, b32, hsc6⟩, hgr6⟩
                have HSC6 := Lib.hid hsc6
                have HGR6 := Lib.hid (grown_trans HGR5.out hgr6)
                clear hsc6 hgr6
                go_wp2_with fail
                go_returns
                exact ⟨p, t, rfl, HD.out, HT.out, HGR6.out, hap, hps, HSEG.out, b3, HSC6.out, by omega, b32⟩
              | false =>
                have HSC6 := Lib.hid (Sc.set HSC5.out (p + 1))
                have HGR6 := Lib.hid (only_setCell (p := ⟨g, 1, none⟩) HGR5.out (.inl rfl) (.int .i64 ((p + 1 : Nat) : Int)))
                go_wp2_with fail
                have h1 := place_is HSC6.out
                rw [Int.natCast_succ] at h1
                refine ⟨⟨p + 1, t, rfl, by omega, by omega, HD.out, by have := HT.out; omega, HSEG.out.trans HSG.out, HSC6.out, HGR6.out⟩, ?_⟩
                rw [HPL.out, show place _ g = p + 1 from h1]
                omega
      · have t3 : ((b : Int) == 95) = false := by simp; omega
        cases hv : hexv b with
        | none =>
          have HX := Lib.hid (fun w => hex_walk b w (by omega))
          rw [hexi_none hv] at HX
          clear hv h95
          go_wp2_with fail
          refine (HX.out W3).mono ?_
          rintro e W3 ⟨rfl, rfl⟩
          go_wp2_with fail
          go_returns
          exact ⟨p, t, rfl, HD.out, HT.out, HGR3.out, hap, hps, HSEG.out, bad, HSC3.out, hb0, hb2⟩
        | some v =>
          have HX := Lib.hid (fun w => hex_walk b w (by omega))
          rw [hexi_some hv] at HX
          have HSG := Lib.hid (show Seg s p (p + 1) from Seg.one (by rw [← HBB.out]; exact sgn_hex hv))
          have HDN := Lib.hid (dig_next HD.out hin (by rw [← HBB.out]; exact hv))
          have hv16 := hexv_lt hv
          clear hv h95
          go_wp2_with fail
          refine (HX.out W3).mono ?_
          rintro e W3 ⟨rfl, rfl⟩
          go_wp2_with fail
          refine (HX.out W3).mono ?_
          rintro e W3 ⟨rfl, rfl⟩
          by_cases hvb : v < base
          · have t6 : ¬ (base : Int) ≤ (v : Int) := by omega
            have hsl : ∀ w, (Instr.slice 9 (.string s) (some (.int .i64 (p : Int))) (some (.int .i64 ((p : Int) + 1))) none).run Try.prog w = .ok (.string (s.extract p (p + 1))) w := by
              intro w
              have := slice_mid s p (p + 1) (by omega) (by omega) w
              rwa [Int.natCast_add] at this
            have HXZ := Lib.hid (extract_size0 s p (p + 1) (by omega) (by omega))
            obtain ⟨X, hX⟩ : ∃ X, X = s.extract p (p + 1) := ⟨_, rfl⟩
            rw [← hX] at hsl HXZ HDN
            have xsz : t.size + X.size ≤ 9223372036854775807 := by have := HXZ.out; omega
            clear hX hvb
            go_wp2_with fail
            go_quiet (fail)
            have HSC4 := Lib.hid (Sc.drewN HSC3.out nq)
            have HGR4 := Lib.hid (only_drewN HGR3.out nq)
            obtain ⟨W4, hW4⟩ : ∃ W4, W4 = W3.drewN nq := ⟨_, rfl⟩
            rw [← hW4] at HSC4 HGR4 ⊢
            clear hW4 c0 c1 f1
            have c0 := Blk.get HSC4.out 0 rfl
            have c1 := Blk.get HSC4.out 1 rfl
            have f1 := Blk.frozen HSC4.out 1
            have HSC5 := Lib.hid (Sc.set HSC4.out (p + 1))
            have HGR5 := Lib.hid (only_setCell (p := ⟨g, 1, none⟩) HGR4.out (.inl rfl) (.int .i64 ((p + 1 : Nat) : Int)))
            go_wp2_with fail
            go_roundw
            case rel => exact ⟨p + 1, t ++ X, rfl, by omega, by omega, HDN.out, by rw [ByteArray.size_append, HXZ.out]; have := HT.out; omega, HSEG.out.trans HSG.out, HSC5.out, HGR5.out⟩
            case measure =>
              have h1 := place_is HSC5.out
              rw [Int.natCast_succ] at h1
              show s.size - place _ g < s.size - place wr g
              rw [HPL.out, show place _ g = p + 1 from h1]
              omega
          · have t6 : (base : Int) ≤ (v : Int) := by omega
            clear hvb
            go_wp2_with fail
            go_returns
            exact ⟨p, t, rfl, HD.out, HT.out, HGR3.out, hap, hps, HSEG.out, bad, HSC3.out, hb0, hb2⟩
    · have t1 : decide (p < s.size) = false := by simp; omega
      clear hin
      go_wp2_with fail
      go_quiet (fail)
      go_wp2_with fail
      go_returns
      exact ⟨p, t, rfl, HD.out, HT.out, only_drewN HGR.out _, hap, hps, HSEG.out, bad, Sc.drewN HSC.out _, hb0, hb2⟩
end Go.Proofs.Ytefippeaalkmeaa.Scan
