/- The reference's scanner: code points behind \u. The walk. -/
import Derived.Test.YtkhnkemmkedfcaaJsC
namespace Go.Proofs.Ytkhnkemmkedfcaa.Js
open Go.RowKit Go.Proofs.Ytkhnkemmkedfcaa.Aid Go.Proofs.Ytkhnkemmkedfcaa.Runes Go.Proofs.Ytkhnkemmkedfcaa.Bytes Go.Proofs.Ytkhnkemmkedfcaa.Wtf Go.Proofs.Ytkhnkemmkedfcaa.Esc
attribute [local go_sem ↓] Go.wp_at_zero Go.wp_at_succ
set_option linter.unusedVariables false
def PointPost (o : Option (Nat × Nat)) (g : Nat) (s : ByteArray) (at_ : Nat) (bad : Int) (w : World) (e : Ending) (w' : World) : Prop :=
  w.grownBy w' (some g) ∧ match o with
  | some (p, m) => e = .returned (.tuple #[.int .i64 p, .bool true]) ∧ Sc w' g s (at_ + m) bad
  | none => e = .returned (.tuple #[.int .i64 0, .bool false]) ∧ ∃ p, p ≤ s.size ∧ Sc w' g s p bad
theorem drop_at (s : ByteArray) (p : Nat) (h : p < s.size) : (nats s).drop p = byt s p :: (nats s).drop (p + 1) := drop_next s p h
theorem grown_trans {a b c : World} {r : Option Nat} (h : a.grownBy b r) (k : b.grownBy c r) : a.grownBy c r :=
  ⟨k.os.trans h.os, k.tape.trans h.tape, k.output.trans h.output, Nat.le_trans h.size k.size, fun i hi hr => (k.block i (Nat.lt_of_lt_of_le hi h.size) hr).trans (h.block i hi hr)⟩
/-- Where the digits between the braces end. -/
def BraceEnd (O : Option (Nat × Nat)) (g : Nat) (s : ByteArray) (at_ : Nat) (bad : Int) (w : World) (ov dv : Value) (wx : World) : Prop :=
  ∃ out d p : Nat, ov = .int .i64 out ∧ dv = .int .i64 d ∧ out ≤ 1114112 ∧ p = at_ + 1 + d ∧ p ≤ s.size ∧ O = brace ((nats s).drop p) out d ∧ (s.size ≤ p ∨ hexv (byt s p) = none) ∧ Sc wx g s p bad ∧ w.grownBy wx (some g)
theorem brace_end {s : ByteArray} {p out d : Nat} (h : s.size ≤ p ∨ hexv (byt s p) = none) : brace ((nats s).drop p) out d = if (p < s.size ∧ byt s p = 125) ∧ 0 < d ∧ out ≤ 1114111 then some (out, d + 2) else none := by
  by_cases hp : p < s.size
  · have hn : hexv (byt s p) = none := by
      rcases h with h | h
      · omega
      · exact h
    rw [drop_at s p hp, brace, hn]
    simp [hp]
  · rw [List.drop_eq_nil_of_le (by rw [nats_length]; omega), brace, if_neg (fun c => hp c.1.1)]
set_option maxRecDepth 100000 in
set_option maxHeartbeats 4000000 in
theorem scanPoint (g : Nat) (s : ByteArray) (at_ : Nat) (bad : Int) (w : World) (h : Sc w g s at_ bad) (hs : s.size ≤ 140737488351232) (ha : at_ ≤ s.size) :
    Calls Try.prog 100 #[.pointer (some ⟨g, 0, none⟩)] w (PointPost (point ((nats s).drop at_)) g s at_ bad w) := by
  have HI := Lib.hid (scanIs g s at_ bad ⟨#[123]⟩ w h hs ha (by decide))
  have hone := isAt_one s at_ ⟨#[123]⟩ 123 rfl ha
  by_cases hb : at_ < s.size ∧ byt s at_ = 123
  · rw [hone, decide_eq_true hb] at HI
    obtain ⟨O, hO⟩ : ∃ O, O = point ((nats s).drop at_) := ⟨_, rfl⟩
    rw [← hO]
    have HO := Lib.hid (show O = brace ((nats s).drop (at_ + 1)) 0 0 by rw [hO, point, drop_head, if_pos hb.2, List.drop_drop])
    have hlt := hb.1
    have HS := Lib.hid h
    clear h hone hb hO
    go_enter Try.func100, Try.ntmps100
    go_wp2_with fail
    refine HI.out.mono ?_
    rintro e w1 ⟨rfl, nd, rfl⟩
    have HS1 := Lib.hid (Sc.drewN HS.out nd)
    have HG1 := Lib.hid (only_drewN (World.grownBy.refl w (some g)) nd)
    have c1 := Blk.get HS.out 1 rfl
    have f1 := Blk.frozen HS.out 1
    have HS2 := Lib.hid (Sc.set HS1.out (at_ + 1))
    have HG2 := Lib.hid (only_setCell (p := ⟨g, 1, none⟩) HG1.out (.inl rfl) (.int .i64 ((at_ + 1 : Nat) : Int)))
    have HCC := Lib.hid (show (((at_ + 1 : Nat) : Int)) = (at_ : Int) + 1 by omega)
    rw [HCC.out] at HG2
    go_upto_block 0 with fail
    clear c1 f1
    go_cut [4, 5] (fun ov dv wx => BraceEnd O g s at_ bad w ov dv wx)
    case first =>
      go_wp2_with fail
      go_loopw [4, 5] (fun ov dv wr => ∃ out d p : Nat, ov = .int .i64 out ∧ dv = .int .i64 d ∧ out ≤ 1114112 ∧ p = at_ + 1 + d ∧ p ≤ s.size ∧ O = brace ((nats s).drop p) out d ∧ Sc wr g s p bad ∧ w.grownBy wr (some g)) (fun _ dv _ => s.size - (intOf dv).toNat)
      case atStart => exact ⟨0, 0, at_ + 1, rfl, rfl, by omega, rfl, by omega, HO.out, by rw [← HCC.out]; exact HS2.out, HG2.out⟩
      case round =>
        obtain ⟨out, d, p, rfl, rfl, hout, hp, hps, hrec, hsc, hgr⟩ := hrel
        have c0 := Blk.get hsc 0 rfl
        have c1 := Blk.get hsc 1 rfl
        have HREC := Lib.hid hrec
        have HSC := Lib.hid hsc
        have HGR := Lib.hid hgr
        have HP := Lib.hid hp
        have hdp : d < p := by omega
        clear hrec hsc hgr hp
        by_cases hin : p < s.size
        · have t1 : decide (p < s.size) = true := by simp; omega
          have t2 : (p : Int) < s.size := by omega
          obtain ⟨b, hb⟩ : ∃ b : Nat, b = byt s p := ⟨_, rfl⟩
          have eb : (s[p]'hin).toNat = b := by rw [hb, byt_eq s _ hin]
          have b255 := byt_lt s p
          rw [← hb] at b255
          have wb : IntKind.i64.wrap (b : Int) = b := IntWalk.i64_in _ (by omega)
          cases hv : hexv b with
          | some v =>
            have HX := Lib.hid (fun w => hex_walk b v hv w)
            have v16 := hexv_lt hv
            have HE := Lib.hid (show O = brace ((nats s).drop (p + 1)) (min (16 * out + v) 1114112) (d + 1) by
              rw [HREC.out, drop_at s p hin, ← hb, brace, hv])
            have t3 : decide ((0 : Int) ≤ (v : Int)) = true := by simp
            have wa : IntKind.i64.wrap (16 * (out : Int)) = 16 * (out : Int) := IntWalk.i64_in _ (by omega)
            have wc : IntKind.i64.wrap (16 * (out : Int) + (v : Int)) = 16 * (out : Int) + (v : Int) := IntWalk.i64_in _ (by omega)
            clear hv hb
            go_wp2_with fail
            go_quiet ((go_at_call 71; exact Calls.quiet_of_same (HX.out _)))
            go_wp2_with fail
            have HSC2 := Lib.hid (Sc.drewN HSC.out nq)
            have HGR2 := Lib.hid (only_drewN HGR.out nq)
            obtain ⟨w2, hw2⟩ : ∃ w2, w2 = wr.drewN nq := ⟨_, rfl⟩
            rw [← hw2] at HSC2 HGR2 ⊢
            clear hw2 c0 c1 t1 t3
            have c0 := Blk.get HSC2.out 0 rfl
            have c1 := Blk.get HSC2.out 1 rfl
            have f1 := Blk.frozen HSC2.out 1
            go_quiet ((go_at_call 71; exact Calls.quiet_of_same (HX.out _)))
            clear wa wb wc
            go_wp2_with fail
            go_roundw
            case rel => exact ⟨min (16 * out + v) 1114112, d + 1, p + 1, val_int (by omega), val_int (by omega), by omega, by have := HP.out; omega, by omega, HE.out, Sc.set (Sc.drewN HSC2.out _) (p + 1), only_setCell (p := ⟨g, 1, none⟩) (only_drewN HGR2.out _) (.inl rfl) _⟩
            case measure => simp [intOf]; omega
          | none =>
            have HX := Lib.hid (fun w => hex_none b hv w)
            have HE := Lib.hid (show hexv (byt s p) = none by rw [← hb, hv])
            clear hv hb
            go_wp2_with fail
            go_quiet ((go_at_call 71; exact Calls.quiet_of_same (HX.out _)))
            go_wp2_with fail
            go_meet
            exact ⟨out, d, p, rfl, rfl, hout, HP.out, hps, HREC.out, .inr HE.out, Sc.drewN HSC.out _, only_drewN HGR.out _⟩
        · have t1 : decide (p < s.size) = false := by simp; omega
          have hge : s.size ≤ p := by omega
          clear hin
          go_wp2_with fail
          go_quiet (fail)
          go_wp2_with fail
          go_meet
          exact ⟨out, d, p, rfl, rfl, hout, HP.out, hps, HREC.out, .inl hge, Sc.drewN HSC.out _, only_drewN HGR.out _⟩
    case rest =>
      obtain ⟨out, d, p, rfl, rfl, hout, hp, hps, hrec, hst, hsc, hgr⟩ := hcut
      have HE := Lib.hid (show O = _ from hrec.trans (brace_end hst))
      have c1 := Blk.get hsc 1 rfl
      have f1 := Blk.frozen hsc 1
      have HSC := Lib.hid hsc
      have HGR := Lib.hid hgr
      have HP := Lib.hid hp
      clear hrec hst hsc hgr hp
      by_cases hd0 : d = 0
      · have t1 : ((d : Int) == 0) = true := by simp; omega
        have HN := Lib.hid (show O = none by rw [HE.out, if_neg (by omega)])
        clear hd0
        go_wp2_with fail
        go_returns
        rw [HN.out]
        exact ⟨HGR.out, rfl, p, hps, HSC.out⟩
      · have t1 : ((d : Int) == 0) = false := by simp; omega
        by_cases ho : 1114111 < out
        · have t2 : (1114111 : Int) < out := by omega
          have HN := Lib.hid (show O = none by rw [HE.out, if_neg (by omega)])
          clear hd0 ho
          go_wp2_with fail
          go_returns
          rw [HN.out]
          exact ⟨HGR.out, rfl, p, hps, HSC.out⟩
        · have t2 : ¬ (1114111 : Int) < out := by omega
          have HI2 := Lib.hid (scanIs g s p bad ⟨#[125]⟩ wc HSC.out hs hps (by decide))
          have hone := isAt_one s p ⟨#[125]⟩ 125 rfl hps
          by_cases hb : p < s.size ∧ byt s p = 125
          · rw [hone, decide_eq_true hb] at HI2
            have HN := Lib.hid (show O = some (out, d + 2) by rw [HE.out, if_pos ⟨hb, by omega, by omega⟩])
            have hlt2 := hb.1
            have HP2 := Lib.hid (show at_ + (d + 2) = p + 1 by have := HP.out; omega)
            clear hone hb hd0 ho
            go_wp2_with fail
            refine HI2.out.mono ?_
            rintro e w3 ⟨rfl, nd2, rfl⟩
            go_wp2_with fail
            go_returns
            rw [HN.out]
            exact ⟨only_setCell (p := ⟨g, 1, none⟩) (only_drewN HGR.out _) (.inl rfl) _, rfl, by rw [HP2.out]; exact Sc.set (Sc.drewN HSC.out _) (p + 1)⟩
          · rw [hone, decide_eq_false hb] at HI2
            have HN := Lib.hid (show O = none by rw [HE.out, if_neg (fun c => hb c.1)])
            clear hone hb hd0 ho
            go_wp2_with fail
            refine HI2.out.mono ?_
            rintro e w3 ⟨rfl, nd2, rfl⟩
            go_wp2_with fail
            go_returns
            rw [HN.out]
            exact ⟨only_drewN HGR.out _, rfl, p, hps, Sc.drewN HSC.out _⟩
  · rw [hone, decide_eq_false hb] at HI
    have hp4 : point ((nats s).drop at_) = (hexN 4 ((nats s).drop at_) 0).map fun v => (v, 4) := by
      have hne : ((nats s).drop at_).getD 0 0 ≠ 123 := by
        rw [drop_head]
        intro h
        by_cases hlt : at_ < s.size
        · exact hb ⟨hlt, h⟩
        · rw [byt_out s at_ (by omega)] at h
          cases h
      rw [point, if_neg hne]
    rw [hp4]
    have HH := Lib.hid (fun (nd : Nat) => scanHex g s at_ 4 bad (w.drewN nd) (Sc.drewN h nd) hs ha (Nat.le_refl _))
    cases hx : hexN 4 ((nats s).drop at_) 0 with
    | some v =>
      rw [hx] at HH
      clear h hone hb hp4 hx
      go_enter Try.func100, Try.ntmps100
      go_wp2_with fail
      refine HI.out.mono ?_
      rintro e w1 ⟨rfl, nd, rfl⟩
      go_wp2_with fail
      refine (HH.out nd).mono ?_
      rintro e w2 ⟨hg2, rfl, hs2⟩
      have HG2 := Lib.hid (grown_trans (only_drewN (World.grownBy.refl w (some g)) nd) hg2)
      have HS2 := Lib.hid hs2
      clear hg2 hs2
      go_wp2_with fail
      go_returns
      exact ⟨HG2.out, rfl, HS2.out⟩
    | none =>
      rw [hx] at HH
      clear h hone hb hp4 hx
      go_enter Try.func100, Try.ntmps100
      go_wp2_with fail
      refine HI.out.mono ?_
      rintro e w1 ⟨rfl, nd, rfl⟩
      go_wp2_with fail
      refine (HH.out nd).mono ?_
      rintro e w2 ⟨hg2, rfl, hs2⟩
      have HG2 := Lib.hid (grown_trans (only_drewN (World.grownBy.refl w (some g)) nd) hg2)
      have HS2 := Lib.hid hs2
      clear hg2 hs2
      go_wp2_with fail
      go_returns
      exact ⟨HG2.out, rfl, HS2.out⟩
end Go.Proofs.Ytkhnkemmkedfcaa.Js
