/- The reference's scanner: an exponent. The walk. -/
import Derived.Test.YtefippeaalkmeaaScB
namespace Go.Proofs.Ytefippeaalkmeaa.Scan
open Go.RowKit Go.Proofs.Ytefippeaalkmeaa.Aid Go.Proofs.Ytefippeaalkmeaa.Runes Go.Proofs.Ytefippeaalkmeaa.Bytes Go.Proofs.Ytefippeaalkmeaa.Nats
attribute [local go_sem ↓] Go.wp_at_zero Go.wp_at_succ
set_option linter.unusedVariables false
theorem Moved.drewN {g : Nat} {s : ByteArray} {at_ : Nat} {bad : Int} {w w' : World} {q : Nat} (h : Moved g s at_ bad w w' q) (k : Nat) : Moved g s at_ bad w (w'.drewN k) q := by
  obtain ⟨h1, h2, h3, h4, b, h5, h6⟩ := h
  exact ⟨only_drewN h1 k, h2, h3, h4, b, Sc.drewN h5 k, h6⟩
theorem Moved.refl {g : Nat} {s : ByteArray} {at_ : Nat} {bad : Int} {w : World} (h : Sc w g s at_ bad) (ha : at_ ≤ s.size) (h0 : 0 ≤ bad) (h2 : bad ≤ 2) : Moved g s at_ bad w w at_ :=
  ⟨World.grownBy.refl w _, Nat.le_refl _, ha, Seg.refl _ _, bad, h, h0, h2⟩
theorem Moved.trans {g : Nat} {s : ByteArray} {a b c : Nat} {x y : Int} {w w1 w2 : World} (h : Moved g s a x w w1 b) (k : Moved g s b y w1 w2 c) : Moved g s a x w w2 c :=
  ⟨grown_trans h.1 k.1, Nat.le_trans h.2.1 k.2.1, k.2.2.1, h.2.2.2.1.trans k.2.2.2.1, k.2.2.2.2⟩
theorem Moved.below {g : Nat} {s : ByteArray} {a b : Nat} {x : Int} {w w1 w2 : World} (h : Moved g s a x w w1 b) (k : Below w1.heap.size w1 w2) : Moved g s a x w w2 b := by
  obtain ⟨h1, h2, h3, h4, c, h5, h6⟩ := h
  exact ⟨grown_trans h1 (only_of_below k _), h2, h3, h4, c, Sc.grown h5 k, h6⟩
theorem sgn_of {b : Nat} (h : b = 101 ∨ b = 69 ∨ b = 45 ∨ b = 43 ∨ b = 46 ∨ b = 110 ∨ b = 48 ∨ b = 120 ∨ b = 88 ∨ b = 111 ∨ b = 79 ∨ b = 98 ∨ b = 66) : Sgn b := by unfold Sgn; omega
/-- A step over one sign. -/
theorem Moved.step {g : Nat} {s : ByteArray} {a q : Nat} {x b : Int} {w w1 : World} (h : w.grownBy w1 (some g)) (ha : a ≤ q) (hs : Seg s a q) (hc : Sc w1 g s q b) (h0 : 0 ≤ b) (h2 : b ≤ 2) (hq : q < s.size) (hb : Sgn (byt s q)) :
    Moved g s a x w (w1.setCell ⟨g, 1, none⟩ (.int .i64 ((q + 1 : Nat) : Int))) (q + 1) :=
  ⟨only_setCell (p := ⟨g, 1, none⟩) h (.inl rfl) _, by omega, by omega, hs.trans (Seg.one hb), b, Sc.set hc (q + 1), h0, h2⟩
theorem is_one {g : Nat} {s : ByteArray} {q : Nat} {b : Int} {w : World} (h : Sc w g s q b) (hs : s.size ≤ 4096) (hq : q ≤ s.size) (c : Nat) (hc : c < 256) (B : Bool) (hB : decide (q < s.size ∧ byt s q = c) = B) :
    Calls Try.prog 14 #[.pointer (some ⟨g, 0, none⟩), .string ⟨#[UInt8.ofNat c]⟩] w fun e w' => e = .returned (.bool B) ∧ Drawn w w' := by
  have h1 := scanIs g s q b ⟨#[UInt8.ofNat c]⟩ w h (by omega) hq (by show 1 ≤ 100; omega)
  rwa [isAt_one s q ⟨#[UInt8.ofNat c]⟩ c (by simp [nats]; omega) hq, hB] at h1
def ExpPost (g : Nat) (s : ByteArray) (at_ : Nat) (bad : Int) (w : World) (e : Ending) (w' : World) : Prop :=
  ∃ (q : Nat) (x : Int), e = .returned (.int .i64 x) ∧ -99999 ≤ x ∧ x ≤ 99999 ∧ Moved g s at_ bad w w' q
set_option maxRecDepth 100000 in
set_option maxHeartbeats 8000000 in
theorem scanExp (g : Nat) (s : ByteArray) (at_ : Nat) (bad : Int) (w : World) (h : Sc w g s at_ bad) (hb0 : 0 ≤ bad) (hb2 : bad ≤ 2) (hs : s.size ≤ 4096) (ha : at_ ≤ s.size) :
    Calls Try.prog 36 #[.pointer (some ⟨g, 0, none⟩)] w (ExpPost g s at_ bad w) := by
  have HS := Lib.hid h
  have HM0 := Lib.hid (Moved.refl h ha hb0 hb2)
  obtain ⟨B, hB⟩ : ∃ B, decide (at_ < s.size ∧ byt s at_ = 101) = B := ⟨_, rfl⟩
  obtain ⟨C, hC⟩ : ∃ C, decide (at_ < s.size ∧ byt s at_ = 69) = C := ⟨_, rfl⟩
  have HIB := Lib.hid (fun w' (h : Sc w' g s at_ bad) => show Calls Try.prog 14 #[.pointer (some ⟨g, 0, none⟩), .string ⟨#[101]⟩] w' fun e w'' => e = .returned (.bool B) ∧ Drawn w' w'' from is_one h hs ha 101 (by omega) B hB)
  have HIC := Lib.hid (fun w' (h : Sc w' g s at_ bad) => show Calls Try.prog 14 #[.pointer (some ⟨g, 0, none⟩), .string ⟨#[69]⟩] w' fun e w'' => e = .returned (.bool C) ∧ Drawn w' w'' from is_one h hs ha 69 (by omega) C hC)
  have HBC := Lib.hid (show (B = true ∨ C = true) → at_ < s.size ∧ Sgn (byt s at_) by
    rw [← hB, ← hC]
    rintro (h | h)
    · have := of_decide_eq_true h
      exact ⟨this.1, sgn_of (by omega)⟩
    · have := of_decide_eq_true h
      exact ⟨this.1, sgn_of (by omega)⟩)
  clear h hB hC
  go_enter Try.func36, Try.ntmps36
  go_upto_region 1 with fail
  go_cut [14] (fun bv wx => bv = .bool (!B && !C) ∧ ∃ k, wx = w.drewN k)
  case first =>
    go_wp2_with fail
    refine (HIB.out _ HS.out).mono ?_
    rintro e w1 ⟨rfl, k1, rfl⟩
    cases B with
    | true =>
      go_wp2_with fail
      go_meet
      exact ⟨rfl, _, rfl⟩
    | false =>
      go_wp2_with fail
      refine (HIC.out _ (Sc.drewN HS.out _)).mono ?_
      rintro e w1 ⟨rfl, k1, rfl⟩
      go_wp2_with fail
      go_meet
      exact ⟨rfl, _, rfl⟩
  case rest =>
    obtain ⟨rfl, k, hwc⟩ := hcut
    have HM1 := Lib.hid (show Moved g s at_ bad w wc at_ by rw [hwc]; exact HM0.out.drewN k)
    have HS1 := Lib.hid (show Sc wc g s at_ bad by rw [hwc]; exact HS.out.drewN k)
    obtain ⟨W1, rfl⟩ : ∃ W1, W1 = wc := ⟨_, rfl⟩
    clear hwc
    by_cases hbc : B = true ∨ C = true
    · obtain ⟨hlt, hsg⟩ := HBC.out hbc
      have HST := Lib.hid (Moved.step (b := bad) (x := bad) HM1.out.1 (Nat.le_refl _) (Seg.refl s at_) HS1.out hb0 hb2 hlt hsg)
      have c1 := Blk.get HS1.out 1 rfl
      have f1 := Blk.frozen HS1.out 1
      have hbc2 : (!B && !C) = false := by
        rcases hbc with rfl | rfl <;> simp
      rw [hbc2]
      clear hbc hbc2 hsg
      obtain ⟨p, hp⟩ : ∃ p, p = at_ + 1 := ⟨_, rfl⟩
      have hps : p ≤ s.size := by omega
      have ep : ((p : Nat) : Int) = (at_ : Int) + 1 := by omega
      have HPA := Lib.hid hp
      obtain ⟨m, hm⟩ : ∃ m, decide (p < s.size ∧ byt s p = 45) = m := ⟨_, rfl⟩
      obtain ⟨l, hl⟩ : ∃ l, decide (p < s.size ∧ byt s p = 43) = l := ⟨_, rfl⟩
      have HIM := Lib.hid (fun w' (h : Sc w' g s p bad) => show Calls Try.prog 14 #[.pointer (some ⟨g, 0, none⟩), .string ⟨#[45]⟩] w' fun e w'' => e = .returned (.bool m) ∧ Drawn w' w'' from is_one h hs hps 45 (by omega) m hm)
      have HIP := Lib.hid (fun w' (h : Sc w' g s p bad) => show Calls Try.prog 14 #[.pointer (some ⟨g, 0, none⟩), .string ⟨#[43]⟩] w' fun e w'' => e = .returned (.bool l) ∧ Drawn w' w'' from is_one h hs hps 43 (by omega) l hl)
      have HML := Lib.hid (show (m = true ∨ l = true) → p < s.size ∧ Sgn (byt s p) by
        rw [← hm, ← hl]
        rintro (h | h)
        · have := of_decide_eq_true h
          exact ⟨this.1, sgn_of (by omega)⟩
        · have := of_decide_eq_true h
          exact ⟨this.1, sgn_of (by omega)⟩)
      rw [← hp] at HST
      have HS2 := Lib.hid (show Sc (W1.setCell ⟨g, 1, none⟩ (.int .i64 ((at_ : Int) + 1))) g s p bad by rw [← ep]; exact Sc.set HS1.out p)
      have HM2 := Lib.hid (show Moved g s at_ bad w (W1.setCell ⟨g, 1, none⟩ (.int .i64 ((at_ : Int) + 1))) p by rw [← ep]; exact HST.out)
      clear hp hm hl ep HST
      go_upto_region 4 with fail
      obtain ⟨W2, hW2⟩ : ∃ W2, W2 = W1.setCell ⟨g, 1, none⟩ (.int .i64 ((at_ : Int) + 1)) := ⟨_, rfl⟩
      rw [← hW2] at HS2 HM2 ⊢
      clear hW2 c1 f1
      go_wp2_with fail
      refine (HIM.out _ HS2.out).mono ?_
      rintro e w3 ⟨rfl, k3, rfl⟩
      go_upto_region 5 with fail
      go_cut [28] (fun bv wx => bv = .bool (m || l) ∧ ∃ k, wx = W2.drewN k)
      case first =>
        cases m with
        | true =>
          go_wp2_with fail
          go_meet
          exact ⟨rfl, _, rfl⟩
        | false =>
          go_wp2_with fail
          refine (HIP.out _ (Sc.drewN HS2.out _)).mono ?_
          rintro e w1 ⟨rfl, k1, rfl⟩
          go_wp2_with fail
          go_meet
          exact ⟨rfl, _, rfl⟩
      case rest =>
        obtain ⟨rfl, k, hwc⟩ := hcut
        have HM3 := Lib.hid (show Moved g s at_ bad w wc p by rw [hwc]; exact HM2.out.drewN k)
        have HS3 := Lib.hid (show Sc wc g s p bad by rw [hwc]; exact HS2.out.drewN k)
        obtain ⟨W3, rfl⟩ : ∃ W3, W3 = wc := ⟨_, rfl⟩
        clear hwc
        go_upto_if 28 with fail
        go_cut [] (fun wx => ∃ q, Moved g s at_ bad w wx q ∧ Sc wx g s q bad)
        case first =>
          by_cases hml : m = true ∨ l = true
          · obtain ⟨hlt2, hsg2⟩ := HML.out hml
            have HST := Lib.hid (Moved.step (b := bad) (x := bad) HM3.out.1 HM3.out.2.1 HM3.out.2.2.2.1 HS3.out hb0 hb2 hlt2 hsg2)
            have HSS := Lib.hid (Sc.set HS3.out (p + 1))
            have c1 := Blk.get HS3.out 1 rfl
            have f1 := Blk.frozen HS3.out 1
            have hml2 : (m || l) = true := by
              rcases hml with rfl | rfl <;> simp
            rw [hml2]
            clear hml hml2 hsg2
            go_wp2_with fail
            go_meet
            exact ⟨p + 1, HST.out, HSS.out⟩
          · have hm0 : m = false := by simpa using fun h => hml (.inl h)
            have hl0 : l = false := by simpa using fun h => hml (.inr h)
            subst hm0 hl0
            clear hml
            go_wp2_with fail
            go_meet
            exact ⟨p, HM3.out, HS3.out⟩
        case rest =>
          obtain ⟨q, hmv, hsc⟩ := hcut
          have HM4 := Lib.hid hmv
          have HDG := Lib.hid (show Calls Try.prog 32 #[.pointer (some ⟨g, 0, none⟩), .int .i64 10, .bool true] wc (DigPost g s q bad wc) from scanDigits g s q bad 10 true wc hsc hb0 hb2 hs hmv.2.2.1 (by omega))
          clear hmv hsc
          go_wp2_with fail
          refine HDG.out.mono ?_
          rintro e w5 ⟨q5, t, rfl, hd, ht, hmv5⟩
          have HM5 := Lib.hid (HM4.out.trans hmv5)
          have HTS := Lib.hid ht
          have tsz : t.size ≤ 5000 := by have := hmv5.2.2.1; omega
          clear hd ht hmv5
          go_upto_if 39 with fail
          obtain ⟨E, hE⟩ : ∃ E, E = t.toList.isEmpty := ⟨_, rfl⟩
          rw [← hE]
          clear hE
          go_cut [] (fun wx => Moved g s at_ bad w wx q5)
          case first =>
            cases E with
            | true =>
              obtain ⟨h1, h2, h3, h4, b5, h5, h6, h7⟩ := HM5.out
              have HFA := Lib.hid (scanFail g s q5 b5 1 w5 h5 (by omega) (by omega) h6 h7)
              have HM6 := Lib.hid (And.intro h1 (And.intro h2 (And.intro h3 h4)))
              clear h1 h2 h3 h4 h5 h6 h7
              go_wp2_with fail
              refine HFA.out.mono ?_
              rintro e W6 ⟨rfl, ⟨b3, b31, b32, hsc6⟩, hgr6⟩
              have HS6 := Lib.hid hsc6
              have HG6 := Lib.hid (grown_trans HM6.out.1 hgr6)
              clear hsc6 hgr6
              go_wp2_with fail
              go_meet
              exact ⟨HG6.out, HM6.out.2.1, HM6.out.2.2.1, HM6.out.2.2.2, b3, HS6.out, by omega, b32⟩
            | false =>
              go_wp2_with fail
              go_meet
              exact HM5.out
          case rest =>
            have HM6 := Lib.hid hcut
            clear hcut
            go_wp2_with fail
            go_loopw [5, 6] (fun ov iv wr => ∃ (x i : Nat), ov = .int .i64 x ∧ x ≤ 99999 ∧ iv = .int .i64 i ∧ i ≤ t.size ∧ wr = wc) (fun _ iv _ => t.size - (intOf iv).toNat)
            case atStart => exact ⟨0, 0, rfl, by omega, rfl, by omega, rfl⟩
            case round =>
              obtain ⟨x, i, rfl, hx, rfl, hi, rfl⟩ := hrel
              by_cases hlt : i < t.size
              · have q1 : (i : Int) < (t.size : Int) := by omega
                obtain ⟨c, hc⟩ : ∃ c : Nat, c = byt t i := ⟨_, rfl⟩
                have ec : (t[i]'hlt).toNat = c := by rw [hc, byt_eq t _ hlt]
                obtain ⟨y, hy⟩ : ∃ y : Nat, IntKind.u8.wrap ((c : Int) - 48) = (y : Int) ∧ y < 256 := ⟨(IntKind.u8.wrap ((c : Int) - 48)).toNat, by rw [IntKind.wrap_u8]; omega⟩
                have e1 := hy.1
                have y2 := hy.2
                have HLT := Lib.hid hlt
                clear hc hy
                by_cases hmx : 10 * x + y ≤ 99999
                · have t1 : 10 * (x : Int) + (y : Int) ≤ 99999 := by omega
                  have t2 : ¬ (99999 : Int) < 10 * (x : Int) + (y : Int) := by omega
                  clear hmx
                  go_wp2_with fail
                  go_roundw
                  case rel => exact ⟨10 * x + y, i + 1, val_int (by omega), by omega, val_int (by omega), HLT.out, trivial⟩
                  case measure => have := HLT.out; simp [intOf]; omega
                · have t1 : ¬ 10 * (x : Int) + (y : Int) ≤ 99999 := by omega
                  have t2 : (99999 : Int) < 10 * (x : Int) + (y : Int) := by omega
                  clear hmx
                  go_wp2_with fail
                  go_roundw
                  case rel => exact ⟨99999, i + 1, val_int (by omega), by omega, val_int (by omega), HLT.out, trivial⟩
                  case measure => have := HLT.out; simp [intOf]; omega
              · have q1 : ¬ (i : Int) < (t.size : Int) := by omega
                clear hlt
                cases m with
                | true =>
                  go_wp2_with fail
                  go_returns
                  exact ⟨q5, -(x : Int), rfl, by omega, by omega, HM6.out⟩
                | false =>
                  go_wp2_with fail
                  go_returns
                  exact ⟨q5, (x : Int), rfl, by omega, by omega, HM6.out⟩
    · have hB0 : B = false := by simpa using fun h => hbc (.inl h)
      have hC0 : C = false := by simpa using fun h => hbc (.inr h)
      subst hB0 hC0
      clear hbc
      go_wp2_with fail
      go_returns
      exact ⟨at_, 0, rfl, by omega, by omega, HM1.out⟩
end Go.Proofs.Ytefippeaalkmeaa.Scan
