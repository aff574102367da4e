/- The reference's scanner: a number. The walk. -/
import Derived.Test.YtefippeaalkmeaaScE
namespace Go.Proofs.Ytefippeaalkmeaa.Scan
open Go.RowKit Go.Proofs.Ytefippeaalkmeaa.Aid Go.Proofs.Ytefippeaalkmeaa.Runes Go.Proofs.Ytefippeaalkmeaa.Bytes Go.Proofs.Ytefippeaalkmeaa.Nats
attribute [local go_sem ↓] Go.wp_at_zero Go.wp_at_succ
set_option linter.unusedVariables false
theorem is_two {g : Nat} {s : ByteArray} {q : Nat} {b : Int} {w : World} (h : Sc w g s q b) (hs : s.size ≤ 4096) (hq : q ≤ s.size) (c d : Nat) (hc : c < 256) (hd : d < 256) (B : Bool) (hB : decide (q + 1 < s.size ∧ byt s q = c ∧ byt s (q + 1) = d) = B) :
    Calls Try.prog 14 #[.pointer (some ⟨g, 0, none⟩), .string ⟨#[UInt8.ofNat c, UInt8.ofNat d]⟩] w fun e w' => e = .returned (.bool B) ∧ Drawn w w' := by
  have h1 := scanIs g s q b ⟨#[UInt8.ofNat c, UInt8.ofNat d]⟩ w h (by omega) hq (by show 2 ≤ 100; omega)
  rwa [isAt_pair s q ⟨#[UInt8.ofNat c, UInt8.ofNat d]⟩ c d (by simp [nats]; omega) hq, hB] at h1
/-- What is known behind the first part of a number. -/
def Half (g : Nat) (s : ByteArray) (at_ : Nat) (bad : Int) (w : World) (v : Value) (wx : World) : Prop :=
  ∃ (q : Nat) (t : ByteArray) (K : Int) (T : ByteArray) (n : Nat) (old : Bool), v = .string t ∧ Dig t ∧ t.size ≤ 4096 ∧ Moved g s at_ bad w wx q ∧ Blk wx (w.heap.size + 1) 45 (tk K T n old) ∧ Blk wx w.heap.size 45 zer
theorem tk_tk (K : Int) (T : ByteArray) (q : Nat) (old : Bool) (K' : Int) (T' : ByteArray) (q' : Nat) (old' : Bool) : (tk K T q old).length = (tk K' T' q' old').length := rfl
set_option maxRecDepth 100000 in
set_option maxHeartbeats 16000000 in
theorem scanNumber (g : Nat) (s : ByteArray) (at_ : Nat) (bad : Int) (w : World) (h : Sc w g s at_ bad) (hb0 : 0 ≤ bad) (hb2 : bad ≤ 2) (hs : s.size ≤ 4096) (ha : at_ < s.size) (hdg : Sgn (byt s at_)) :
    Calls Try.prog 22 #[.pointer (some ⟨g, 0, none⟩)] w (TokPost g s at_ bad w) := by
  have hgl := Blk.lt h
  have HS := Lib.hid h
  have HSG := Lib.hid hdg
  obtain ⟨vx, hvx⟩ : ∃ v, decide (at_ + 1 < s.size ∧ byt s at_ = 48 ∧ byt s (at_ + 1) = 120) = v := ⟨_, rfl⟩
  have HIx := Lib.hid (fun w' (h : Sc w' g s at_ bad) => show Calls Try.prog 14 #[.pointer (some ⟨g, 0, none⟩), .string ⟨#[48, 120]⟩] w' fun e w'' => e = .returned (.bool vx) ∧ Drawn w' w'' from is_two h hs (by omega) 48 120 (by omega) (by omega) vx hvx)
  have HVx := Lib.hid (show vx = true → at_ + 1 < s.size ∧ Sgn (byt s (at_ + 1)) from fun h => by
    have := of_decide_eq_true (hvx.trans h)
    exact ⟨this.1, sgn_of (by omega)⟩)
  clear hvx
  obtain ⟨vX, hvX⟩ : ∃ v, decide (at_ + 1 < s.size ∧ byt s at_ = 48 ∧ byt s (at_ + 1) = 88) = v := ⟨_, rfl⟩
  have HIX := Lib.hid (fun w' (h : Sc w' g s at_ bad) => show Calls Try.prog 14 #[.pointer (some ⟨g, 0, none⟩), .string ⟨#[48, 88]⟩] w' fun e w'' => e = .returned (.bool vX) ∧ Drawn w' w'' from is_two h hs (by omega) 48 88 (by omega) (by omega) vX hvX)
  have HVX := Lib.hid (show vX = true → at_ + 1 < s.size ∧ Sgn (byt s (at_ + 1)) from fun h => by
    have := of_decide_eq_true (hvX.trans h)
    exact ⟨this.1, sgn_of (by omega)⟩)
  clear hvX
  obtain ⟨vo, hvo⟩ : ∃ v, decide (at_ + 1 < s.size ∧ byt s at_ = 48 ∧ byt s (at_ + 1) = 111) = v := ⟨_, rfl⟩
  have HIo := Lib.hid (fun w' (h : Sc w' g s at_ bad) => show Calls Try.prog 14 #[.pointer (some ⟨g, 0, none⟩), .string ⟨#[48, 111]⟩] w' fun e w'' => e = .returned (.bool vo) ∧ Drawn w' w'' from is_two h hs (by omega) 48 111 (by omega) (by omega) vo hvo)
  have HVo := Lib.hid (show vo = true → at_ + 1 < s.size ∧ Sgn (byt s (at_ + 1)) from fun h => by
    have := of_decide_eq_true (hvo.trans h)
    exact ⟨this.1, sgn_of (by omega)⟩)
  clear hvo
  obtain ⟨vO, hvO⟩ : ∃ v, decide (at_ + 1 < s.size ∧ byt s at_ = 48 ∧ byt s (at_ + 1) = 79) = v := ⟨_, rfl⟩
  have HIO := Lib.hid (fun w' (h : Sc w' g s at_ bad) => show Calls Try.prog 14 #[.pointer (some ⟨g, 0, none⟩), .string ⟨#[48, 79]⟩] w' fun e w'' => e = .returned (.bool vO) ∧ Drawn w' w'' from is_two h hs (by omega) 48 79 (by omega) (by omega) vO hvO)
  have HVO := Lib.hid (show vO = true → at_ + 1 < s.size ∧ Sgn (byt s (at_ + 1)) from fun h => by
    have := of_decide_eq_true (hvO.trans h)
    exact ⟨this.1, sgn_of (by omega)⟩)
  clear hvO
  obtain ⟨vb, hvb⟩ : ∃ v, decide (at_ + 1 < s.size ∧ byt s at_ = 48 ∧ byt s (at_ + 1) = 98) = v := ⟨_, rfl⟩
  have HIb := Lib.hid (fun w' (h : Sc w' g s at_ bad) => show Calls Try.prog 14 #[.pointer (some ⟨g, 0, none⟩), .string ⟨#[48, 98]⟩] w' fun e w'' => e = .returned (.bool vb) ∧ Drawn w' w'' from is_two h hs (by omega) 48 98 (by omega) (by omega) vb hvb)
  have HVb := Lib.hid (show vb = true → at_ + 1 < s.size ∧ Sgn (byt s (at_ + 1)) from fun h => by
    have := of_decide_eq_true (hvb.trans h)
    exact ⟨this.1, sgn_of (by omega)⟩)
  clear hvb
  obtain ⟨vB, hvB⟩ : ∃ v, decide (at_ + 1 < s.size ∧ byt s at_ = 48 ∧ byt s (at_ + 1) = 66) = v := ⟨_, rfl⟩
  have HIB := Lib.hid (fun w' (h : Sc w' g s at_ bad) => show Calls Try.prog 14 #[.pointer (some ⟨g, 0, none⟩), .string ⟨#[48, 66]⟩] w' fun e w'' => e = .returned (.bool vB) ∧ Drawn w' w'' from is_two h hs (by omega) 48 66 (by omega) (by omega) vB hvB)
  have HVB := Lib.hid (show vB = true → at_ + 1 < s.size ∧ Sgn (byt s (at_ + 1)) from fun h => by
    have := of_decide_eq_true (hvB.trans h)
    exact ⟨this.1, sgn_of (by omega)⟩)
  clear hvB
  obtain ⟨vu, hvu⟩ : ∃ v, decide (at_ + 1 < s.size ∧ byt s at_ = 48 ∧ byt s (at_ + 1) = 95) = v := ⟨_, rfl⟩
  have HIu := Lib.hid (fun w' (h : Sc w' g s at_ bad) => show Calls Try.prog 14 #[.pointer (some ⟨g, 0, none⟩), .string ⟨#[48, 95]⟩] w' fun e w'' => e = .returned (.bool vu) ∧ Drawn w' w'' from is_two h hs (by omega) 48 95 (by omega) (by omega) vu hvu)
  clear hvu
  obtain ⟨vz, hvz⟩ : ∃ v, decide (at_ < s.size ∧ byt s at_ = 48) = v := ⟨_, rfl⟩
  have HIz := Lib.hid (fun w' (h : Sc w' g s at_ bad) => show Calls Try.prog 14 #[.pointer (some ⟨g, 0, none⟩), .string ⟨#[48]⟩] w' fun e w'' => e = .returned (.bool vz) ∧ Drawn w' w'' from is_one h hs (by omega) 48 (by omega) vz hvz)
  clear hvz h hdg
  go_enter Try.func22, Try.ntmps22
  go_upto_block 0 with fail
  obtain ⟨W0, hW0⟩ : ∃ W0, W0 = (w.alloc (.cells zer.toArray 45)).alloc (.cells (tk 6 ⟨#[]⟩ 0 false).toArray 45) := ⟨_, rfl⟩
  have HZ0 := Lib.hid (show Blk W0 w.heap.size 45 zer by rw [hW0]; exact Blk.alloc (Blk.new w 45 zer) _)
  have HT0 := Lib.hid (show Blk W0 (w.heap.size + 1) 45 (tk 6 ⟨#[]⟩ 0 false) by
    have := Blk.new (w.alloc (.cells zer.toArray 45)) 45 (tk 6 ⟨#[]⟩ 0 false)
    rw [show (w.alloc (.cells zer.toArray 45)).heap.size = w.heap.size + 1 by simp] at this
    rw [hW0]
    exact this)
  have HS0 := Lib.hid (show Sc W0 g s at_ bad by rw [hW0]; exact Blk.alloc (Blk.alloc HS.out _) _)
  have HM0 := Lib.hid (show Moved g s at_ bad w W0 at_ by
    have h := HS0.out
    rw [hW0] at h ⊢
    exact ⟨only_alloc (only_alloc (World.grownBy.refl w _) _) _, Nat.le_refl _, by omega, Seg.refl _ _, bad, h, hb0, hb2⟩)
  have e0 : ((0 : Nat) : Int) = 0 := rfl
  simp only [zer, tk, e0] at hW0
  clear e0
  rw [← hW0]
  clear hW0
  go_cut [4] (fun v wx => Half g s at_ bad w v wx)
  case first =>
    go_upto_region 6 with fail
    go_cut [29] (fun bv wx => ∃ k : Nat, bv = .bool (vx || vX) ∧ wx = W0.drewN k)
    case first =>
      go_wp2_with fail
      refine (HIx.out _ HS0.out).mono ?_
      rintro e w1 ⟨rfl, k1, rfl⟩
      cases vx with
      | true =>
        go_wp2_with fail
        go_meet
        exact ⟨_, rfl, rfl⟩
      | false =>
        go_wp2_with fail
        refine (HIX.out _ (HS0.out.drewN _)).mono ?_
        rintro e w1 ⟨rfl, k1, rfl⟩
        go_wp2_with fail
        go_meet
        exact ⟨_, rfl, rfl⟩
    case rest =>
      obtain ⟨_, rfl, hwc⟩ := hcut
      have HS1 := Lib.hid (show Sc wc g s at_ bad by rw [hwc]; exact HS0.out.drewN _)
      have HZ1 := Lib.hid (show Blk wc w.heap.size 45 zer by rw [hwc]; exact HZ0.out.drewN _)
      have HT1 := Lib.hid (show Blk wc (w.heap.size + 1) 45 (tk 6 ⟨#[]⟩ 0 false) by rw [hwc]; exact HT0.out.drewN _)
      have HM1 := Lib.hid (show Moved g s at_ bad w wc at_ by rw [hwc]; exact HM0.out.drewN _)
      clear hwc HS0 HZ0 HT0 HM0
      obtain ⟨W1, rfl⟩ : ∃ W, W = wc := ⟨_, rfl⟩
      by_cases hv : (vx || vX) = true
      · rw [hv]
        have hh : at_ + 1 < s.size ∧ Sgn (byt s (at_ + 1)) := by
          rcases Bool.or_eq_true_iff.1 hv with h | h
          · exact HVx.out h
          · exact HVX.out h
        have HBD := Lib.hid (show Calls Try.prog 30 #[.pointer (some ⟨g, 0, none⟩), .int .i64 16] W1 (TokPost g s at_ bad W1) from scanBased g s at_ bad 16 W1 HS1.out hb0 hb2 hs hh.1 HSG.out hh.2 (by omega))
        clear hv hh
        go_wp2_with fail
        refine HBD.out.mono ?_
        rintro e X5 ⟨q, K, T, n, old, rfl, hmv⟩
        have HMX := Lib.hid (HM1.out.trans hmv)
        have HZX := Lib.hid (Blk.grown HZ1.out hmv.1 (fun e => by injection e with e; omega))
        clear hmv
        go_wp2_with (with_reducible refine wpList_store_blk rfl 45 (.tmp 2) (.tmp 37) rfl w.heap.size zer (tk K T n old) 45 rfl rfl HZX.out (tk_zer _ _ _ _) (size_tk _ _ _ _) (tk_one _ _ _ _) ?_)
        intro X8 H8 G8 S8
        have HM9 := Lib.hid (HMX.out.stored G8 (Nat.le_refl _) hgl)
        clear G8
        go_wp2_with fail
        refine bodyPost_ret (results_cell_row Try.results22 _ _ w.heap.size 45 _ (0, 0) _ rfl H8 Try.underlying45 rfl size45) rfl ?_
        exact ⟨q, K, T, n, old, rfl, HM9.out⟩
      · rw [show (vx || vX) = false by simpa using hv]
        clear hv
        go_upto_region 8 with fail
        go_cut [38] (fun bv wx => ∃ k : Nat, bv = .bool (vo || vO) ∧ wx = W1.drewN k)
        case first =>
          go_wp2_with fail
          refine (HIo.out _ HS1.out).mono ?_
          rintro e w1 ⟨rfl, k1, rfl⟩
          cases vo with
          | true =>
            go_wp2_with fail
            go_meet
            exact ⟨_, rfl, rfl⟩
          | false =>
            go_wp2_with fail
            refine (HIO.out _ (HS1.out.drewN _)).mono ?_
            rintro e w1 ⟨rfl, k1, rfl⟩
            go_wp2_with fail
            go_meet
            exact ⟨_, rfl, rfl⟩
        case rest =>
          obtain ⟨_, rfl, hwc⟩ := hcut
          have HS2 := Lib.hid (show Sc wc g s at_ bad by rw [hwc]; exact HS1.out.drewN _)
          have HZ2 := Lib.hid (show Blk wc w.heap.size 45 zer by rw [hwc]; exact HZ1.out.drewN _)
          have HT2 := Lib.hid (show Blk wc (w.heap.size + 1) 45 (tk 6 ⟨#[]⟩ 0 false) by rw [hwc]; exact HT1.out.drewN _)
          have HM2 := Lib.hid (show Moved g s at_ bad w wc at_ by rw [hwc]; exact HM1.out.drewN _)
          clear hwc HS1 HZ1 HT1 HM1
          obtain ⟨W2, rfl⟩ : ∃ W, W = wc := ⟨_, rfl⟩
          by_cases hv : (vo || vO) = true
          · rw [hv]
            have hh : at_ + 1 < s.size ∧ Sgn (byt s (at_ + 1)) := by
              rcases Bool.or_eq_true_iff.1 hv with h | h
              · exact HVo.out h
              · exact HVO.out h
            have HBD := Lib.hid (show Calls Try.prog 30 #[.pointer (some ⟨g, 0, none⟩), .int .i64 8] W2 (TokPost g s at_ bad W2) from scanBased g s at_ bad 8 W2 HS2.out hb0 hb2 hs hh.1 HSG.out hh.2 (by omega))
            clear hv hh
            go_wp2_with fail
            refine HBD.out.mono ?_
            rintro e X5 ⟨q, K, T, n, old, rfl, hmv⟩
            have HMX := Lib.hid (HM2.out.trans hmv)
            have HZX := Lib.hid (Blk.grown HZ2.out hmv.1 (fun e => by injection e with e; omega))
            clear hmv
            go_wp2_with (with_reducible refine wpList_store_blk rfl 45 (.tmp 2) (.tmp 46) rfl w.heap.size zer (tk K T n old) 45 rfl rfl HZX.out (tk_zer _ _ _ _) (size_tk _ _ _ _) (tk_one _ _ _ _) ?_)
            intro X8 H8 G8 S8
            have HM9 := Lib.hid (HMX.out.stored G8 (Nat.le_refl _) hgl)
            clear G8
            go_wp2_with fail
            refine bodyPost_ret (results_cell_row Try.results22 _ _ w.heap.size 45 _ (0, 0) _ rfl H8 Try.underlying45 rfl size45) rfl ?_
            exact ⟨q, K, T, n, old, rfl, HM9.out⟩
          · rw [show (vo || vO) = false by simpa using hv]
            clear hv
            go_upto_region 10 with fail
            go_cut [47] (fun bv wx => ∃ k : Nat, bv = .bool (vb || vB) ∧ wx = W2.drewN k)
            case first =>
              go_wp2_with fail
              refine (HIb.out _ HS2.out).mono ?_
              rintro e w1 ⟨rfl, k1, rfl⟩
              cases vb with
              | true =>
                go_wp2_with fail
                go_meet
                exact ⟨_, rfl, rfl⟩
              | false =>
                go_wp2_with fail
                refine (HIB.out _ (HS2.out.drewN _)).mono ?_
                rintro e w1 ⟨rfl, k1, rfl⟩
                go_wp2_with fail
                go_meet
                exact ⟨_, rfl, rfl⟩
            case rest =>
              obtain ⟨_, rfl, hwc⟩ := hcut
              have HS3 := Lib.hid (show Sc wc g s at_ bad by rw [hwc]; exact HS2.out.drewN _)
              have HZ3 := Lib.hid (show Blk wc w.heap.size 45 zer by rw [hwc]; exact HZ2.out.drewN _)
              have HT3 := Lib.hid (show Blk wc (w.heap.size + 1) 45 (tk 6 ⟨#[]⟩ 0 false) by rw [hwc]; exact HT2.out.drewN _)
              have HM3 := Lib.hid (show Moved g s at_ bad w wc at_ by rw [hwc]; exact HM2.out.drewN _)
              clear hwc HS2 HZ2 HT2 HM2
              obtain ⟨W3, rfl⟩ : ∃ W, W = wc := ⟨_, rfl⟩
              by_cases hv : (vb || vB) = true
              · rw [hv]
                have hh : at_ + 1 < s.size ∧ Sgn (byt s (at_ + 1)) := by
                  rcases Bool.or_eq_true_iff.1 hv with h | h
                  · exact HVb.out h
                  · exact HVB.out h
                have HBD := Lib.hid (show Calls Try.prog 30 #[.pointer (some ⟨g, 0, none⟩), .int .i64 2] W3 (TokPost g s at_ bad W3) from scanBased g s at_ bad 2 W3 HS3.out hb0 hb2 hs hh.1 HSG.out hh.2 (by omega))
                clear hv hh
                go_wp2_with fail
                refine HBD.out.mono ?_
                rintro e X5 ⟨q, K, T, n, old, rfl, hmv⟩
                have HMX := Lib.hid (HM3.out.trans hmv)
                have HZX := Lib.hid (Blk.grown HZ3.out hmv.1 (fun e => by injection e with e; omega))
                clear hmv
                go_wp2_with (with_reducible refine wpList_store_blk rfl 45 (.tmp 2) (.tmp 55) rfl w.heap.size zer (tk K T n old) 45 rfl rfl HZX.out (tk_zer _ _ _ _) (size_tk _ _ _ _) (tk_one _ _ _ _) ?_)
                intro X8 H8 G8 S8
                have HM9 := Lib.hid (HMX.out.stored G8 (Nat.le_refl _) hgl)
                clear G8
                go_wp2_with fail
                refine bodyPost_ret (results_cell_row Try.results22 _ _ w.heap.size 45 _ (0, 0) _ rfl H8 Try.underlying45 rfl size45) rfl ?_
                exact ⟨q, K, T, n, old, rfl, HM9.out⟩
              · rw [show (vb || vB) = false by simpa using hv]
                clear hv
                go_wp2_with fail
                refine (HIu.out _ HS3.out).mono ?_
                rintro e w1 ⟨rfl, ku, hwc⟩
                obtain ⟨wc, rfl⟩ : ∃ W, W = w1 := ⟨_, rfl⟩
                have HS4 := Lib.hid (show Sc wc g s at_ bad by rw [hwc]; exact HS3.out.drewN _)
                have HZ4 := Lib.hid (show Blk wc w.heap.size 45 zer by rw [hwc]; exact HZ3.out.drewN _)
                have HT4 := Lib.hid (show Blk wc (w.heap.size + 1) 45 (tk 6 ⟨#[]⟩ 0 false) by rw [hwc]; exact HT3.out.drewN _)
                have HM4 := Lib.hid (show Moved g s at_ bad w wc at_ by rw [hwc]; exact HM3.out.drewN _)
                clear hwc HS3 HZ3 HT3 HM3
                obtain ⟨W4, rfl⟩ : ∃ W, W = wc := ⟨_, rfl⟩
                cases vu with
                | true =>
                  have HFA := Lib.hid (scanFail g s at_ bad 1 W4 HS4.out (by omega) (by omega) hb0 hb2)
                  go_wp2_with fail
                  refine HFA.out.mono ?_
                  rintro e X6 ⟨rfl, ⟨b3, b31, b32, hsc6⟩, hgr6⟩
                  have HMX := Lib.hid (show Moved g s at_ bad w X6 at_ from ⟨grown_trans HM4.out.1 hgr6, Nat.le_refl _, by omega, Seg.refl _ _, b3, hsc6, by omega, b32⟩)
                  have HZX := Lib.hid (Blk.grown HZ4.out hgr6 (fun e => by injection e with e; omega))
                  have HTX := Lib.hid (Blk.grown HT4.out hgr6 (fun e => by injection e with e; omega))
                  clear hsc6 hgr6
                  go_wp2_with (first
                    | (with_reducible refine wpList_load_blk rfl 45 (.tmp 3) rfl (w.heap.size + 1) rfl 45 (tk 6 ⟨#[]⟩ 0 false) _ HTX.out Try.underlying45 rfl (size_tk _ _ _ _) ?_)
                    | (with_reducible refine wpList_store_blk rfl 45 (.tmp 2) (.tmp 61) rfl w.heap.size zer (tk 6 ⟨#[]⟩ 0 false) 45 rfl rfl HZX.out (tk_zer _ _ _ _) (size_tk _ _ _ _) (tk_one _ _ _ _) ?_))
                  intro X8 H8 G8 S8
                  have HM9 := Lib.hid (HMX.out.stored G8 (Nat.le_refl _) hgl)
                  clear G8
                  go_wp2_with fail
                  refine bodyPost_ret (results_cell_row Try.results22 _ _ w.heap.size 45 _ (0, 0) _ rfl H8 Try.underlying45 rfl size45) rfl ?_
                  exact ⟨at_, 6, ⟨#[]⟩, 0, false, rfl, HM9.out⟩
                | false =>
                  go_upto_region 15 with fail
                  have c0 := Blk.get HS4.out 0 rfl
                  have c1 := Blk.get HS4.out 1 rfl
                  go_cut [62] (fun bv wx => ∃ (z : Bool) (m : Nat), bv = .bool z ∧ wx = W4.drewN m)
                  case first =>
                    cases vz with
                    | false =>
                      go_quiet ((go_at_call 14; exact Calls.quiet_of (HIz.out _ (Sc.drewN HS4.out _))))
                      go_wp2_with fail
                      go_meet
                      exact ⟨_, _, rfl, rfl⟩
                    | true =>
                      by_cases hn1 : at_ + 1 < s.size
                      · have t4 : decide ((at_ : Int) + 1 < (s.size : Int)) = true := by simp; omega
                        have t5 : ((at_ + 1 : Nat) : Int) < s.size := by omega
                        obtain ⟨c, hc⟩ : ∃ c : Nat, c = byt s (at_ + 1) := ⟨_, rfl⟩
                        have ec : (s[at_ + 1]'hn1).toNat = c := by rw [hc, byt_eq s _ hn1]
                        have c255 := byt_lt s (at_ + 1)
                        rw [← hc] at c255
                        have wb2 : IntKind.i64.wrap (c : Int) = c := IntWalk.i64_in _ (by omega)
                        have HDI := Lib.hid (digit_walk c)
                        obtain ⟨x, hx⟩ : ∃ x, x = isDig c := ⟨_, rfl⟩
                        rw [← hx] at HDI
                        clear hc hx
                        go_quiet ((first | (go_at_call 14; exact Calls.quiet_of (HIz.out _ (Sc.drewN HS4.out _))) | (go_at_call 21; exact Calls.quiet_of_same (HDI.out _))))
                        go_wp2_with fail
                        go_meet
                        exact ⟨_, _, rfl, rfl⟩
                      · have t4 : decide ((at_ : Int) + 1 < (s.size : Int)) = false := by simp; omega
                        clear hn1
                        go_quiet ((go_at_call 14; exact Calls.quiet_of (HIz.out _ (Sc.drewN HS4.out _))))
                        go_wp2_with fail
                        go_meet
                        exact ⟨_, _, rfl, rfl⟩
                  case rest =>
                    obtain ⟨z, _, rfl, hwc⟩ := hcut
                    have HS5 := Lib.hid (show Sc wc g s at_ bad by rw [hwc]; exact HS4.out.drewN _)
                    have HZ5 := Lib.hid (show Blk wc w.heap.size 45 zer by rw [hwc]; exact HZ4.out.drewN _)
                    have HT5 := Lib.hid (show Blk wc (w.heap.size + 1) 45 (tk 6 ⟨#[]⟩ 0 false) by rw [hwc]; exact HT4.out.drewN _)
                    have HM5 := Lib.hid (show Moved g s at_ bad w wc at_ by rw [hwc]; exact HM4.out.drewN _)
                    clear hwc HS4 HZ4 HT4 HM4
                    obtain ⟨W5, rfl⟩ : ∃ W, W = wc := ⟨_, rfl⟩
                    clear c0 c1
                    cases z with
                    | true =>
                      have HOL := Lib.hid (scanOld g s at_ bad W5 HS5.out hb0 hb2 hs (by omega))
                      go_wp2_with fail
                      refine HOL.out.mono ?_
                      rintro e X5 ⟨q, K, T, n, old, t, b, rfl, hd, ht, hmv⟩
                      have HMX := Lib.hid (HM5.out.trans hmv)
                      have HZX := Lib.hid (Blk.grown HZ5.out hmv.1 (fun e => by injection e with e; omega))
                      have HTX := Lib.hid (Blk.grown HT5.out hmv.1 (fun e => by injection e with e; omega))
                      have HD := Lib.hid hd
                      clear hmv hd
                      go_wp2_with (with_reducible refine wpList_store_blk rfl 45 (.tmp 3) (.tmp 95) rfl (w.heap.size + 1) (tk 6 ⟨#[]⟩ 0 false) (tk K T n old) 45 rfl rfl HTX.out (tk_tk _ _ _ _ _ _ _ _) (size_tk _ _ _ _) (tk_one _ _ _ _) ?_)
                      intro X6 H6 G6 S6
                      have HM6 := Lib.hid (HMX.out.stored G6 (show w.heap.size ≤ w.heap.size + 1 by omega) hgl)
                      have HZ6 := Lib.hid (Blk.grown HZX.out G6 (fun e => by injection e with e; omega))
                      have HT6 := Lib.hid H6
                      clear G6 H6 S6
                      cases b with
                      | true =>
                        go_upto_region 19 with fail
                        go_wp2_with (first
                          | (with_reducible refine wpList_load_blk rfl 45 (.tmp 3) rfl (w.heap.size + 1) rfl 45 (tk K T n old) _ HT6.out Try.underlying45 rfl (size_tk _ _ _ _) ?_)
                          | (with_reducible refine wpList_store_blk rfl 45 (.tmp 2) (.tmp 99) rfl w.heap.size zer (tk K T n old) 45 rfl rfl HZ6.out (tk_zer _ _ _ _) (size_tk _ _ _ _) (tk_one _ _ _ _) ?_))
                        intro X8 H8 G8 S8
                        have HM9 := Lib.hid (HM6.out.stored G8 (Nat.le_refl _) hgl)
                        clear G8
                        go_wp2_with fail
                        refine bodyPost_ret (results_cell_row Try.results22 _ _ w.heap.size 45 _ (0, 0) _ rfl H8 Try.underlying45 rfl size45) rfl ?_
                        exact ⟨q, K, T, n, old, rfl, HM9.out⟩
                      | false =>
                        go_wp2_with fail
                        go_meet
                        exact ⟨q, t, K, T, n, old, rfl, HD.out, ht, HM6.out, HT6.out, HZ6.out⟩
                    | false =>
                      have HDG := Lib.hid (show Calls Try.prog 32 #[.pointer (some ⟨g, 0, none⟩), .int .i64 10, .bool true] W5 (DigPost g s at_ bad W5) from scanDigits g s at_ bad 10 true W5 HS5.out hb0 hb2 hs (by omega) (by omega))
                      go_wp2_with fail
                      refine HDG.out.mono ?_
                      rintro e X5 ⟨q, t, rfl, hd, ht, hmv⟩
                      have HMX := Lib.hid (HM5.out.trans hmv)
                      have HZX := Lib.hid (Blk.grown HZ5.out hmv.1 (fun e => by injection e with e; omega))
                      have HTX := Lib.hid (Blk.grown HT5.out hmv.1 (fun e => by injection e with e; omega))
                      have HD := Lib.hid hd
                      have tsz : t.size ≤ 4096 := by have := hmv.2.2.1; omega
                      obtain ⟨hg5, hap, hqs, hsg5, b5, hs5, b50, b52⟩ := hmv
                      have HS5 := Lib.hid hs5
                      obtain ⟨vn, hvn⟩ : ∃ v, decide (q < s.size ∧ byt s q = 110) = v := ⟨_, rfl⟩
                      have HIN := Lib.hid (show Calls Try.prog 14 #[.pointer (some ⟨g, 0, none⟩), .string ⟨#[110]⟩] X5 fun e w'' => e = .returned (.bool vn) ∧ Drawn X5 w'' from is_one hs5 hs hqs 110 (by omega) vn hvn)
                      have HVN := Lib.hid (show vn = true → q < s.size ∧ Sgn (byt s q) from fun h => by
                        have := of_decide_eq_true (hvn.trans h)
                        exact ⟨this.1, sgn_of (by omega)⟩)
                      clear hd ht hg5 hsg5 hs5 hvn
                      go_wp2_with fail
                      refine HIN.out.mono ?_
                      rintro e X6 ⟨rfl, k6, rfl⟩
                      obtain ⟨X7, hX7⟩ : ∃ X7, X7 = X5.drewN k6 := ⟨_, rfl⟩
                      have HS7 := Lib.hid (show Sc X7 g s q b5 by rw [hX7]; exact HS5.out.drewN k6)
                      have HM7 := Lib.hid (show Moved g s at_ bad w X7 q by rw [hX7]; exact HMX.out.drewN k6)
                      have HZ7 := Lib.hid (show Blk X7 w.heap.size 45 zer by rw [hX7]; exact HZX.out.drewN k6)
                      have HT7 := Lib.hid (show Blk X7 (w.heap.size + 1) 45 (tk 6 ⟨#[]⟩ 0 false) by rw [hX7]; exact HTX.out.drewN k6)
                      rw [← hX7]
                      clear hX7 HS5 HMX HZX HTX
                      cases vn with
                      | false =>
                        go_wp2_with fail
                        go_meet
                        exact ⟨q, t, 6, ⟨#[]⟩, 0, false, rfl, HD.out, tsz, HM7.out, HT7.out, HZ7.out⟩
                      | true =>
                        obtain ⟨E, hE⟩ : ∃ E, t.toList.isEmpty = E := ⟨_, rfl⟩
                        cases E with
                        | true =>
                          go_wp2_with fail
                          go_meet
                          exact ⟨q, t, 6, ⟨#[]⟩, 0, false, rfl, HD.out, tsz, HM7.out, HT7.out, HZ7.out⟩
                        | false =>
                          obtain ⟨hlt, hsn⟩ := HVN.out rfl
                          have HST := Lib.hid (Moved.step (b := b5) (x := bad) HM7.out.1 hap HM7.out.2.2.2.1 HS7.out b50 b52 hlt hsn)
                          have HZ8 := Lib.hid (show Blk (X7.setCell ⟨g, 1, none⟩ (.int .i64 ((q + 1 : Nat) : Int))) w.heap.size 45 zer from Blk.far HZ7.out (by show w.heap.size ≠ g; omega) _)
                          have c1 := Blk.get HS7.out 1 rfl
                          have f1 := Blk.frozen HS7.out 1
                          obtain ⟨V, hV⟩ : ∃ V, V = natOf 10 (nats t) := ⟨_, rfl⟩
                          have HNA := Lib.hid (fun w => show Calls Try.prog 34 #[.string t, .int .i64 10] w (Gives V w) from by rw [hV]; exact natural_walk t 10 w (by omega) (by omega) fun i hi => HD.out.at_ i hi)
                          have HNB := Lib.hid (show blen V ≤ 20000 by have := natOf_blen 10 (by omega) (nats t); rw [nats_length] at this; rw [hV]; omega)
                          clear hV hsn
                          go_wp2_with fail
                          refine (HNA.out _).mono ?_
                          rintro e w6 ⟨hb6, a, rfl, han⟩
                          have HM8 := Lib.hid (HST.out.below hb6)
                          have HZ9 := Lib.hid (Blk.below HZ8.out hb6 (Blk.lt HZ8.out))
                          have HDW := Lib.hid (digits_walk a V w6 han (by have := HNB.out; omega))
                          clear hb6 han c1 f1
                          go_wp2_with fail
                          refine HDW.out.mono ?_
                          rintro e w7 ⟨hb7, T, rfl⟩
                          have HMX := Lib.hid (HM8.out.below hb7)
                          have HZX := Lib.hid (Blk.below HZ9.out hb7 (Blk.lt HZ9.out))
                          clear hb7
                          go_wp2_with (with_reducible refine wpList_store_blk rfl 45 (.tmp 2) (.tmp 28) rfl w.heap.size zer (tk 7 T 0 false) 45 rfl rfl HZX.out (tk_zer _ _ _ _) (size_tk _ _ _ _) (tk_one _ _ _ _) ?_)
                          intro X8 H8 G8 S8
                          have HM9 := Lib.hid (HMX.out.stored G8 (Nat.le_refl _) hgl)
                          clear G8
                          go_wp2_with fail
                          refine bodyPost_ret (results_cell_row Try.results22 _ _ w.heap.size 45 _ (0, 0) _ rfl H8 Try.underlying45 rfl size45) rfl ?_
                          exact ⟨q + 1, 7, T, 0, false, rfl, HM9.out⟩
  case rest =>
    obtain ⟨q, t, K, T, n, old, rfl, hd, htz, hmv, ht, hz⟩ := hcut
    have HD := Lib.hid hd
    have HM1 := Lib.hid hmv
    have HT1 := Lib.hid ht
    have HZ1 := Lib.hid hz
    obtain ⟨hg1, hap, hqs, hsg1, b1, hs1, b10, b12⟩ := hmv
    have HS1 := Lib.hid hs1
    clear hd ht hz hg1 hsg1 hs1 HS0 HM0 HZ0 HT0
    clear HIx HVx
    clear HIX HVX
    clear HIo HVo
    clear HIO HVO
    clear HIb HVb
    clear HIB HVB
    clear HIu HIz
    obtain ⟨W1, rfl⟩ : ∃ W, W = wc := ⟨_, rfl⟩
    obtain ⟨vd, hvd⟩ : ∃ v, decide (q < s.size ∧ byt s q = 46) = v := ⟨_, rfl⟩
    have HIS := Lib.hid (show Calls Try.prog 14 #[.pointer (some ⟨g, 0, none⟩), .string ⟨#[46]⟩] W1 fun e w'' => e = .returned (.bool vd) ∧ Drawn W1 w'' from is_one HS1.out hs hqs 46 (by omega) vd hvd)
    have HVD := Lib.hid (show vd = true → q < s.size ∧ Sgn (byt s q) from fun h => by
      have := of_decide_eq_true (hvd.trans h)
      exact ⟨this.1, sgn_of (by omega)⟩)
    clear hvd
    go_wp2_with fail
    refine HIS.out.mono ?_
    rintro e w1 ⟨rfl, k1, rfl⟩
    go_upto_if 101 with fail
    obtain ⟨W2, hW2⟩ : ∃ W2, W2 = W1.drewN k1 := ⟨_, rfl⟩
    have HS2 := Lib.hid (show Sc W2 g s q b1 by rw [hW2]; exact HS1.out.drewN k1)
    have HM2 := Lib.hid (show Moved g s at_ bad w W2 q by rw [hW2]; exact HM1.out.drewN k1)
    have HZ2 := Lib.hid (show Blk W2 w.heap.size 45 zer by rw [hW2]; exact HZ1.out.drewN k1)
    have HT2 := Lib.hid (show Blk W2 (w.heap.size + 1) 45 (tk K T n old) by rw [hW2]; exact HT1.out.drewN k1)
    rw [← hW2]
    clear hW2 HS1 HM1 HZ1 HT1
    go_cut [6] (fun pv wx => ∃ (q2 : Nat) (t2 : ByteArray), pv = .string t2 ∧ Dig t2 ∧ t2.size ≤ 4096 ∧ Moved g s at_ bad w wx q2 ∧ Blk wx w.heap.size 45 zer ∧ Blk wx (w.heap.size + 1) 45 (tk K T n old))
    case first =>
      cases vd with
      | true =>
        obtain ⟨hlt, hsn⟩ := HVD.out rfl
        have HST := Lib.hid (Moved.step (b := b1) (x := bad) HM2.out.1 hap HM2.out.2.2.2.1 HS2.out b10 b12 hlt hsn)
        have HSS := Lib.hid (Sc.set HS2.out (q + 1))
        have HZ3 := Lib.hid (show Blk (W2.setCell ⟨g, 1, none⟩ (.int .i64 ((q + 1 : Nat) : Int))) w.heap.size 45 zer from Blk.far HZ2.out (by show w.heap.size ≠ g; omega) _)
        have HT3 := Lib.hid (show Blk (W2.setCell ⟨g, 1, none⟩ (.int .i64 ((q + 1 : Nat) : Int))) (w.heap.size + 1) 45 (tk K T n old) from Blk.far HT2.out (by show w.heap.size + 1 ≠ g; omega) _)
        have c1 := Blk.get HS2.out 1 rfl
        have f1 := Blk.frozen HS2.out 1
        have HDG := Lib.hid (show Calls Try.prog 32 #[.pointer (some ⟨g, 0, none⟩), .int .i64 10, .bool true] _ (DigPost g s (q + 1) b1 _) from scanDigits g s (q + 1) b1 10 true _ HSS.out b10 b12 hs (by omega) (by omega))
        clear hsn
        go_wp2_with fail
        refine HDG.out.mono ?_
        rintro e w5 ⟨q5, t5, rfl, hd5, ht5, hmv5⟩
        have HM5 := Lib.hid (HST.out.trans hmv5)
        have HD5 := Lib.hid hd5
        have t5z : t5.size ≤ 4096 := by have := hmv5.2.2.1; omega
        have HZ5 := Lib.hid (Blk.grown HZ3.out hmv5.1 (fun e => by injection e with e; omega))
        have HT5 := Lib.hid (Blk.grown HT3.out hmv5.1 (fun e => by injection e with e; omega))
        clear hd5 ht5 hmv5
        go_wp2_with fail
        go_meet
        exact ⟨q5, t5, rfl, HD5.out, t5z, HM5.out, HZ5.out, HT5.out⟩
      | false =>
        go_wp2_with fail
        go_meet
        exact ⟨q, ⟨#[]⟩, rfl, dig_nil, by simp [ByteArray.size], HM2.out, HZ2.out, HT2.out⟩
    case rest =>
      obtain ⟨q2, t2, rfl, hd2, ht2, hmv2, hz2, htk2⟩ := hcut
      have HD2 := Lib.hid hd2
      have HZ3 := Lib.hid hz2
      have HT3 := Lib.hid htk2
      have HM3 := Lib.hid hmv2
      have HSD := Lib.hid (HD.out.append HD2.out)
      obtain ⟨hg1, hap2, hqs2, hsg1, b3, hs3, b30, b32⟩ := hmv2
      have HEX := Lib.hid (scanExp g s q2 b3 wc hs3 b30 b32 hs hqs2)
      clear hd2 hz2 htk2 hg1 hsg1 hs3 HS2 HM2 HZ2 HT2 HVD
      have tz2 : t.size + t2.size ≤ 9223372036854775807 := by omega
      go_wp2_with fail
      refine HEX.out.mono ?_
      rintro e w5 ⟨q5, x, rfl, x0, x1, hmv5⟩
      have HM5 := Lib.hid (HM3.out.trans hmv5)
      have HZ5 := Lib.hid (Blk.grown HZ3.out hmv5.1 (fun e => by injection e with e; omega))
      have HT5 := Lib.hid (Blk.grown HT3.out hmv5.1 (fun e => by injection e with e; omega))
      have HDW := Lib.hid (decimal_walk (t ++ t2) (x - (t2.size : Int)) w5 (by rw [ByteArray.size_append]; omega) HSD.out (by omega) (by omega))
      clear hmv5
      go_wp2_with fail
      refine HDW.out.mono ?_
      rintro e w6 ⟨hb6, r, is_, rfl⟩
      have HM6 := Lib.hid (HM5.out.below hb6)
      have HZ6 := Lib.hid (Blk.below HZ5.out hb6 (Blk.lt HZ5.out))
      have HT6 := Lib.hid (Blk.below HT5.out hb6 (Blk.lt HT5.out))
      clear hb6
      go_upto_if 124 with fail
      go_cut [] (fun wx => Moved g s at_ bad w wx q5 ∧ Blk wx w.heap.size 45 zer ∧ Blk wx (w.heap.size + 1) 45 (tk K T n old))
      case first =>
        cases is_ with
        | false =>
          obtain ⟨h1, h2, h3, h4, b5, h5, h6, h7⟩ := HM6.out
          have HFA := Lib.hid (scanFail g s q5 b5 2 w6 h5 (by omega) (by omega) h6 h7)
          have HMM := Lib.hid (And.intro h1 (And.intro h2 (And.intro h3 h4)))
          clear h1 h2 h3 h4 h5 h6 h7
          go_wp2_with fail
          refine HFA.out.mono ?_
          rintro e X6 ⟨rfl, ⟨b4, b41, b42, hsc6⟩, hgr6⟩
          have HS7 := Lib.hid hsc6
          have HG7 := Lib.hid (grown_trans HMM.out.1 hgr6)
          have HZ7 := Lib.hid (Blk.grown HZ6.out hgr6 (fun e => by injection e with e; omega))
          have HT7 := Lib.hid (Blk.grown HT6.out hgr6 (fun e => by injection e with e; omega))
          clear hsc6 hgr6
          go_wp2_with fail
          go_meet
          exact ⟨⟨HG7.out, HMM.out.2.1, HMM.out.2.2.1, HMM.out.2.2.2, b4, HS7.out, by omega, b42⟩, HZ7.out, HT7.out⟩
        | true =>
          go_wp2_with fail
          go_meet
          exact ⟨HM6.out, HZ6.out, HT6.out⟩
      case rest =>
        obtain ⟨hm7, hz7, ht7⟩ := hcut
        have HM7 := Lib.hid (Moved.stored (w2 := wc.setCell ⟨w.heap.size + 1, 3, none⟩ (.int .u64 (r : Int))) hm7 (only_setCell (p := ⟨w.heap.size + 1, 3, none⟩) (World.grownBy.refl wc _) (.inl rfl) _) (show w.heap.size ≤ w.heap.size + 1 by omega) hgl)
        have HZ7 := Lib.hid (Blk.far hz7 (p := ⟨w.heap.size + 1, 3, none⟩) (by show w.heap.size ≠ w.heap.size + 1; omega) (.int .u64 (r : Int)))
        have HT7 := Lib.hid (show Blk (wc.setCell ⟨w.heap.size + 1, 3, none⟩ (.int .u64 (r : Int))) (w.heap.size + 1) 45 (tk K T r old) from Blk.set_ ht7 3 _)
        have c3 := Blk.get ht7 3 rfl
        have f3 := Blk.frozen ht7 3
        clear hm7 hz7 ht7
        go_upto_region 28 with fail
        clear c3 f3
        obtain ⟨W7, hW7⟩ : ∃ W7, W7 = wc.setCell ⟨w.heap.size + 1, 3, none⟩ (.int .u64 (r : Int)) := ⟨_, rfl⟩
        rw [← hW7] at HM7 HZ7 HT7 ⊢
        clear hW7
        go_wp2_with (first
          | (with_reducible refine wpList_load_blk rfl 45 (.tmp 3) rfl (w.heap.size + 1) rfl 45 (tk K T r old) _ HT7.out Try.underlying45 rfl (size_tk _ _ _ _) ?_)
          | (with_reducible refine wpList_store_blk rfl 45 (.tmp 2) (.tmp 129) rfl w.heap.size zer (tk K T r old) 45 rfl rfl HZ7.out (tk_zer _ _ _ _) (size_tk _ _ _ _) (tk_one _ _ _ _) ?_))
        intro X8 H8 G8 S8
        have HM9 := Lib.hid (HM7.out.stored G8 (Nat.le_refl _) hgl)
        clear G8
        go_wp2_with fail
        refine bodyPost_ret (results_cell_row Try.results22 _ _ w.heap.size 45 _ (0, 0) _ rfl H8 Try.underlying45 rfl size45) rfl ?_
        exact ⟨q5, K, T, r, old, rfl, HM9.out⟩
end Go.Proofs.Ytefippeaalkmeaa.Scan
