/- The reference's scanner: a token at a digit. The walk. -/
import Derived.Test.YtefippeaalkmeaaScF
import Derived.Test.YtefippeaalkmeaaScG
import Derived.Test.YtefippeaalkmeaaScH
namespace Go.Proofs.Ytefippeaalkmeaa.Scan
open Go.RowKit Go.Proofs.Ytefippeaalkmeaa.Aid Go.Proofs.Ytefippeaalkmeaa.Runes Go.Proofs.Ytefippeaalkmeaa.Bytes Go.Proofs.Ytefippeaalkmeaa.Nats
attribute [local go_sem ↓] Go.wp_at_zero Go.wp_at_succ
set_option linter.unusedVariables false
set_option maxRecDepth 100000 in
set_option maxHeartbeats 16000000 in
theorem scanToken (g : Nat) (s : ByteArray) (p : Nat) (w : World) (h : Sc w g s p 0) (hs : s.size ≤ 4096) (hp : p < s.size) (h0 : 48 ≤ byt s p) (h1 : byt s p ≤ 57) :
    Calls Try.prog 13 #[.pointer (some ⟨g, 0, none⟩), .int .i64 0] w (TokPost g s p 0 w) := by
  have hgl := Blk.lt h
  have HS := Lib.hid h
  have HR := Lib.hid (fun w' (h : Sc w' g s p 0) => show Calls Try.prog 16 #[.pointer (some ⟨g, 0, none⟩)] w' fun e w'' => e = .returned (.tuple #[.int .i64 ((byt s p : Nat) : Int), .int .i64 1]) ∧ Drawn w' w'' from by
    have := scanRune g s p 0 w' h (by omega) (by omega)
    rwa [rune_ascii s p hp (by omega)] at this)
  have HID := Lib.hid (fun w' (h : Sc w' g s p 0) => show Calls Try.prog 14 #[.pointer (some ⟨g, 0, none⟩), .string ⟨#[46]⟩] w' fun e w'' => e = .returned (.bool false) ∧ Drawn w' w'' from is_one h hs (by omega) 46 (by omega) false (decide_eq_false (by omega)))
  have HNM := Lib.hid (fun w' (h : Sc w' g s p 0) => scanNumber g s p 0 w' h (by omega) (by omega) hs hp (by unfold Sgn; omega))
  obtain ⟨b, hb⟩ : ∃ b, b = byt s p := ⟨_, rfl⟩
  rw [← hb] at HR h0 h1
  have HDG := Lib.hid (fun w => show Calls Try.prog 21 #[.int .i64 b] w fun e w' => e = .returned (.bool true) ∧ w' = w from by
    have := digit_walk b w
    rwa [show isDig b = true by simp [isDig, h0, h1]] at this)
  clear h hb
  go_enter Try.func13, Try.ntmps13
  go_upto_region 1 with fail
  obtain ⟨W0, hW0⟩ : ∃ W0, W0 = w.alloc (.cells zer.toArray 45) := ⟨_, rfl⟩
  have HZ0 := Lib.hid (show Blk W0 w.heap.size 45 zer by rw [hW0]; exact Blk.new w 45 zer)
  have HS0 := Lib.hid (show Sc W0 g s p 0 by rw [hW0]; exact Blk.alloc HS.out _)
  have HG0 := Lib.hid (show w.grownBy W0 (some g) by rw [hW0]; exact only_alloc (World.grownBy.refl w _) _)
  simp only [zer] at hW0
  rw [← hW0]
  clear hW0
  go_wp2_with fail
  refine (HR.out _ HS0.out).mono ?_
  rintro e W1 ⟨rfl, k1, hW1⟩
  have HZ1 := Lib.hid (show Blk W1 w.heap.size 45 zer by rw [hW1]; exact HZ0.out.drewN k1)
  have HS1 := Lib.hid (show Sc W1 g s p 0 by rw [hW1]; exact HS0.out.drewN k1)
  have HG1 := Lib.hid (show w.grownBy W1 (some g) by rw [hW1]; exact only_drewN HG0.out k1)
  clear hW1 HZ0 HS0 HG0
  go_upto_region 2 with fail
  go_quiet ((go_at_call 14; exact Calls.quiet_of (HID.out _ (Sc.drewN HS1.out _))))
  obtain ⟨W2, hW2⟩ : ∃ W2, W2 = W1.drewN nq := ⟨_, rfl⟩
  have HZ2 := Lib.hid (show Blk W2 w.heap.size 45 zer by rw [hW2]; exact HZ1.out.drewN nq)
  have HS2 := Lib.hid (show Sc W2 g s p 0 by rw [hW2]; exact HS1.out.drewN nq)
  have HG2 := Lib.hid (show w.grownBy W2 (some g) by rw [hW2]; exact only_drewN HG1.out nq)
  rw [← hW2]
  clear hW2 HZ1 HS1 HG1
  go_wp2_with fail
  refine (HDG.out _).mono ?_
  rintro e W2 ⟨rfl, rfl⟩
  go_wp2_with fail
  refine (HNM.out _ HS2.out).mono ?_
  rintro e W3 ⟨q, K, T, n, old, rfl, hmv⟩
  have HM3 := Lib.hid (Moved.from_ (y := 0) HG2.out hmv)
  have HZ3 := Lib.hid (Blk.grown HZ2.out hmv.1 (fun e => by injection e with e; omega))
  have hw3 : w.heap.size < W3.heap.size := Blk.lt HZ3.out
  clear hmv
  have HZN := Lib.hid (show Blk (W3.alloc (.cells #[.int .i64 0, .string ⟨#[]⟩, .string ⟨#[]⟩, .int .u64 0, .int .i64 0, .int .i64 0, .bool false, .bool false, .bool false] 45)) W3.heap.size 45 zer from Blk.new W3 45 zer)
  go_wp2_with (with_reducible refine wpList_store_blk rfl 45 (.tmp 8) (.tmp 56) rfl W3.heap.size zer (tk K T n old) 45 rfl rfl HZN.out (tk_zer _ _ _ _) (size_tk _ _ _ _) (tk_one _ _ _ _) ?_)
  intro W4 H4 G4 S4
  have HB4 := Lib.hid (show Below W3.heap.size W3 W4 from ((Below.refl W3.heap.size W3).alloc (Nat.le_refl _) (.cells zer.toArray 45)).grown G4 (by simp) (fun k hk => by injection hk with hk; omega))
  have HT4 := Lib.hid H4
  have HM4 := Lib.hid (HM3.out.below HB4.out)
  have HZ4 := Lib.hid (Blk.below HZ3.out HB4.out hw3)
  obtain ⟨G, hG⟩ : ∃ G, G = W3.heap.size := ⟨_, rfl⟩
  have hgG : w.heap.size < G := by omega
  rw [← hG] at HT4 ⊢
  clear H4 G4 S4 HB4 HZN hG hw3 HM3 HZ3
  obtain ⟨hg5, hap, hqs, hsg5, b5, hs5, b50, b52⟩ := HM4.out
  have HS4 := Lib.hid hs5
  have HRR := Lib.hid (scanRune g s q b5 W4 hs5 (by omega) hqs)
  obtain ⟨r2, n2, hrn⟩ : ∃ r n, rune s q = (r, n) := ⟨_, _, rfl⟩
  rw [hrn] at HRR
  clear hg5 hsg5 hs5 hrn
  go_wp2_with fail
  refine HRR.out.mono ?_
  rintro e W5 ⟨rfl, k5, hW5⟩
  have HZ5 := Lib.hid (show Blk W5 w.heap.size 45 zer by rw [hW5]; exact HZ4.out.drewN k5)
  have HT5 := Lib.hid (show Blk W5 G 45 (tk K T n old) by rw [hW5]; exact HT4.out.drewN k5)
  have HS5 := Lib.hid (show Sc W5 g s q b5 by rw [hW5]; exact HS4.out.drewN k5)
  have HM5 := Lib.hid (show Moved g s p 0 w W5 q by rw [hW5]; exact HM4.out.drewN k5)
  clear hW5 HZ4 HT4 HS4 HM4
  have d0 := Blk.get HT5.out 0 rfl
  have HDA := Lib.hid (fun w => digit_walk r2 w)
  go_upto_region 6 with fail
  go_cut [76] (fun bv wx => ∃ z, bv = .bool z ∧ wx = W5)
  case first =>
    obtain ⟨x1, hx1⟩ : ∃ x, decide ((0 : Int) < (n2 : Int)) = x := ⟨_, rfl⟩
    obtain ⟨x2, hx2⟩ : ∃ x, ((r2 : Int) == 92) = x := ⟨_, rfl⟩
    obtain ⟨x3, hx3⟩ : ∃ x, (K == 7) = x := ⟨_, rfl⟩
    have y1 : decide (0 < n2) = x1 := by rw [← hx1]; congr 1; exact propext (by omega)
    cases x1
    all_goals cases x2
    all_goals cases x3
    all_goals
      go_wp2_with fail
      first
      | (go_meet; exact ⟨_, rfl, rfl⟩)
      | (refine (HDA.out _).mono ?_
         rintro e w' ⟨rfl, rfl⟩
         go_wp2_with fail
         go_meet
         exact ⟨_, rfl, rfl⟩)
  case rest =>
    obtain ⟨z, rfl, rfl⟩ := hcut
    clear d0
    go_upto_if 76 with fail
    go_cut [] (fun wx => Moved g s p 0 w wx q ∧ Blk wx w.heap.size 45 zer ∧ Blk wx G 45 (tk K T n old))
    case first =>
      cases z with
      | true =>
        have HFA := Lib.hid (scanFail g s q b5 2 wc HS5.out (by omega) (by omega) b50 b52)
        have HMM := Lib.hid HM5.out
        go_wp2_with fail
        refine HFA.out.mono ?_
        rintro e X6 ⟨rfl, ⟨b4, b41, b42, hsc6⟩, hgr6⟩
        have HS7 := Lib.hid hsc6
        have HG7 := Lib.hid (grown_trans HMM.out.1 hgr6)
        have HZ7 := Lib.hid (Blk.grown HZ5.out hgr6 (fun e => by injection e with e; omega))
        have HT7 := Lib.hid (Blk.grown HT5.out hgr6 (fun e => by injection e with e; omega))
        clear hsc6 hgr6
        go_wp2_with fail
        go_meet
        exact ⟨⟨HG7.out, HMM.out.2.1, HMM.out.2.2.1, HMM.out.2.2.2.1, b4, HS7.out, by omega, b42⟩, HZ7.out, HT7.out⟩
      | false =>
        go_wp2_with fail
        go_meet
        exact ⟨HM5.out, HZ5.out, HT5.out⟩
    case rest =>
      obtain ⟨hm6, hz6, ht6⟩ := hcut
      have HM6 := Lib.hid hm6
      have HZ6 := Lib.hid hz6
      have HT6 := Lib.hid ht6
      obtain ⟨hg6, hap6, hqs6, hsg6, b6, hs6, b60, b62⟩ := hm6
      have HS6 := Lib.hid hs6
      obtain ⟨W6, rfl⟩ : ∃ W6, W6 = wc := ⟨_, rfl⟩
      have c4 := Blk.get HS6.out 4 rfl
      have HIN := Lib.hid (fun w => inName_any r2 w)
      clear hz6 ht6 hg6 hsg6 hs6
      go_upto_region 8 with fail
      go_cut [92] (fun bv wx => ∃ z, bv = .bool z ∧ wx = W6)
      case first =>
        obtain ⟨x1, hx1⟩ : ∃ x, decide ((0 : Int) < (n2 : Int)) = x := ⟨_, rfl⟩
        obtain ⟨x2, hx2⟩ : ∃ x, (b6 == 0) = x := ⟨_, rfl⟩
        have y1 : decide (0 < n2) = x1 := by rw [← hx1]; congr 1; exact propext (by omega)
        cases x1
        all_goals cases x2
        all_goals
          go_wp2_with fail
          first
          | (go_meet; exact ⟨_, rfl, rfl⟩)
          | (refine (HIN.out _).mono ?_
             rintro e w' ⟨⟨B, rfl⟩, rfl⟩
             go_wp2_with fail
             go_meet
             exact ⟨_, rfl, rfl⟩)
      case rest =>
        obtain ⟨z, rfl, rfl⟩ := hcut
        clear c4
        go_upto_if 92 with fail
        go_cut [] (fun wx => Moved g s p 0 w wx q ∧ Blk wx w.heap.size 45 zer ∧ Blk wx G 45 (tk K T n old))
        case first =>
          cases z with
          | true =>
            have HFA := Lib.hid (scanFail g s q b6 1 wc HS6.out (by omega) (by omega) b60 b62)
            go_wp2_with fail
            refine HFA.out.mono ?_
            rintro e X6 ⟨rfl, ⟨b4, b41, b42, hsc6⟩, hgr6⟩
            have HS7 := Lib.hid hsc6
            have HG7 := Lib.hid (grown_trans HM6.out.1 hgr6)
            have HZ7 := Lib.hid (Blk.grown HZ6.out hgr6 (fun e => by injection e with e; omega))
            have HT7 := Lib.hid (Blk.grown HT6.out hgr6 (fun e => by injection e with e; omega))
            clear hsc6 hgr6
            go_wp2_with fail
            go_meet
            exact ⟨⟨HG7.out, HM6.out.2.1, HM6.out.2.2.1, HM6.out.2.2.2.1, b4, HS7.out, by omega, b42⟩, HZ7.out, HT7.out⟩
          | false =>
            go_wp2_with fail
            go_meet
            exact ⟨HM6.out, HZ6.out, HT6.out⟩
        case rest =>
          obtain ⟨hm7, hz7, ht7⟩ := hcut
          have HM7 := Lib.hid hm7
          have HZ7 := Lib.hid hz7
          have HT7 := Lib.hid ht7
          clear hm7 hz7 ht7
          go_upto_region 10 with fail
          go_wp2_with (first
            | (with_reducible refine wpList_load_blk rfl 45 (.tmp 8) rfl G rfl 45 (tk K T n old) _ HT7.out Try.underlying45 rfl (size_tk _ _ _ _) ?_)
            | (with_reducible refine wpList_store_blk rfl 45 (.tmp 4) (.tmp 95) rfl w.heap.size zer (tk K T n old) 45 rfl rfl HZ7.out (tk_zer _ _ _ _) (size_tk _ _ _ _) (tk_one _ _ _ _) ?_))
          intro X8 H8 G8 S8
          have HM9 := Lib.hid (HM7.out.stored G8 (Nat.le_refl _) hgl)
          clear G8
          go_wp2_with fail
          refine bodyPost_ret (results_cell_row Try.results13 _ _ w.heap.size 45 _ (0, 0) _ rfl H8 Try.underlying45 rfl size45) rfl ?_
          exact ⟨q, K, T, n, old, rfl, HM9.out⟩
end Go.Proofs.Ytefippeaalkmeaa.Scan
