/- The package's data URL: a text is escaped. The walk. -/
import Derived.Test.YtjhglhckdjnkgaaDoorUrlF
import Derived.Deep.DeepCutAuto
import Derived.Deep.CutRange
import Derived.Deep.CutBlock
namespace Go.Proofs.YtjhglhckdjnkgaaDoor.Url
open Go.RowKit Go.Proofs.YtjhglhckdjnkgaaDoor.Aid Go.Proofs.YtjhglhckdjnkgaaDoor.Runes
attribute [local go_sem ↓] Go.wp_at_zero Go.wp_at_succ
set_option linter.unusedVariables false
/-- What the call hands back. -/
def Out (mime s : ByteArray) (w : World) (e : Ending) (w' : World) : Prop := e = .returned (if wf s 0 = true then .tuple #[.string (head mime ++ str (encL (nats s))), .bool true] else .tuple #[.string ⟨#[]⟩, .bool false]) ∧ Below w.heap.size w w'
theorem head_nats (mime : ByteArray) : ([] ++ nats ⟨#[100, 97, 116, 97, 58]⟩ ++ nats mime) ++ [44] = nats (head mime) := by
  rw [head, nats_append, nats_append]
  rfl
theorem and15 (x : Nat) (h : x < 256) : bits .and .i32 (x : Int) 15 = ((x % 16 : Nat) : Int) := by
  have h1 := (bits_nat .i32 31 (by decide) (fun n h0 h1 => by rw [IntKind.wrap_i32]; omega) x 15 (by omega) (by decide)).1
  rw [show ((15 : Nat) : Int) = 15 from rfl] at h1
  rw [h1]
  have h2 : ∀ y : Fin 256, (y.val &&& 15) = y.val % 16 := by decide +kernel
  rw [h2 ⟨x, h⟩]
/-- A digit out of the package's constant. -/
theorem hex_at (d : Nat) (h : d < 16) (w : World) : (Instr.index 9 (.string ⟨#[48, 49, 50, 51, 52, 53, 54, 55, 56, 57, 65, 66, 67, 68, 69, 70]⟩) (.int .i32 d)).run Tryd.prog w = .ok (.int .u8 (hx d)) w := by
  rcases (by omega : d = 0 ∨ d = 1 ∨ d = 2 ∨ d = 3 ∨ d = 4 ∨ d = 5 ∨ d = 6 ∨ d = 7 ∨ d = 8 ∨ d = 9 ∨ d = 10 ∨ d = 11 ∨ d = 12 ∨ d = 13 ∨ d = 14 ∨ d = 15) with rfl | rfl | rfl | rfl | rfl | rfl | rfl | rfl | rfl | rfl | rfl | rfl | rfl | rfl | rfl | rfl <;> kernel_rfl
set_option maxRecDepth 100000 in
set_option maxHeartbeats 4000000 in
theorem encode (mime s : ByteArray) (w : World) (hm : mime.size ≤ 1000) (hs : s.size ≤ 100000) (hT : Lib.Utf8Tabs 4 5 w) :
    Calls Tryd.prog 29 #[.string mime, .string s] w (Out mime s w) := by
  have HT := Lib.hid hT
  have HST := Lib.hid (St.new w)
  have hhx : (nats (head mime)).length ≤ 1010 := by rw [nats_length, head_size]; omega
  have HHN := Lib.hid (head_nats mime)
  clear hT
  go_enter Tryd.func29, Tryd.ntmps29
  go_wp2_with fail
  refine (st_ws HST.out ⟨#[100, 97, 116, 97, 58]⟩ (by simp; decide)).mono ?_
  rintro e w1 ⟨rfl, h1⟩
  have HS1 := Lib.hid h1
  clear h1
  go_wp2_with fail
  refine (st_ws HS1.out mime (by simp [nats]; omega)).mono ?_
  rintro e w2 ⟨rfl, h2⟩
  have HS2 := Lib.hid h2
  clear h2
  go_wp2_with fail
  refine (st_wb HS2.out 44 (by simp [nats]; omega)).mono ?_
  rintro e w3 ⟨rfl, h3⟩
  rw [HHN.out] at h3
  have HS3 := Lib.hid h3
  clear h3
  go_upto_block 0 with fail
  go_cut [11] (fun t wx => ∃ T : Nat, t = .int .i64 T ∧ Tail s T ∧ wx = w3)
  case first =>
    go_wp2_with fail
    go_loop [11] (fun t => ∃ T : Nat, t = .int .i64 T ∧ T ≤ s.size ∧ ∀ j, T ≤ j → j < s.size → trailB (byt s j) = true) (fun t => (intOf t).toNat)
    case atStart => exact ⟨s.size, rfl, Nat.le_refl _, fun j h1 h2 => by omega⟩
    case round =>
      obtain ⟨T, rfl, hT1, hT2⟩ := hrel
      have HT2 := Lib.hid hT2
      clear hT2
      by_cases h0 : 0 < T
      · have hlt : T - 1 < s.size := by omega
        have e1 : ((T : Int) - 1).toNat = T - 1 := by omega
        have e2 : (0 : Int) ≤ (T : Int) - 1 := by omega
        have e3 : (T : Int) - 1 < s.size := by omega
        have e4 : (0 : Int) < T := by omega
        obtain ⟨b, hb⟩ : ∃ b : Nat, b = byt s (T - 1) := ⟨_, rfl⟩
        have eb : (s[T - 1]'hlt).toNat = b := by rw [hb, byt_eq s _ hlt]
        have HBB := Lib.hid hb
        clear hb
        by_cases hc : trailB b = true
        · have hc' := hc
          simp only [trailB, Bool.and_eq_true, decide_eq_true_eq] at hc'
          have t1 : ¬ (32 : Int) < b := by omega
          have t2 : ((b : Int) == 9) = false := by simp; omega
          have t3 : ((b : Int) == 10) = false := by simp; omega
          have t4 : ((b : Int) == 13) = false := by simp; omega
          have HC := Lib.hid hc
          clear hc hc'
          go_wp2_with fail
          go_round
          case rel =>
            refine ⟨T - 1, val_int (by omega), by omega, fun j h1 h2 => ?_⟩
            rcases Nat.lt_or_ge j T with h | h
            · rw [show j = T - 1 from by omega, ← HBB.out]
              exact HC.out
            · exact HT2.out j h h2
          case measure => simp [intOf]; omega
        · have HE := Lib.hid (show Tail s T from ⟨hT1, HT2.out, .inr (by rw [← HBB.out]; simpa using hc)⟩)
          have hc' : 32 < b ∨ b = 9 ∨ b = 10 ∨ b = 13 := by
            simp only [trailB, Bool.and_eq_true, decide_eq_true_eq] at hc
            omega
          clear hc
          by_cases q0 : 32 < b
          · have t1 : (32 : Int) < b := by omega
            go_wp2_with fail
            go_meet
            exact ⟨T, rfl, HE.out, rfl⟩
          · have t1 : ¬ (32 : Int) < b := by omega
            by_cases q9 : b = 9
            · have t2 : ((b : Int) == 9) = true := by simp; omega
              clear q9 hc' q0
              go_wp2_with fail
              go_meet
              exact ⟨T, rfl, HE.out, rfl⟩
            have t2 : ((b : Int) == 9) = false := by simp; omega
            by_cases q10 : b = 10
            · have t3 : ((b : Int) == 10) = true := by simp; omega
              clear q9 hc' q0 q10
              go_wp2_with fail
              go_meet
              exact ⟨T, rfl, HE.out, rfl⟩
            have t3 : ((b : Int) == 10) = false := by simp; omega
            have t4 : ((b : Int) == 13) = true := by simp; omega
            clear q9 hc' q0 q10
            go_wp2_with fail
            go_meet
            exact ⟨T, rfl, HE.out, rfl⟩
      · have HE := Lib.hid (show Tail s T from ⟨hT1, HT2.out, .inl (by omega)⟩)
        have e4 : ¬ (0 : Int) < T := by omega
        clear h0
        go_wp2_with fail
        go_meet
        exact ⟨T, rfl, HE.out, rfl⟩
  case rest =>
    obtain ⟨T, rfl, hTail, rfl⟩ := hcut
    have HTL := Lib.hid hTail
    have hTs := hTail.1
    clear hTail
    go_wp2_with fail
    go_loopw [9, 10] (fun i r wr => ∃ (k rs : Nat) (A : List Nat), k ≤ s.size ∧ rs ≤ k ∧ i = .int .i64 k ∧ r = .int .i64 rs ∧ St w (nats (head mime) ++ A) wr ∧ A ++ (cut s rs k ++ encL ((nats s).drop k)) = encL (nats s) ∧ wf s 0 = wf s k) (fun i _ _ => s.size - (intOf i).toNat)
    case atStart => exact ⟨0, 0, [], Nat.zero_le _, Nat.le_refl _, rfl, rfl, by rw [List.append_nil]; exact HS3.out, by rw [cut_self]; rfl, rfl⟩
    case round =>
      obtain ⟨k, rs, A, hk, hrs, rfl, rfl, hst, henc, hwf⟩ := hrel
      have hAl : A.length ≤ 300000 := by
        have h1 := enc_len (nats s)
        rw [nats_length, ← henc, List.length_append] at h1
        omega
      have HST2 := Lib.hid hst
      have HENC := Lib.hid henc
      have HWF := Lib.hid hwf
      clear hst henc hwf
      by_cases hlt : k < s.size
      · have i1 : (k : Int) < s.size := by omega
        have HSL := fun w => slice_from s k hk w
        obtain ⟨r, n, hrn⟩ : ∃ r n, Utf8.decode s k = (r, n) := ⟨_, _, rfl⟩
        have HD := Lib.hid (st_dec HST2.out HT.out s k hlt)
        rw [hrn] at HD
        by_cases hbad : rune s k = (0, 0)
        · have hd := decode_of s k hlt
          have hrn' : (r, n) = (65533, 1) := by
            rcases hd with ⟨h1, _⟩ | ⟨_, h1⟩
            · rw [hbad] at h1
              exact absurd h1 (by simp)
            · rw [← hrn, h1]
          injection hrn' with hr hn
          subst hr hn
          have HE := Lib.hid (show wf s 0 = false by rw [HWF.out, wf_no hlt (by rw [hbad])])
          clear hbad hd hrn
          go_wp2_with fail
          refine (HD.out).mono ?_
          rintro e w4 ⟨rfl, h4⟩
          have HS4 := Lib.hid h4
          clear h4
          go_wp2_with fail
          go_returns
          refine ⟨?_, HS4.out.2⟩
          rw [HE.out]
          rfl
        · have hgood : rune s k = (r, n) ∧ 0 < n := by
            rcases decode_of s k hlt with ⟨h1, h2⟩ | ⟨h1, _⟩
            · rw [hrn] at h2
              rw [← h2] at h1
              exact ⟨h2.symm, h1⟩
            · exact absurd h1 hbad
          obtain ⟨hru, hn0⟩ := hgood
          have hp := rune_pos hru hn0
          have hn4 := hp.2.2.1
          have hkn := hp.2.2.2.1
          have hr128 := hp.2.2.2.2.1
          have hrm := hp.2.2.2.2.2.1
          have HB := Lib.hid (show n = 1 → r = byt s k from hp.2.2.2.2.2.2.1)
          have HHI := Lib.hid (fun h : 1 < n => rune_high hru h)
          have HW2 := Lib.hid (show wf s 0 = wf s (k + n) by rw [HWF.out, wf_next hlt (by rw [hru]; exact hn0), hru])
          have HR1 := Lib.hid hr128
          clear hbad hrn hru hp hr128
          go_wp2_with fail
          refine (HD.out).mono ?_
          rintro e w4 ⟨rfl, h4⟩
          have HS4 := Lib.hid h4
          clear h4
          go_upto_region 16 with fail
          go_cut [60] (fun c wx => c = .bool false ∧ wx = w4)
          case first =>
            by_cases q : r = 65533
            · have t1 : ((r : Int) == 65533) = true := by simp; omega
              have t2 : ((n : Int) == 1) = false := by
                have : n ≠ 1 := fun h => by have := HR1.out.2 h; omega
                simp
                omega
              clear q
              go_wp2_with fail
              go_meet
              exact ⟨rfl, rfl⟩
            · have t1 : ((r : Int) == 65533) = false := by simp; omega
              clear q
              go_wp2_with fail
              go_meet
              exact ⟨rfl, rfl⟩
          case rest =>
            obtain ⟨rfl, rfl⟩ := hcut
            obtain ⟨E, hE⟩ : ∃ E : Bool, E = (decide (n = 1) && escB (byt s k) ((nats s).drop (k + 1))) := ⟨_, rfl⟩
            have HEE := Lib.hid hE
            clear hE
            go_upto_region 18 with fail
            go_cut [103] (fun c wx => c = .bool E ∧ wx = wc)
            case first =>
              have hta := tail_all s T HTL.out k hlt
              have htwo := two_at s k
              have hdn := drop_next s k hlt
              obtain ⟨R, hR⟩ : ∃ R, R = (nats s).drop (k + 1) := ⟨_, rfl⟩
              rw [hdn, ← hR] at hta
              rw [← hR] at htwo
              have hEE := HEE.out
              rw [← hR] at hEE
              obtain ⟨b, hb⟩ : ∃ b, b = byt s k := ⟨_, rfl⟩
              rw [← hb] at hta hEE
              by_cases hn1 : n = 1
              · have hrb : r = b := by rw [hb]; exact HB.out hn1
                have HE0 := Lib.hid (show ∀ v : Bool, escB b R = v → E = v from fun v h => by rw [hEE, h, hn1]; rfl)
                have b255 := byt_lt s k
                rw [← hb] at b255
                subst hrb
                clear hb hn1 hR hdn hEE
                by_cases q9 : r = 9
                · have t1 : ((r : Int) == 9) = true := by simp; omega
                  have HE := Lib.hid (HE0.out true (by rw [q9]; rfl))
                  clear q9 hta htwo
                  go_wp2_with fail
                  go_meet
                  exact ⟨by rw [HE.out], rfl⟩
                have t1 : ((r : Int) == 9) = false := by simp; omega
                by_cases q10 : r = 10
                · have t2 : ((r : Int) == 10) = true := by simp; omega
                  have HE := Lib.hid (HE0.out true (by rw [q10]; rfl))
                  clear q9 q10 hta htwo
                  go_wp2_with fail
                  go_meet
                  exact ⟨by rw [HE.out], rfl⟩
                have t2 : ((r : Int) == 10) = false := by simp; omega
                by_cases q13 : r = 13
                · have t3 : ((r : Int) == 13) = true := by simp; omega
                  have HE := Lib.hid (HE0.out true (by rw [q13]; rfl))
                  clear q9 q10 q13 hta htwo
                  go_wp2_with fail
                  go_meet
                  exact ⟨by rw [HE.out], rfl⟩
                have t3 : ((r : Int) == 13) = false := by simp; omega
                by_cases q35 : r = 35
                · have t4 : ((r : Int) == 35) = true := by simp; omega
                  have HE := Lib.hid (HE0.out true (by rw [q35]; rfl))
                  clear q9 q10 q13 q35 hta htwo
                  go_wp2_with fail
                  go_meet
                  exact ⟨by rw [HE.out], rfl⟩
                have t4 : ((r : Int) == 35) = false := by simp; omega
                have hctl : ctl r = false := by simp [ctl, q9, q10, q13]
                by_cases qT : T ≤ k
                · have t5 : (T : Int) ≤ k := by omega
                  have HE := Lib.hid (HE0.out true (by rw [escB, hta]; simp [qT]))
                  clear q9 q10 q13 q35 qT hctl hta htwo
                  go_wp2_with fail
                  go_meet
                  exact ⟨by rw [HE.out], rfl⟩
                have t5 : (k : Int) < T := by omega
                have t7 : decide (T ≤ k) = false := by simp; omega
                by_cases q37 : r = 37
                · have t6 : ((r : Int) == 37) = true := by simp; omega
                  by_cases hk2 : k + 2 < s.size
                  · have i2 : (k : Int) + 2 < s.size := by omega
                    have j1 : ((k : Int) + 1).toNat = k + 1 := by omega
                    have j2 : ((k : Int) + 2).toNat = k + 2 := by omega
                    have g1 : k + 1 < s.size := by omega
                    have p3 : (k : Int) + 1 < s.size := by omega
                    obtain ⟨x, hx⟩ : ∃ x : Nat, x = byt s (k + 1) := ⟨_, rfl⟩
                    obtain ⟨y, hy⟩ : ∃ y : Nat, y = byt s (k + 2) := ⟨_, rfl⟩
                    have ex : (s[k + 1]'g1).toNat = x := by rw [hx, byt_eq s _ g1]
                    have ey : (s[k + 2]'hk2).toNat = y := by rw [hy, byt_eq s _ hk2]
                    have x255 := byt_lt s (k + 1)
                    have y255 := byt_lt s (k + 2)
                    rw [← hx] at x255 htwo
                    rw [← hy] at y255 htwo
                    have HX := fun w => isHex_walk x x255 w
                    have HY := fun w => isHex_walk y y255 w
                    clear hx hy
                    by_cases h1 : isHex x = true
                    · rw [h1] at HX
                      by_cases h2 : isHex y = true
                      · rw [h2] at HY
                        have HE := Lib.hid (HE0.out true (by rw [escB, htwo, h1, h2]; simp [q37, hk2]))
                        have HX1 := Lib.hid HX
                        have HY1 := Lib.hid HY
                        clear q9 q10 q13 q35 q37 qT hctl hta htwo h1 h2 HX HY
                        go_wp2_with fail
                        refine (HX1.out _).mono ?_
                        rintro e w5 ⟨rfl, rfl⟩
                        go_wp2_with fail
                        refine (HY1.out _).mono ?_
                        rintro e w5 ⟨rfl, rfl⟩
                        go_wp2_with fail
                        go_meet
                        exact ⟨by rw [HE.out], rfl⟩
                      · rw [show isHex y = false by simpa using h2] at HY
                        have HE := Lib.hid (HE0.out false (by rw [escB, htwo, hta, hctl]; simp [q37, h2, qT]))
                        have HX1 := Lib.hid HX
                        have HY1 := Lib.hid HY
                        clear q9 q10 q13 q35 q37 qT hctl hta htwo h1 h2 HX HY
                        go_wp2_with fail
                        refine (HX1.out _).mono ?_
                        rintro e w5 ⟨rfl, rfl⟩
                        go_wp2_with fail
                        refine (HY1.out _).mono ?_
                        rintro e w5 ⟨rfl, rfl⟩
                        go_wp2_with fail
                        go_meet
                        exact ⟨by rw [HE.out], rfl⟩
                    · rw [show isHex x = false by simpa using h1] at HX
                      have HE := Lib.hid (HE0.out false (by rw [escB, htwo, hta, hctl]; simp [q37, h1, qT]))
                      have HX1 := Lib.hid HX
                      clear q9 q10 q13 q35 q37 qT hctl hta htwo h1 HX HY
                      go_wp2_with fail
                      refine (HX1.out _).mono ?_
                      rintro e w5 ⟨rfl, rfl⟩
                      go_wp2_with fail
                      go_meet
                      exact ⟨by rw [HE.out], rfl⟩
                  · have i2 : (s.size : Int) ≤ (k : Int) + 2 := by omega
                    have HE := Lib.hid (HE0.out false (by rw [escB, htwo, hta, hctl]; simp [q35, hk2, qT]))
                    clear q9 q10 q13 q35 q37 qT hctl hta htwo hk2
                    go_wp2_with fail
                    go_meet
                    exact ⟨by rw [HE.out], rfl⟩
                · have t6 : ((r : Int) == 37) = false := by simp; omega
                  have HE := Lib.hid (HE0.out false (by rw [escB, hta, hctl]; simp [q35, q37, qT]))
                  clear q9 q10 q13 q35 q37 qT hctl hta htwo
                  go_wp2_with fail
                  go_meet
                  exact ⟨by rw [HE.out], rfl⟩
              · have HE := Lib.hid (show E = false by rw [hEE]; simp [hn1])
                have hb128 : 128 ≤ byt s k := by
                  have := HHI.out (by omega) 0 (by omega)
                  rwa [Nat.add_zero] at this
                have hTk : ¬ T ≤ k := by
                  intro h
                  have := HTL.out.2.1 k h hlt
                  simp [trailB] at this
                  omega
                have hr128 : 128 ≤ r := by have := HR1.out; omega
                have t1 : ((r : Int) == 9) = false := by simp; omega
                have t2 : ((r : Int) == 10) = false := by simp; omega
                have t3 : ((r : Int) == 13) = false := by simp; omega
                have t4 : ((r : Int) == 35) = false := by simp; omega
                have t6 : ((r : Int) == 37) = false := by simp; omega
                have t5 : (k : Int) < T := by omega
                have t7 : decide (T ≤ k) = false := by simp; omega
                clear hta htwo hb hn1 hR hdn hb128 hTk hEE
                go_wp2_with fail
                go_meet
                exact ⟨by rw [HE.out], rfl⟩
            case rest =>
              obtain ⟨rfl, rfl⟩ := hcut
              have hEE := HEE.out
              by_cases hE : E = true
              · rw [hE] at hEE
                have hn1 : n = 1 := by
                  have := hEE.symm
                  simp only [Bool.and_eq_true, decide_eq_true_eq] at this
                  exact this.1
                have hesc : escB (byt s k) ((nats s).drop (k + 1)) = true := by
                  have := hEE.symm
                  simp only [Bool.and_eq_true, decide_eq_true_eq] at this
                  exact this.2
                have hen := enc_esc s k hlt hesc
                have hrb := HB.out hn1
                rw [← hrb] at hen
                have hr7 : r < 128 := HR1.out.2 hn1
                subst hE
                obtain ⟨q1, hq1⟩ : ∃ q1 : Nat, q1 = r / 16 := ⟨_, rfl⟩
                obtain ⟨q2, hq2⟩ : ∃ q2 : Nat, q2 = r % 16 := ⟨_, rfl⟩
                rw [← hq1, ← hq2] at hen
                have d1 : (r : Int) / 16 = (q1 : Int) := by omega
                have d2 : bits .and .i32 (r : Int) 15 = (q2 : Int) := by rw [hq2]; exact and15 r (by omega)
                have b1 : q1 < 16 := by omega
                have b2 : q2 < 16 := by omega
                obtain ⟨X1, hX1⟩ : ∃ X1, X1 = hx q1 := ⟨_, rfl⟩
                obtain ⟨X2, hX2⟩ : ∃ X2, X2 = hx q2 := ⟨_, rfl⟩
                have x1 := fun w => hex_at q1 b1 w
                have x2 := fun w => hex_at q2 b2 w
                rw [← hX1] at x1 hen
                rw [← hX2] at x2 hen
                have n1 : (n : Int) = 1 := by omega
                have HN := Lib.hid hn1
                have HEN := Lib.hid (show A ++ (cut s rs k ++ ([37, X1, X2] ++ encL ((nats s).drop (k + 1)))) = encL (nats s) by rw [← HENC.out, hen])
                clear hEE hn1 hesc hen hrb hq1 hq2 hX1 hX2
                by_cases hrk : rs < k
                · have r1 : (rs : Int) < k := by omega
                  have hsm := fun w => slice_mid s rs k (by omega) (by omega) w
                  have hxl : (s.extract rs k).size ≤ 100000 := by rw [extract_size0 s rs k (by omega) (by omega)]; omega
                  have hxn := Lib.hid (nats_extract s rs k)
                  obtain ⟨Y, hY⟩ : ∃ Y, Y = s.extract rs k := ⟨_, rfl⟩
                  rw [← hY] at hsm hxl hxn
                  clear hY hrk
                  go_wp2_with fail
                  refine (st_ws HS4.out Y (by simp only [List.length_append]; omega)).mono ?_
                  rintro e w5 ⟨rfl, h5⟩
                  have hlc : (cut s rs k).length ≤ 100000 := by rw [cut_length s rs k (by omega)]; omega
                  rw [hxn.out] at h5
                  have HS5 := Lib.hid h5
                  clear h5
                  go_wp2_with fail
                  refine (st_wb HS5.out 37 (by simp only [List.length_append]; omega)).mono ?_
                  rintro e w6 ⟨rfl, h6⟩
                  have HS6 := Lib.hid h6
                  clear h6
                  go_wp2_with fail
                  refine (st_wb HS6.out X1 (by simp only [List.length_append, List.length_cons, List.length_nil]; omega)).mono ?_
                  rintro e w7 ⟨rfl, h7⟩
                  have HS7 := Lib.hid h7
                  clear h7
                  go_wp2_with fail
                  refine (st_wb HS7.out X2 (by simp only [List.length_append, List.length_cons, List.length_nil]; omega)).mono ?_
                  rintro e w8 ⟨rfl, h8⟩
                  have HS8 := Lib.hid h8
                  clear h8
                  go_wp2_with fail
                  go_roundw
                  case rel =>
                    refine ⟨k + 1, k + 1, A ++ (cut s rs k ++ [37, X1, X2]), by omega, Nat.le_refl _, val_int (by omega), val_int (by omega), by simpa [List.append_assoc] using HS8.out, ?_, by rw [HW2.out, HN.out]⟩
                    rw [cut_self]
                    simpa [List.append_assoc] using HEN.out
                  case measure => simp [intOf]; omega
                · have r1 : ¬ (rs : Int) < k := by omega
                  have hrk' : rs = k := by omega
                  have HCS := Lib.hid (show cut s rs k = [] by rw [hrk', cut_self])
                  clear hrk hrk'
                  go_wp2_with fail
                  refine (st_wb HS4.out 37 (by simp only [List.length_append]; omega)).mono ?_
                  rintro e w6 ⟨rfl, h6⟩
                  have HS6 := Lib.hid h6
                  clear h6
                  go_wp2_with fail
                  refine (st_wb HS6.out X1 (by simp only [List.length_append, List.length_cons, List.length_nil]; omega)).mono ?_
                  rintro e w7 ⟨rfl, h7⟩
                  have HS7 := Lib.hid h7
                  clear h7
                  go_wp2_with fail
                  refine (st_wb HS7.out X2 (by simp only [List.length_append, List.length_cons, List.length_nil]; omega)).mono ?_
                  rintro e w8 ⟨rfl, h8⟩
                  have HS8 := Lib.hid h8
                  clear h8
                  go_wp2_with fail
                  go_roundw
                  case rel =>
                    refine ⟨k + 1, k + 1, A ++ ([37, X1, X2]), by omega, Nat.le_refl _, val_int (by omega), val_int (by omega), by simpa [List.append_assoc] using HS8.out, ?_, by rw [HW2.out, HN.out]⟩
                    rw [cut_self]
                    simpa [List.append_assoc, HCS.out] using HEN.out
                  case measure => simp [intOf]; omega
              · have hE' : E = false := by simpa using hE
                rw [hE'] at hEE
                have hen := enc_run s k n (fun j hj => by
                  refine ⟨by omega, ?_⟩
                  by_cases hn1 : n = 1
                  · have hj0 : j = 0 := by omega
                    subst hj0
                    rw [Nat.add_zero]
                    have := hEE.symm
                    simpa [hn1] using this
                  · exact esc_high _ _ (HHI.out (by omega) j hj))
                have HEN := Lib.hid (show A ++ (cut s rs (k + n) ++ encL ((nats s).drop (k + n))) = encL (nats s) by rw [← HENC.out, hen, ← List.append_assoc (cut s rs k), cut_cat s rs k (k + n) hrs (by omega) hkn])
                subst hE'
                clear hEE hE hen
                go_wp2_with fail
                go_roundw
                case rel => exact ⟨k + n, rs, A, hkn, by omega, val_int (by omega), rfl, HS4.out, HEN.out, HW2.out⟩
                case measure => simp [intOf]; omega
      · have hge : (s.size : Int) ≤ k := by omega
        have hks : k = s.size := by omega
        have hde : encL ((nats s).drop k) = [] := by rw [List.drop_eq_nil_of_le (by rw [nats_length]; omega)]; rfl
        have HE := Lib.hid (show wf s 0 = true by rw [HWF.out, wf_end hlt])
        have hlt2 := enc_lt (nats s) (nats_lt s)
        by_cases hrk : rs < s.size
        · have r1 : (rs : Int) < s.size := by omega
          have hsm := fun w => slice_from s rs (by omega) w
          have hxl : (s.extract rs s.size).size ≤ 100000 := by rw [extract_size0 s rs s.size (by omega) (by omega)]; omega
          have HXN := Lib.hid (nats_extract s rs s.size)
          have HEN := Lib.hid (show A ++ cut s rs s.size = encL (nats s) by rw [← HENC.out, hde, List.append_nil, hks])
          obtain ⟨Y, hY⟩ : ∃ Y, Y = s.extract rs s.size := ⟨_, rfl⟩
          rw [← hY] at hsm hxl HXN
          have HLT := Lib.hid hlt2
          clear hY hrk hde hks hlt hlt2
          go_wp2_with fail
          refine (st_ws HST2.out Y (by simp only [List.length_append]; omega)).mono ?_
          rintro e w5 ⟨rfl, h5⟩
          rw [HXN.out, List.append_assoc, HEN.out] at h5
          have HS5 := Lib.hid h5
          clear h5
          go_wp2_with fail
          refine (st_string HS5.out (fun b hb => by
            rw [List.mem_append] at hb
            rcases hb with hb | hb
            · exact nats_lt _ b hb
            · exact HLT.out b hb)).mono ?_
          rintro e w6 ⟨rfl, h6⟩
          have HB6 := Lib.hid h6
          clear h6
          go_wp2_with fail
          go_returns
          refine ⟨?_, HB6.out⟩
          rw [HE.out, str_append, str_nats]
          rfl
        · have r1 : (s.size : Int) ≤ rs := by omega
          have hcs : cut s rs k = [] := by rw [show rs = k from by omega, cut_self]
          have HEN := Lib.hid (show A = encL (nats s) by rw [← HENC.out, hde, hcs, List.append_nil, List.append_nil])
          have HLT := Lib.hid hlt2
          clear hcs hrk hde hks hlt hlt2
          go_wp2_with fail
          refine (st_string HST2.out (fun b hb => by
            rw [HEN.out, List.mem_append] at hb
            rcases hb with hb | hb
            · exact nats_lt _ b hb
            · exact HLT.out b hb)).mono ?_
          rintro e w6 ⟨rfl, h6⟩
          have HB6 := Lib.hid h6
          clear h6
          go_wp2_with fail
          go_returns
          refine ⟨?_, HB6.out⟩
          rw [HE.out, HEN.out, str_append, str_nats]
          rfl
end Go.Proofs.YtjhglhckdjnkgaaDoor.Url
