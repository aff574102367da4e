/- The package's quoting of a text. The walk. -/
import Derived.Test.YtobhlppdolekoaaWtfL
import Derived.Laws.BytesArg
namespace Go.Proofs.Ytobhlppdolekoaa.Wtf
open Go.RowKit Go.Proofs.Ytobhlppdolekoaa.Aid Go.Proofs.Ytobhlppdolekoaa.Runes Go.Proofs.Ytobhlppdolekoaa.Bytes
attribute [local go_sem ↓] Go.wp_at_zero Go.wp_at_succ
set_option linter.unusedVariables false
set_option linter.unusedSimpArgs false
set_option maxRecDepth 100000 in
set_option maxHeartbeats 16000000 in
theorem quoted (s : ByteArray) (ascii : Bool) (w : World) (hs : s.size ≤ 2147483647) (hfit : Fit (nats s)) :
    Calls Try.prog 55 #[.string s, .bool ascii, .int .u8 34] w fun e w' => ∃ v, e = .returned v ∧ w'.ownsRow w.heap.size 5 1 v ([34] ++ quote ascii (nats s) ++ [34]).length (ncells ([34] ++ quote ascii (nats s) ++ [34])) ∧ Below w.heap.size w w' := by
  obtain ⟨i0, hi, hz0, hz1, hz2⟩ := info_parts info5
  obtain ⟨R, hR⟩ : ∃ R, R = [34] ++ quote ascii (nats s) ++ [34] := ⟨_, rfl⟩
  rw [← hR]
  have HR := Lib.hid hR
  have HFIT := Lib.hid hfit
  clear hR hfit
  go_enter Try.func55, Try.ntmps55
  go_upto_block 0 with fail
  go_cut [7] (fun t wx => ∃ L : Nat, t = .int .i64 L ∧ L ≤ 12 * s.size + 2 ∧ Below w.heap.size w wx)
  case first =>
    go_wp2_with fail
    go_loopw [7] (fun t wr => ∃ k L : Nat, k ≤ s.size ∧ t = .int .i64 L ∧ L ≤ 12 * k + 2 ∧ EstAt s w wr k) (fun _ wr => s.size - wr.iterPos w.heap.size)
    case atStart => exact ⟨0, 2, Nat.zero_le _, rfl, Nat.le_refl _, World.iter_heap w s 0, below_at (Below.refl _ _) _⟩
    case round =>
      obtain ⟨k, L, hk, rfl, hL, hat⟩ := hrel
      have HAT := Lib.hid hat
      have HPOS := Lib.hid (show wr.iterPos w.heap.size = k by simp [World.iterPos, hat.1])
      by_cases hk1 : k < s.size
      · obtain ⟨r, n, hrn, hn0, hkn, hrm, hsur⟩ := dec_any s k hk1
        obtain ⟨wn, hwn⟩ : ∃ wn, wn = wr.iterAt w.heap.size s (k + n) := ⟨_, rfl⟩
        have hnx : ∀ ty, (Instr.next (.pointer (some ⟨w.heap.size, 0, none⟩)) true ty).run Try.prog wr = .ok (.tuple #[.bool true, .int .i64 k, .int .i32 r]) wn := by
          intro ty
          rw [Lib.run_next_any_at wr _ s k ty hat.1 hk1, hrn, hwn]
        have hatn : EstAt s w wn (k + n) := by rw [hwn]; exact hat.next
        have HATN := Lib.hid hatn
        have HPN := Lib.hid (show wn.iterPos w.heap.size = k + n by simp [World.iterPos, hatn.1])
        have HC := Lib.hid (fun w => can_walk r ascii hrm w)
        have HL := Lib.hid (fun w => runeLen r hrm hsur w)
        clear hat hatn hwn hrn hsur
        cases hcan : can r ascii with
        | true =>
          rw [hcan] at HC
          clear hcan
          go_wp2_with fail
          refine (HC.out _).mono ?_
          rintro e w1 ⟨rfl, rfl⟩
          go_wp2_with fail
          refine (HL.out _).mono ?_
          rintro e w1 ⟨⟨m, hm, rfl⟩, rfl⟩
          go_wp2_with fail
          go_roundw
          case rel => exact ⟨k + n, L + m, hkn, val_int (by omega), by omega, HATN.out⟩
          case measure => have h1 := HPN.out; have h2 := HPOS.out; omega
        | false =>
          rw [hcan] at HC
          have n39 := not_can hcan
          have t39 : ((r : Int) == 39) = false := by simp; omega
          clear hcan
          by_cases q8 : r = 8
          · have t8 : ((r : Int) == 8) = true := by simp; omega
            clear n39 q8
            go_wp2_with fail
            refine (HC.out _).mono ?_
            rintro e w1 ⟨rfl, rfl⟩
            go_wp2_with fail
            go_roundw
            case rel => exact ⟨k + n, L + 2, hkn, val_int (by omega), by omega, HATN.out⟩
            case measure => have h1 := HPN.out; have h2 := HPOS.out; omega
          have t8 : ((r : Int) == 8) = false := by simp; omega
          by_cases q12 : r = 12
          · have t12 : ((r : Int) == 12) = true := by simp; omega
            clear n39 q8 q12
            go_wp2_with fail
            refine (HC.out _).mono ?_
            rintro e w1 ⟨rfl, rfl⟩
            go_wp2_with fail
            go_roundw
            case rel => exact ⟨k + n, L + 2, hkn, val_int (by omega), by omega, HATN.out⟩
            case measure => have h1 := HPN.out; have h2 := HPOS.out; omega
          have t12 : ((r : Int) == 12) = false := by simp; omega
          by_cases q10 : r = 10
          · have t10 : ((r : Int) == 10) = true := by simp; omega
            clear n39 q8 q12 q10
            go_wp2_with fail
            refine (HC.out _).mono ?_
            rintro e w1 ⟨rfl, rfl⟩
            go_wp2_with fail
            go_roundw
            case rel => exact ⟨k + n, L + 2, hkn, val_int (by omega), by omega, HATN.out⟩
            case measure => have h1 := HPN.out; have h2 := HPOS.out; omega
          have t10 : ((r : Int) == 10) = false := by simp; omega
          by_cases q13 : r = 13
          · have t13 : ((r : Int) == 13) = true := by simp; omega
            clear n39 q8 q12 q10 q13
            go_wp2_with fail
            refine (HC.out _).mono ?_
            rintro e w1 ⟨rfl, rfl⟩
            go_wp2_with fail
            go_roundw
            case rel => exact ⟨k + n, L + 2, hkn, val_int (by omega), by omega, HATN.out⟩
            case measure => have h1 := HPN.out; have h2 := HPOS.out; omega
          have t13 : ((r : Int) == 13) = false := by simp; omega
          by_cases q9 : r = 9
          · have t9 : ((r : Int) == 9) = true := by simp; omega
            clear n39 q8 q12 q10 q13 q9
            go_wp2_with fail
            refine (HC.out _).mono ?_
            rintro e w1 ⟨rfl, rfl⟩
            go_wp2_with fail
            go_roundw
            case rel => exact ⟨k + n, L + 2, hkn, val_int (by omega), by omega, HATN.out⟩
            case measure => have h1 := HPN.out; have h2 := HPOS.out; omega
          have t9 : ((r : Int) == 9) = false := by simp; omega
          by_cases q92 : r = 92
          · have t92 : ((r : Int) == 92) = true := by simp; omega
            clear n39 q8 q12 q10 q13 q9 q92
            go_wp2_with fail
            refine (HC.out _).mono ?_
            rintro e w1 ⟨rfl, rfl⟩
            go_wp2_with fail
            go_roundw
            case rel => exact ⟨k + n, L + 2, hkn, val_int (by omega), by omega, HATN.out⟩
            case measure => have h1 := HPN.out; have h2 := HPOS.out; omega
          have t92 : ((r : Int) == 92) = false := by simp; omega
          by_cases q34 : r = 34
          · have t34 : ((r : Int) == 34) = true := by simp; omega
            clear n39 q8 q12 q10 q13 q9 q92 q34
            go_wp2_with fail
            refine (HC.out _).mono ?_
            rintro e w1 ⟨rfl, rfl⟩
            go_wp2_with fail
            go_roundw
            case rel => exact ⟨k + n, L + 2, hkn, val_int (by omega), by omega, HATN.out⟩
            case measure => have h1 := HPN.out; have h2 := HPOS.out; omega
          have t34 : ((r : Int) == 34) = false := by simp; omega
          clear n39 q8 q12 q10 q13 q9 q92 q34
          by_cases h16 : r ≤ 65535
          · have t16 : (r : Int) ≤ 65535 := by omega
            go_wp2_with fail
            refine (HC.out _).mono ?_
            rintro e w1 ⟨rfl, rfl⟩
            go_wp2_with fail
            go_roundw
            case rel => exact ⟨k + n, L + 6, hkn, val_int (by omega), by omega, HATN.out⟩
            case measure => have h1 := HPN.out; have h2 := HPOS.out; omega
          · have t16 : ¬ (r : Int) ≤ 65535 := by omega
            go_wp2_with fail
            refine (HC.out _).mono ?_
            rintro e w1 ⟨rfl, rfl⟩
            go_wp2_with fail
            go_roundw
            case rel => exact ⟨k + n, L + 12, hkn, val_int (by omega), by omega, HATN.out⟩
            case measure => have h1 := HPN.out; have h2 := HPOS.out; omega
      · have hnx : ∀ ty, (Instr.next (.pointer (some ⟨w.heap.size, 0, none⟩)) true ty).run Try.prog wr = .ok (.tuple #[.bool false]) wr := fun ty => Lib.run_next_end_at wr _ s k ty hat.1 hk1
        clear hat
        go_wp2_with fail
        go_meet
        exact ⟨L, rfl, by omega, HAT.out.2⟩
  case rest =>
    obtain ⟨L, rfl, hL, hbel⟩ := hcut
    have HBEL := Lib.hid hbel
    clear hbel
    go_wp2_with (refine wpList_make_own _ rfl _ _ 25 rfl w.heap.size 5 i0 (.int .u8 0) 1 Try.underlying25 hi hz0 hz1 .i64 .i64 _ L rfl rfl rfl (by rw [hz2]; omega) (by unfold maxLen; omega) HBEL.out.size ?_)
    intro w1 ho1 hg1
    have HO1 := Lib.hid (show Out5 w _ [] w1 from ⟨ho1, HBEL.out.grown hg1 HBEL.out.size (fun _ h => by cases h)⟩)
    clear ho1 hg1
    go_wp2_with (at_builtin; refine wpList_append_list rfl _ _ 25 rfl w.heap.size 5 i0 (.int .u8 0) 1 Try.underlying25 hi hz0 hz1 hz2 rfl _ 0 (ncells []) rfl HO1.out.1 [.int .u8 34] 1 rfl rfl ?c1 ?c2 ?c3 ?c4 ?_)
    case c1 => simp [Value.oneCell']
    case c2 => unfold maxLen; omega
    case c3 => omega
    case c4 => exact HO1.out.2.size
    intro v2 w2 ho2 hg2
    have HO2 := Lib.hid (show Out5 w v2 [34] w2 from HO1.out.more (x := [34]) ho2 rfl hg2)
    clear ho2 hg2
    go_wp2_with fail
    go_loopw [10, 11] (fun v iv wr => ∃ (k : Nat) (D : List Nat), iv = .int .i64 k ∧ k ≤ s.size ∧ Out5 w v D wr ∧ D ++ (quote ascii ((nats s).drop k) ++ [34]) = R ∧ Fit ((nats s).drop k)) (fun _ iv _ => s.size - (intOf iv).toNat)
    case atStart => exact ⟨0, [34], rfl, Nat.zero_le _, HO2.out, by rw [HR.out, List.drop_zero, List.append_assoc], HFIT.out⟩
    case round =>
      obtain ⟨k, D, rfl, hk, hout, heq, hfit⟩ := hrel
      have hDl : D.length ≤ 12 * s.size + 2 := by
        have h1 := quote_len ascii _ (nats s) rfl
        have h2 := congrArg List.length heq
        rw [HR.out, nats_length] at *
        simp only [List.length_append, List.length_cons, List.length_nil] at h2
        omega
      have HOUT := Lib.hid hout
      have HEQ := Lib.hid heq
      have HFT := Lib.hid hfit
      clear hout heq hfit
      by_cases hlt : k < s.size
      · have i1 : (k : Int) < s.size := by omega
        have hslC := fun w => slice_from s k (by omega) w
        have hnC : nats (s.extract k s.size) = (nats s).drop k := nats_rest s k
        have hzC : (s.extract k s.size).size = s.size - k := extract_size0 s k s.size (by omega) (by omega)
        obtain ⟨C, hC⟩ : ∃ C, C = s.extract k s.size := ⟨_, rfl⟩
        rw [← hC] at hslC hnC hzC
        have hp := fit_pos HFT.out (rest_ne s k hlt)
        obtain ⟨r, n, hrn⟩ : ∃ r n, lrune ((nats s).drop k) = (r, n) := ⟨_, _, rfl⟩
        rw [hrn] at hp
        have hn0 : 0 < n := hp.1
        have ho := lrune_pos hrn hn0
        have hrm := ho.2.2.2.1
        have hkn : k + n ≤ s.size := by have := ho.2.1; rw [List.length_drop, nats_length] at this; omega
        have HO := Lib.hid (show r < 128 ↔ n = 1 from ho.2.2.1)
        have HD := Lib.hid (fun w => decode_wtf C (by omega) w r n (by rw [hnC]; exact hrn) hn0)
        have HC := Lib.hid (fun w => can_walk r ascii hrm w)
        have HFT2 := Lib.hid (show Fit ((nats s).drop (k + n)) by have := hp.2; rw [List.drop_drop] at this; exact this)
        have HQ := Lib.hid (show quote ascii ((nats s).drop k) = (if can r ascii = true then cut s k (k + n) else esc r) ++ quote ascii ((nats s).drop (k + n)) by
          rw [quote_next (rest_ne s k hlt) (by rw [hrn]; exact hn0), hrn, List.drop_drop]
          simp only [cut, Nat.add_sub_cancel_left])
        cases hcan : can r ascii with
        | true =>
          have RUN0 := Lib.hid (run_step (k := k) (j := k) ⟨Nat.le_refl _, hk, by rw [cut_self, List.nil_append], HFT.out⟩ hlt hrn hcan)
          rw [hcan] at HC
          clear hcan hrn ho hp hnC hC
          go_wp2_with fail
          refine (HD.out _).mono ?_
          rintro e w3 ⟨rfl, rfl⟩
          go_wp2_with fail
          refine (HC.out _).mono ?_
          rintro e w3 ⟨rfl, rfl⟩
          go_upto_block 5 with fail
          go_cut [11] (fun iv wx => ∃ j : Nat, iv = .int .i64 j ∧ k + n ≤ j ∧ Run s ascii k j ∧ wx = w3)
          case first =>
            go_wp2_with fail
            go_loop [11] (fun iv => ∃ j : Nat, iv = .int .i64 j ∧ k + n ≤ j ∧ j ≤ s.size ∧ Run s ascii k j) (fun iv => s.size - (intOf iv).toNat)
            case atStart => exact ⟨k + n, val_int (by omega), Nat.le_refl _, hkn, RUN0.out⟩
            case round =>
              obtain ⟨j, rfl, hknj, hjs, hrun⟩ := hrel
              have HRUN := Lib.hid hrun
              clear hrun
              by_cases hlj : j < s.size
              · have i2 : (j : Int) < s.size := by omega
                have hslE := fun w => slice_from s j (by omega) w
                have hnE : nats (s.extract j s.size) = (nats s).drop j := nats_rest s j
                have hzE : (s.extract j s.size).size = s.size - j := extract_size0 s j s.size (by omega) (by omega)
                obtain ⟨E, hE⟩ : ∃ E, E = s.extract j s.size := ⟨_, rfl⟩
                rw [← hE] at hslE hnE hzE
                have hp := fit_pos HRUN.out.2.2.2 (rest_ne s j hlj)
                obtain ⟨r2, n2, hrn2⟩ : ∃ r n, lrune ((nats s).drop j) = (r, n) := ⟨_, _, rfl⟩
                rw [hrn2] at hp
                have hm0 : 0 < n2 := hp.1
                have ho := lrune_pos hrn2 hm0
                have hrm2 := ho.2.2.2.1
                have hjn : j + n2 ≤ s.size := by have := ho.2.1; rw [List.length_drop, nats_length] at this; omega
                have HD2 := Lib.hid (fun w => decode_wtf E (by omega) w r2 n2 (by rw [hnE]; exact hrn2) hm0)
                have HC2 := Lib.hid (fun w => can_walk r2 ascii hrm2 w)
                cases hcan2 : can r2 ascii with
                | true =>
                  have RUN2 := Lib.hid (run_step HRUN.out hlj hrn2 hcan2)
                  rw [hcan2] at HC2
                  clear hcan2 hrn2 ho hp hnE hE
                  go_wp2_with fail
                  refine (HD2.out _).mono ?_
                  rintro e w3 ⟨rfl, rfl⟩
                  go_wp2_with fail
                  refine (HC2.out _).mono ?_
                  rintro e w3 ⟨rfl, rfl⟩
                  go_wp2_with fail
                  go_round
                  case rel => exact ⟨j + n2, val_int (by omega), by omega, hjn, RUN2.out⟩
                  case measure => simp [intOf]; omega
                | false =>
                  rw [hcan2] at HC2
                  clear hcan2 hrn2 ho hp hnE hE
                  go_wp2_with fail
                  refine (HD2.out _).mono ?_
                  rintro e w3 ⟨rfl, rfl⟩
                  go_wp2_with fail
                  refine (HC2.out _).mono ?_
                  rintro e w3 ⟨rfl, rfl⟩
                  go_wp2_with fail
                  go_meet
                  exact ⟨j, rfl, hknj, HRUN.out, rfl⟩
              · have i2 : ¬ (j : Int) < s.size := by omega
                clear hlj
                go_wp2_with fail
                go_meet
                exact ⟨j, rfl, hknj, HRUN.out, rfl⟩
          case rest =>
            obtain ⟨j, rfl, hknj, hrun, rfl⟩ := hcut
            have hkj := hrun.1
            have hjs := hrun.2.1
            have HRUN := Lib.hid hrun
            have hsm := fun w => slice_mid s k j hkj hjs w
            have hyz : (s.extract k j).size = j - k := extract_size0 s k j hkj hjs
            have HYN := Lib.hid (nats_extract s k j)
            obtain ⟨Y, hY⟩ : ∃ Y, Y = s.extract k j := ⟨_, rfl⟩
            rw [← hY] at hsm hyz HYN
            clear hrun hY
            go_wp2_with (at_builtin; refine Lib.wpList_append_own_string _ rfl _ _ 25 9 rfl w.heap.size 5 i0 Try.underlying25 Try.underlying9 hi hz0 hz1 hz2 _ _ _ rfl HOUT.out.1 Y rfl ?c3 ?c4 ?c5 ?_)
            case c3 => unfold maxLen; omega
            case c4 => omega
            case c5 => exact HOUT.out.2.size
            intro v3 w3 ho3 hg3 _
            rw [str_cells, HYN.out] at ho3
            have HO3 := Lib.hid (HOUT.out.more (x := cut s k j) ho3 (by rw [cut_length s k j hjs]) hg3)
            clear ho3 hg3
            go_wp2_with fail
            go_roundw
            case rel => exact ⟨j, D ++ cut s k j, rfl, hjs, HO3.out, by rw [← HEQ.out, ← HRUN.out.2.2.1, List.append_assoc, List.append_assoc], HRUN.out.2.2.2⟩
            case measure => simp [intOf]; omega
        | false =>
          have n39 := not_can hcan
          have t39 : ((r : Int) == 39) = false := by simp; omega
          have HQF := Lib.hid (show quote ascii ((nats s).drop k) = esc r ++ quote ascii ((nats s).drop (k + n)) by have h := HQ.out; rw [hcan] at h; simpa using h)
          rw [hcan] at HC
          clear hcan hrn ho hp hnC hC
          go_wp2_with fail
          refine (HD.out _).mono ?_
          rintro e w3 ⟨rfl, rfl⟩
          go_wp2_with fail
          refine (HC.out _).mono ?_
          rintro e w3 ⟨rfl, rfl⟩
          have HKN := Lib.hid hkn
          by_cases q8 : r = 8
          · have t8 : ((r : Int) == 8) = true := by simp; omega
            have hn1 : n = 1 := HO.out.1 (by omega)
            have HNX := Lib.hid (show (D ++ [92, 98]) ++ (quote ascii ((nats s).drop (k + 1)) ++ [34]) = R by rw [← HEQ.out, HQF.out, q8, esc_two 8 98 (by simp), hn1, List.append_assoc, List.append_assoc])
            have HF1 := Lib.hid (show Fit ((nats s).drop (k + 1)) by rw [← hn1]; exact HFT2.out)
            clear hn1 n39 q8
            go_wp2_with (at_builtin; refine Lib.wpList_append_own_string _ rfl _ _ 25 9 rfl w.heap.size 5 i0 Try.underlying25 Try.underlying9 hi hz0 hz1 hz2 _ _ _ rfl HOUT.out.1 ⟨#[92, 98]⟩ rfl ?c3 ?c4 ?c5 ?_)
            case c3 => unfold maxLen; simp [ByteArray.size]; omega
            case c4 => simp [ByteArray.size]; omega
            case c5 => exact HOUT.out.2.size
            intro v3 w4 ho3 hg3 _
            have HO3 := Lib.hid (HOUT.out.more (x := [92, 98]) (m := 2) ho3 rfl hg3)
            clear ho3 hg3
            go_wp2_with fail
            go_roundw
            case rel => exact ⟨k + 1, D ++ [92, 98], val_int (by omega), by omega, HO3.out, HNX.out, HF1.out⟩
            case measure => simp [intOf]; omega
          have t8 : ((r : Int) == 8) = false := by simp; omega
          by_cases q12 : r = 12
          · have t12 : ((r : Int) == 12) = true := by simp; omega
            have hn1 : n = 1 := HO.out.1 (by omega)
            have HNX := Lib.hid (show (D ++ [92, 102]) ++ (quote ascii ((nats s).drop (k + 1)) ++ [34]) = R by rw [← HEQ.out, HQF.out, q12, esc_two 12 102 (by simp), hn1, List.append_assoc, List.append_assoc])
            have HF1 := Lib.hid (show Fit ((nats s).drop (k + 1)) by rw [← hn1]; exact HFT2.out)
            clear hn1 n39 q8 q12
            go_wp2_with (at_builtin; refine Lib.wpList_append_own_string _ rfl _ _ 25 9 rfl w.heap.size 5 i0 Try.underlying25 Try.underlying9 hi hz0 hz1 hz2 _ _ _ rfl HOUT.out.1 ⟨#[92, 102]⟩ rfl ?c3 ?c4 ?c5 ?_)
            case c3 => unfold maxLen; simp [ByteArray.size]; omega
            case c4 => simp [ByteArray.size]; omega
            case c5 => exact HOUT.out.2.size
            intro v3 w4 ho3 hg3 _
            have HO3 := Lib.hid (HOUT.out.more (x := [92, 102]) (m := 2) ho3 rfl hg3)
            clear ho3 hg3
            go_wp2_with fail
            go_roundw
            case rel => exact ⟨k + 1, D ++ [92, 102], val_int (by omega), by omega, HO3.out, HNX.out, HF1.out⟩
            case measure => simp [intOf]; omega
          have t12 : ((r : Int) == 12) = false := by simp; omega
          by_cases q10 : r = 10
          · have t10 : ((r : Int) == 10) = true := by simp; omega
            have hn1 : n = 1 := HO.out.1 (by omega)
            have HNX := Lib.hid (show (D ++ [92, 110]) ++ (quote ascii ((nats s).drop (k + 1)) ++ [34]) = R by rw [← HEQ.out, HQF.out, q10, esc_two 10 110 (by simp), hn1, List.append_assoc, List.append_assoc])
            have HF1 := Lib.hid (show Fit ((nats s).drop (k + 1)) by rw [← hn1]; exact HFT2.out)
            clear hn1 n39 q8 q12 q10
            go_wp2_with (at_builtin; refine Lib.wpList_append_own_string _ rfl _ _ 25 9 rfl w.heap.size 5 i0 Try.underlying25 Try.underlying9 hi hz0 hz1 hz2 _ _ _ rfl HOUT.out.1 ⟨#[92, 110]⟩ rfl ?c3 ?c4 ?c5 ?_)
            case c3 => unfold maxLen; simp [ByteArray.size]; omega
            case c4 => simp [ByteArray.size]; omega
            case c5 => exact HOUT.out.2.size
            intro v3 w4 ho3 hg3 _
            have HO3 := Lib.hid (HOUT.out.more (x := [92, 110]) (m := 2) ho3 rfl hg3)
            clear ho3 hg3
            go_wp2_with fail
            go_roundw
            case rel => exact ⟨k + 1, D ++ [92, 110], val_int (by omega), by omega, HO3.out, HNX.out, HF1.out⟩
            case measure => simp [intOf]; omega
          have t10 : ((r : Int) == 10) = false := by simp; omega
          by_cases q13 : r = 13
          · have t13 : ((r : Int) == 13) = true := by simp; omega
            have hn1 : n = 1 := HO.out.1 (by omega)
            have HNX := Lib.hid (show (D ++ [92, 114]) ++ (quote ascii ((nats s).drop (k + 1)) ++ [34]) = R by rw [← HEQ.out, HQF.out, q13, esc_two 13 114 (by simp), hn1, List.append_assoc, List.append_assoc])
            have HF1 := Lib.hid (show Fit ((nats s).drop (k + 1)) by rw [← hn1]; exact HFT2.out)
            clear hn1 n39 q8 q12 q10 q13
            go_wp2_with (at_builtin; refine Lib.wpList_append_own_string _ rfl _ _ 25 9 rfl w.heap.size 5 i0 Try.underlying25 Try.underlying9 hi hz0 hz1 hz2 _ _ _ rfl HOUT.out.1 ⟨#[92, 114]⟩ rfl ?c3 ?c4 ?c5 ?_)
            case c3 => unfold maxLen; simp [ByteArray.size]; omega
            case c4 => simp [ByteArray.size]; omega
            case c5 => exact HOUT.out.2.size
            intro v3 w4 ho3 hg3 _
            have HO3 := Lib.hid (HOUT.out.more (x := [92, 114]) (m := 2) ho3 rfl hg3)
            clear ho3 hg3
            go_wp2_with fail
            go_roundw
            case rel => exact ⟨k + 1, D ++ [92, 114], val_int (by omega), by omega, HO3.out, HNX.out, HF1.out⟩
            case measure => simp [intOf]; omega
          have t13 : ((r : Int) == 13) = false := by simp; omega
          by_cases q9 : r = 9
          · have t9 : ((r : Int) == 9) = true := by simp; omega
            have hn1 : n = 1 := HO.out.1 (by omega)
            have HNX := Lib.hid (show (D ++ [92, 116]) ++ (quote ascii ((nats s).drop (k + 1)) ++ [34]) = R by rw [← HEQ.out, HQF.out, q9, esc_two 9 116 (by simp), hn1, List.append_assoc, List.append_assoc])
            have HF1 := Lib.hid (show Fit ((nats s).drop (k + 1)) by rw [← hn1]; exact HFT2.out)
            clear hn1 n39 q8 q12 q10 q13 q9
            go_wp2_with (at_builtin; refine Lib.wpList_append_own_string _ rfl _ _ 25 9 rfl w.heap.size 5 i0 Try.underlying25 Try.underlying9 hi hz0 hz1 hz2 _ _ _ rfl HOUT.out.1 ⟨#[92, 116]⟩ rfl ?c3 ?c4 ?c5 ?_)
            case c3 => unfold maxLen; simp [ByteArray.size]; omega
            case c4 => simp [ByteArray.size]; omega
            case c5 => exact HOUT.out.2.size
            intro v3 w4 ho3 hg3 _
            have HO3 := Lib.hid (HOUT.out.more (x := [92, 116]) (m := 2) ho3 rfl hg3)
            clear ho3 hg3
            go_wp2_with fail
            go_roundw
            case rel => exact ⟨k + 1, D ++ [92, 116], val_int (by omega), by omega, HO3.out, HNX.out, HF1.out⟩
            case measure => simp [intOf]; omega
          have t9 : ((r : Int) == 9) = false := by simp; omega
          by_cases q92 : r = 92
          · have t92 : ((r : Int) == 92) = true := by simp; omega
            have hn1 : n = 1 := HO.out.1 (by omega)
            have HNX := Lib.hid (show (D ++ [92, 92]) ++ (quote ascii ((nats s).drop (k + 1)) ++ [34]) = R by rw [← HEQ.out, HQF.out, q92, esc_two 92 92 (by simp), hn1, List.append_assoc, List.append_assoc])
            have HF1 := Lib.hid (show Fit ((nats s).drop (k + 1)) by rw [← hn1]; exact HFT2.out)
            clear hn1 n39 q8 q12 q10 q13 q9 q92
            go_wp2_with (at_builtin; refine Lib.wpList_append_own_string _ rfl _ _ 25 9 rfl w.heap.size 5 i0 Try.underlying25 Try.underlying9 hi hz0 hz1 hz2 _ _ _ rfl HOUT.out.1 ⟨#[92, 92]⟩ rfl ?c3 ?c4 ?c5 ?_)
            case c3 => unfold maxLen; simp [ByteArray.size]; omega
            case c4 => simp [ByteArray.size]; omega
            case c5 => exact HOUT.out.2.size
            intro v3 w4 ho3 hg3 _
            have HO3 := Lib.hid (HOUT.out.more (x := [92, 92]) (m := 2) ho3 rfl hg3)
            clear ho3 hg3
            go_wp2_with fail
            go_roundw
            case rel => exact ⟨k + 1, D ++ [92, 92], val_int (by omega), by omega, HO3.out, HNX.out, HF1.out⟩
            case measure => simp [intOf]; omega
          have t92 : ((r : Int) == 92) = false := by simp; omega
          by_cases q34 : r = 34
          · have t34 : ((r : Int) == 34) = true := by simp; omega
            have hn1 : n = 1 := HO.out.1 (by omega)
            have HNX := Lib.hid (show (D ++ [92, 34]) ++ (quote ascii ((nats s).drop (k + 1)) ++ [34]) = R by rw [← HEQ.out, HQF.out, q34, esc_two 34 34 (by simp), hn1, List.append_assoc, List.append_assoc])
            have HF1 := Lib.hid (show Fit ((nats s).drop (k + 1)) by rw [← hn1]; exact HFT2.out)
            clear hn1 n39 q8 q12 q10 q13 q9 q92 q34
            go_wp2_with (at_builtin; refine Lib.wpList_append_own_string _ rfl _ _ 25 9 rfl w.heap.size 5 i0 Try.underlying25 Try.underlying9 hi hz0 hz1 hz2 _ _ _ rfl HOUT.out.1 ⟨#[92, 34]⟩ rfl ?c3 ?c4 ?c5 ?_)
            case c3 => unfold maxLen; simp [ByteArray.size]; omega
            case c4 => simp [ByteArray.size]; omega
            case c5 => exact HOUT.out.2.size
            intro v3 w4 ho3 hg3 _
            have HO3 := Lib.hid (HOUT.out.more (x := [92, 34]) (m := 2) ho3 rfl hg3)
            clear ho3 hg3
            go_wp2_with fail
            go_roundw
            case rel => exact ⟨k + 1, D ++ [92, 34], val_int (by omega), by omega, HO3.out, HNX.out, HF1.out⟩
            case measure => simp [intOf]; omega
          have t34 : ((r : Int) == 34) = false := by simp; omega
          have HESC := Lib.hid (show esc r = if r ≤ 65535 then u4 r else u4 (55296 + (r - 65536) / 1024) ++ u4 (56320 + (r - 65536) % 1024) by unfold esc; rw [if_neg q8, if_neg q12, if_neg q10, if_neg q13, if_neg q9, if_neg q92, if_neg q34])
          clear n39 q8 q12 q10 q13 q9 q92 q34
          by_cases h16 : r ≤ 65535
          · have t16 : (r : Int) ≤ 65535 := by omega
            have HU := Lib.hid (show esc r = u4 r by rw [HESC.out, if_pos h16])
            have HNX := Lib.hid (show (D ++ esc r) ++ (quote ascii ((nats s).drop (k + n)) ++ [34]) = R by rw [← HEQ.out, HQF.out, List.append_assoc, List.append_assoc])
            go_upto_region 41 with fail
            refine region41 r h16 (by omega) HOUT ?_
            intro v' w4 y112 y113 y114 y115 y116 y117 y118 y119 y120 y121 y122 y123 y124 y125 y126 y127 y128 ho4
            rw [← HU.out] at ho4
            have HO3 := Lib.hid ho4
            clear ho4
            go_wp2_with fail
            go_roundw
            case rel => exact ⟨k + n, D ++ esc r, val_int (by omega), HKN.out, HO3.out, HNX.out, HFT2.out⟩
            case measure => simp [intOf]; omega
          · have t16 : ¬ (r : Int) ≤ 65535 := by omega
            obtain ⟨x, hxx⟩ : ∃ x : Nat, x = r - 65536 := ⟨_, rfl⟩
            have e1 : (r : Int) - 65536 = (x : Int) := by omega
            obtain ⟨y, hy⟩ : ∃ y : Nat, y = x / 1024 := ⟨_, rfl⟩
            have e2 : (x : Int) / 1024 = (y : Int) := by omega
            obtain ⟨z, hz⟩ : ∃ z : Nat, z = x % 1024 := ⟨_, rfl⟩
            have e3 : bits .and .i32 (y : Int) 1023 = (y : Int) := by rw [and1023_32 y (by omega)]; omega
            have e4 : bits .and .i32 (x : Int) 1023 = (z : Int) := by rw [and1023_32 x (by omega)]; omega
            obtain ⟨u, hu⟩ : ∃ u : Nat, u = 55296 + y := ⟨_, rfl⟩
            obtain ⟨v, hv⟩ : ∃ v : Nat, v = 56320 + z := ⟨_, rfl⟩
            have e5 : 55296 + (y : Int) = (u : Int) := by omega
            have e6 : 56320 + (z : Int) = (v : Int) := by omega
            have u1 : u < 56320 := by omega
            have v1 : v < 57344 := by omega
            have hr65 : 65536 ≤ r := by omega
            have HU := Lib.hid (show esc r = u4 u ++ u4 v by rw [HESC.out, if_neg h16, ← hxx, ← hy, ← hz, ← hu, ← hv])
            have HNX := Lib.hid (show (D ++ esc r) ++ (quote ascii ((nats s).drop (k + n)) ++ [34]) = R by rw [← HEQ.out, HQF.out, List.append_assoc, List.append_assoc])
            clear h16 hxx hy hz hu hv
            go_upto_region 45 with fail
            clear e1 e2 e3 e4 e5 e6
            refine region45 u v (by omega) (by omega) (by omega) HOUT ?_
            intro v' w4 y138 y139 y140 y141 y142 y143 y144 y145 y146 y147 y148 y149 y150 y151 y152 y153 y154 y155 y156 y157 y158 y159 y160 y161 y162 y163 y164 y165 y166 y167 y168 ho4
            rw [← HU.out] at ho4
            have HO3 := Lib.hid ho4
            clear ho4
            go_wp2_with fail
            go_roundw
            case rel => exact ⟨k + n, D ++ esc r, val_int (by omega), HKN.out, HO3.out, HNX.out, HFT2.out⟩
            case measure => simp [intOf]; omega
      · have hz : k = s.size := by omega
        have i1 : ¬ (k : Int) < s.size := by omega
        have HEND := Lib.hid (show D ++ [34] = R by rw [← HEQ.out, hz, List.drop_eq_nil_of_le (by rw [nats_length]; exact Nat.le_refl _), quote_nil, List.nil_append])
        clear hz hlt
        go_wp2_with (at_builtin; refine wpList_append_list rfl _ _ 25 rfl w.heap.size 5 i0 (.int .u8 0) 1 Try.underlying25 hi hz0 hz1 hz2 rfl _ D.length (ncells D) rfl HOUT.out.1 [.int .u8 34] 1 rfl rfl ?c1 ?c2 ?c3 ?c4 ?_)
        case c1 => simp [Value.oneCell']
        case c2 => unfold maxLen; omega
        case c3 => omega
        case c4 => exact HOUT.out.2.size
        intro v3 w3 ho3 hg3
        have HO3 := Lib.hid (HOUT.out.more (x := [34]) ho3 rfl hg3)
        clear ho3 hg3
        rw [HEND.out] at HO3
        go_wp2_with fail
        go_returns
        exact ⟨v3, rfl, HO3.out⟩
end Go.Proofs.Ytobhlppdolekoaa.Wtf
/- The statement FnQuoteJSON: a text of WTF-8 that is quoted is a JSON string that means it. The walk of the law. -/
namespace Go.Proofs.Ytobhlppdolekoaa.Wtf
open Go.RowKit Go.Proofs.Ytobhlppdolekoaa.Aid Go.Proofs.Ytobhlppdolekoaa.Runes Go.Proofs.Ytobhlppdolekoaa.Bytes
attribute [local go_sem ↓] Go.wp_at_zero Go.wp_at_succ
set_option linter.unusedVariables false
theorem conv (w : World) (base : Nat) (v : Value) (R : List Nat) (h0 : 0 < R.length) (ho : w.ownsRow base 5 1 v R.length (ncells R)) : (convert 25 9 v).run Try.prog w = .ok (.string (str R)) w := by
  obtain ⟨A, c, rfl, hr⟩ := own_form ho
  obtain ⟨g, rfl, _, _, _⟩ := hr 0 (by omega)
  rw [run_convert_bytes_arg w 25 5 Try.underlying25 Try.underlying5 g 0 R.length c (R.map fun n : Nat => (n : Int)) (by simp) (fun i hi => ?_) 9 Try.underlying9]
  · congr 2
    apply ByteArray.ext
    apply Array.toList_inj.1
    simp [strOfNums, str, List.map_map, Function.comp_def]
  · obtain ⟨g', e, _, _, hc⟩ := hr i (by omega)
    injection e with e
    injection e with e
    subst e
    rw [Nat.zero_add, hc, ncells, List.getElem?_map, List.getElem?_eq_getElem hi]
    simp [hi]
/-- The quoted text. -/
def Q34 (ascii : Bool) (s : ByteArray) : List Nat := [34] ++ quote ascii (nats s) ++ [34]
theorem q34_len (ascii : Bool) (s : ByteArray) : 2 ≤ (Q34 ascii s).length ∧ (Q34 ascii s).length ≤ 12 * s.size + 2 := by
  have h := quote_len ascii _ (nats s) rfl
  rw [nats_length] at h
  simp only [Q34, List.length_append, List.length_cons, List.length_nil]
  omega
theorem q34_lt (ascii : Bool) (s : ByteArray) : ∀ b ∈ Q34 ascii s, b < 256 ∧ (ascii = true → b < 128) := by
  intro b hb
  simp only [Q34, List.mem_append, List.mem_cons, List.not_mem_nil, or_false] at hb
  rcases hb with (rfl | hb) | rfl
  · omega
  · exact quote_lt ascii _ (nats s) rfl (nats_lt s) b hb
  · omega
theorem q34_nats (ascii : Bool) (s : ByteArray) : nats (str (Q34 ascii s)) = Q34 ascii s := nats_str _ (fun b hb => (q34_lt ascii s b hb).1)
set_option maxRecDepth 100000 in
set_option maxHeartbeats 2000000 in
theorem quoteForJson (s : ByteArray) (ascii : Bool) (w : World) (hs : s.size ≤ 2147483647) (hfit : Fit (nats s)) :
    Calls Try.prog 49 #[.string s, .bool ascii] w fun e w' => ∃ v, e = .returned v ∧ w'.ownsRow w.heap.size 5 1 v (Q34 ascii s).length (ncells (Q34 ascii s)) ∧ Below w.heap.size w w' := by
  have HQ := Lib.hid (quoted s ascii w hs hfit)
  go_enter Try.func49, Try.ntmps49
  go_wp2_with fail
  refine HQ.out.mono ?_
  rintro e w' ⟨v, rfl, h1, h2⟩
  have H1 := Lib.hid h1
  have H2 := Lib.hid h2
  clear h1 h2
  go_wp2_with fail
  go_returns
  exact ⟨v, rfl, H1.out, H2.out⟩
theorem byt_str (l : List Nat) (h : ∀ b ∈ l, b < 256) (i : Nat) : byt (str l) i = l.getD i 0 := by rw [← getD_nats, nats_str l h]
end Go.Proofs.Ytobhlppdolekoaa.Wtf
