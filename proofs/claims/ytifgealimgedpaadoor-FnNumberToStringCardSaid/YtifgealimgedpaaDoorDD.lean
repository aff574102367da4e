/- The text of a double, by its word. The walk. -/
import Derived.Test.YtifgealimgedpaaDoorDC
import Derived.Test.YtifgealimgedpaaDoorHoist
namespace Go.Proofs.YtifgealimgedpaaDoor.Nats
open Go.RowKit Go.Proofs.YtifgealimgedpaaDoor.Aid Go.Proofs.YtifgealimgedpaaDoor.Runes Go.Proofs.YtifgealimgedpaaDoor.Bytes Go.Proofs.YtifgealimgedpaaDoor.Flo
attribute [local go_sem ↓] Go.wp_at_zero Go.wp_at_succ
set_option linter.unusedVariables false
set_option linter.unusedSimpArgs false
def TextPost (R : Nat) (w : World) (e : Ending) (w' : World) : Prop := Below w.heap.size w w' ∧ ∃ t : ByteArray, e = .returned (.string t) ∧ TextIs R t
set_option maxRecDepth 100000 in
set_option maxHeartbeats 16000000 in
theorem text_fin (R : Nat) (w : World) (h0 : 0 < R) (hR : R < 9218868437227405312) : Calls Tryd.prog 14 #[.int .u64 R] w (TextPost R w) := by
  have hb := callFrom
  have HNN := Lib.hid (fun w => show Calls Tryd.prog 7 #[.float .f64 R] w fun e w' => e = .returned (.bool false) ∧ w' = w from by
    have := isNaN R w
    rwa [decide_eq_false (by unfold rung; omega)] at this)
  have HSH := Lib.hid (shortest R w h0 hR)
  have e1 : IntKind.u64.wrap ((R : Int) * 2) = ((R * 2 : Nat) : Int) := by rw [IntKind.wrap_u64]; omega
  have e2 : (((R * 2 : Nat) : Int) == 0) = false := by rw [beq_eq_false_iff_ne]; omega
  obtain ⟨R2, hR2⟩ : ∃ R2, R2 = R * 2 := ⟨_, rfl⟩
  rw [← hR2] at e1 e2
  have e3 : (R : Int) / 9223372036854775808 = 0 := by omega
  have e4 : ((R : Int) == 9218868437227405312) = false := by rw [beq_eq_false_iff_ne]; omega
  have HR := Lib.hid (And.intro h0 hR)
  clear h0 hR hR2
  go_enter Tryd.func14, Tryd.ntmps14
  go_wp2_with fail
  refine (HNN.out _).mono ?_
  rintro e W ⟨rfl, rfl⟩
  go_wp2_with fail
  refine HSH.out.mono ?_
  rintro e W1 ⟨hb1, n, c, k, z, s, rfl, hl, hh, n0, n1, k1, k17, c0, c1, hbk, hno, hd, hs0, hs4⟩
  have HB1 := Lib.hid hb1
  obtain ⟨n2, hn2⟩ : ∃ n2 : Int, n2 = if k < (Lib.decDigits c).length then n + 1 else n := ⟨_, rfl⟩
  have HW := Lib.hid (show ∀ N, 0 < N → N < 4294967296 → exA R = N * exB R → ∃ m : Nat, n2 = (m : Int) ∧ m ≤ 10 ∧ s.size ≤ m ∧ s ++ zer0 (m - s.size) = ⟨(Lib.decDigits N).toArray⟩ from fun N a1 a2 a3 => by
    obtain ⟨m, b1, b2, b3, b4, b5, b6⟩ := short_whole HR.out.2 a1 a2 a3 hl hh k1 k17 c0 c1 hbk hno hd
    exact ⟨m, by rw [hn2, b3, if_neg (by omega)]; exact b1, b2, b5, b6⟩)
  have m0 : -1100 ≤ n2 := by rw [hn2]; split <;> omega
  have m1 : n2 ≤ 1101 := by rw [hn2]; split <;> omega
  rw [← hn2]
  clear hb1 hl hh n0 n1 k1 k17 c0 c1 hbk hno hd hn2 e1 e2 e3 e4
  obtain ⟨L, hL⟩ : ∃ L, L = s.size := ⟨_, rfl⟩
  have HL := Lib.hid hL
  have l0 : 0 < s.size := hs0
  clear hs0 hL
  have HZ := Lib.hid (fun n w (h : n ≤ 4000) => zeros n w h)
  have HZS := Lib.hid zer0_size
  go_upto_region 11 with fail
  by_cases hc1 : (s.size : Int) ≤ n2 ∧ n2 ≤ 21
  · obtain ⟨q1, q2⟩ := hc1
    obtain ⟨d, hd⟩ : ∃ d : Nat, n2 - (s.size : Int) = (d : Int) := ⟨(n2 - s.size).toNat, by omega⟩
    have HD := Lib.hid hd
    have d21 : d ≤ 21 := by omega
    go_wp2_with fail
    refine (HZ.out (d : Int) _ (by omega)).mono ?_
    rintro e W2 ⟨rfl, rfl⟩
    have hzs := HZS.out d
    rw [Int.toNat_natCast]
    have HTX := Lib.hid (show ∀ N, 0 < N → N < 4294967296 → exA R = N * exB R → s ++ zer0 d = ⟨(Lib.decDigits N).toArray⟩ from fun N a1 a2 a3 => by
      obtain ⟨m, b1, b2, b3, b4⟩ := HW.out N a1 a2 a3
      have : d = m - s.size := by have := HD.out; omega
      rw [this]
      exact b4)
    obtain ⟨Z, hZ⟩ : ∃ Z, Z = zer0 d := ⟨_, rfl⟩
    rw [← hZ] at hzs HTX ⊢
    have zl : Z.size ≤ 21 := by omega
    have hx : s.size + Z.size ≤ 9223372036854775807 := by omega
    clear hZ hzs hd
    go_wp2_with fail
    go_returns
    exact ⟨HB1.out, _, rfl, by rw [ByteArray.size_append]; omega, HTX.out⟩
  · have HNO := Lib.hid (show ∀ N, 0 < N → N < 4294967296 → exA R = N * exB R → False from fun N a1 a2 a3 => by
      obtain ⟨m, b1, b2, b3, b4⟩ := HW.out N a1 a2 a3
      exact hc1 ⟨by omega, by omega⟩)
    have HFIN := Lib.hid (fun (t : ByteArray) (h : t.size ≤ 5000) => show TextIs R t from ⟨h, fun N a1 a2 a3 => absurd (HNO.out N a1 a2 a3) id⟩)
    go_cut [33] (fun bv wx => bv = .bool false ∧ wx = W1)
    case first =>
      by_cases q1 : (s.size : Int) ≤ n2
      · have q2 : ¬ n2 ≤ 21 := fun h => hc1 ⟨q1, h⟩
        go_wp2_with fail
        go_meet
        exact ⟨rfl, rfl⟩
      · go_wp2_with fail
        go_meet
        exact ⟨rfl, rfl⟩
    case rest =>
      obtain ⟨rfl, rfl⟩ := hcut
      by_cases hp : 0 < n2 ∧ n2 ≤ 21
      · obtain ⟨p1, p2⟩ := hp
        obtain ⟨m, rfl⟩ : ∃ m : Nat, n2 = (m : Int) := ⟨n2.toNat, by omega⟩
        have hms : m < s.size := by
          by_cases h : m < s.size
          · exact h
          · exact absurd ⟨by omega, p2⟩ hc1
        have hs1 := slice_to s m (by omega)
        have hs2 := slice_from s m (by omega)
        have z1 : (s.extract 0 m).size ≤ 400 := by rw [ByteArray.size_extract]; omega
        have z2 : (s.extract m s.size).size ≤ 400 := by rw [ByteArray.size_extract]; omega
        obtain ⟨A, hA⟩ : ∃ A, A = s.extract 0 m := ⟨_, rfl⟩
        obtain ⟨B, hB⟩ : ∃ B, B = s.extract m s.size := ⟨_, rfl⟩
        rw [← hA] at hs1 z1
        rw [← hB] at hs2 z2
        have x1 : A.size + 1 ≤ 9223372036854775807 := by omega
        have x2 : A.size + 1 + B.size ≤ 9223372036854775807 := by omega
        have x3 : (A ++ ⟨#[46]⟩).size + B.size ≤ 9223372036854775807 := by rw [ByteArray.size_append]; exact x2
        clear hA hB hc1
        go_wp2_with fail
        go_quiet (fail)
        go_wp2_with fail
        go_returns
        exact ⟨below_drewN HB1.out _, _, rfl, HFIN.out _ (by simp only [ByteArray.size_append]; show A.size + 1 + B.size ≤ 5000; omega)⟩
      · have HP := Lib.hid hp
        go_upto_region 13 with fail
        go_cut [47] (fun bv wx => bv = .bool false ∧ wx = wc)
        case first =>
          by_cases q1 : 0 < n2
          · have q2 : ¬ n2 ≤ 21 := fun h => hp ⟨q1, h⟩
            clear hp hc1
            go_wp2_with fail
            go_meet
            exact ⟨rfl, rfl⟩
          · clear hp hc1
            go_wp2_with fail
            go_meet
            exact ⟨rfl, rfl⟩
        case rest =>
          obtain ⟨rfl, rfl⟩ := hcut
          clear hp hc1
          by_cases hq : -6 < n2 ∧ n2 ≤ 0
          · obtain ⟨p1, p2⟩ := hq
            obtain ⟨d, hd⟩ : ∃ d : Nat, -n2 = (d : Int) := ⟨(-n2).toNat, by omega⟩
            have d6 : d ≤ 6 := by omega
            have hzs := HZS.out d
            have HZD := Lib.hid (fun w => show Calls Tryd.prog 21 #[.int .i64 (d : Int)] w fun e w' => e = .returned (.string (zer0 d)) ∧ w' = w from HZ.out (d : Int) w (by omega))
            obtain ⟨Z, hZ⟩ : ∃ Z, Z = zer0 d := ⟨_, rfl⟩
            rw [← hZ] at hzs HZD
            have zl : Z.size ≤ 6 := by omega
            have x1 : 2 + Z.size ≤ 9223372036854775807 := by omega
            have x2 : 2 + Z.size + s.size ≤ 9223372036854775807 := by omega
            clear hZ hzs
            go_wp2_with fail
            refine (HZD.out _).mono ?_
            rintro e W2 ⟨rfl, rfl⟩
            go_wp2_with fail
            go_returns
            exact ⟨HB1.out, _, rfl, HFIN.out _ (by simp only [ByteArray.size_append]; show 2 + Z.size + s.size ≤ 5000; omega)⟩
          · go_upto_region 15 with fail
            go_cut [62] (fun bv wx => bv = .bool false ∧ wx = wc)
            case first =>
              by_cases q1 : -6 < n2
              · have q2 : ¬ n2 ≤ 0 := fun h => hq ⟨q1, h⟩
                clear hq
                go_wp2_with fail
                go_meet
                exact ⟨rfl, rfl⟩
              · clear hq
                go_wp2_with fail
                go_meet
                exact ⟨rfl, rfl⟩
            case rest =>
              obtain ⟨rfl, rfl⟩ := hcut
              clear hq
              go_upto_if 76 with fail
              go_cut [6] (fun gv wx => (∃ g : ByteArray, gv = .string g ∧ g.size ≤ 1) ∧ wx = wc)
              case first =>
                by_cases q1 : n2 < 1
                · go_wp2_with fail
                  go_meet
                  exact ⟨⟨_, rfl, by decide⟩, rfl⟩
                · go_wp2_with fail
                  go_meet
                  exact ⟨⟨_, rfl, by decide⟩, rfl⟩
              case rest =>
                obtain ⟨⟨g, rfl, hg⟩, rfl⟩ := hcut
                have HIT := Lib.hid (fun w => intText (n2 - 1) w (by omega) (by omega))
                by_cases hk1 : s.size = 1
                · have t1 : ((s.size : Int) == 1) = true := by rw [hk1]; rfl
                  have x1 : s.size + 1 ≤ 9223372036854775807 := by omega
                  have x2 : s.size + 1 + g.size ≤ 9223372036854775807 := by omega
                  clear hk1
                  go_wp2_with fail
                  refine (HIT.out _).mono ?_
                  rintro e W2 ⟨hb2, t, rfl, ht⟩
                  have HB2 := Lib.hid (HB1.out.trans (hb2.mono HB1.out.size))
                  have x3 : s.size + 1 + g.size + t.size ≤ 9223372036854775807 := by omega
                  clear hb2
                  go_wp2_with fail
                  go_returns
                  exact ⟨HB2.out, _, rfl, HFIN.out _ (by simp only [ByteArray.size_append]; show s.size + 1 + g.size + t.size ≤ 5000; omega)⟩
                · have t1 : ((s.size : Int) == 1) = false := by rw [beq_eq_false_iff_ne]; omega
                  have hs1 : ∀ w, (Instr.slice 9 (.string s) none (some (.int .i64 1)) none).run Tryd.prog w = .ok (.string (s.extract 0 1)) w := fun w => slice_to s 1 (by omega) w
                  have hs2 : ∀ w, (Instr.slice 9 (.string s) (some (.int .i64 1)) none none).run Tryd.prog w = .ok (.string (s.extract 1 s.size)) w := fun w => slice_from s 1 (by omega) w
                  have z1 : (s.extract 0 1).size ≤ 400 := by rw [ByteArray.size_extract]; omega
                  have z2 : (s.extract 1 s.size).size ≤ 400 := by rw [ByteArray.size_extract]; omega
                  obtain ⟨A, hA⟩ : ∃ A, A = s.extract 0 1 := ⟨_, rfl⟩
                  obtain ⟨B, hB⟩ : ∃ B, B = s.extract 1 s.size := ⟨_, rfl⟩
                  rw [← hA] at hs1 z1
                  rw [← hB] at hs2 z2
                  have x1 : A.size + 1 ≤ 9223372036854775807 := by omega
                  have x2 : A.size + 1 + B.size ≤ 9223372036854775807 := by omega
                  have x3 : A.size + 1 + B.size + 1 ≤ 9223372036854775807 := by omega
                  have x4 : A.size + 1 + B.size + 1 + g.size ≤ 9223372036854775807 := by omega
                  clear hA hB hk1
                  go_wp2_with fail
                  refine Hoist.start (S := fun _ _ => True) (by kernel_rfl) ?_
                  refine Hoist.takeP (i := 0) (v := ?v0) rfl (by kernel_rfl) (by kernel_rfl) (by kernel_rfl) (fun _ _ _ h => h) ⟨by rfl, ?hy0⟩ ?rest0
                  case hy0 => intro w'; go_simp; first | rfl | rw [if_neg (by omega)]
                  simp only [Act.put, List.setIfInBounds_toArray, List.set_cons_zero, List.set_cons_succ]
                  refine Hoist.takeP (i := 1) (v := ?v1) rfl (by kernel_rfl) (by kernel_rfl) (by kernel_rfl) (fun _ _ _ h => h) ⟨by rfl, ?hy1⟩ ?rest1
                  case hy1 => intro w'; go_simp; first | rfl | rw [if_neg (by omega)]
                  simp only [Act.put, List.setIfInBounds_toArray, List.set_cons_zero, List.set_cons_succ]
                  refine Hoist.takeP (i := 2) (v := ?v2) rfl (by kernel_rfl) (by kernel_rfl) (by kernel_rfl) (fun _ _ _ h => h) ⟨by rfl, ?hy2⟩ ?rest2
                  case hy2 => intro w'; go_simp; first | rfl | rw [if_neg (by omega)]
                  simp only [Act.put, List.setIfInBounds_toArray, List.set_cons_zero, List.set_cons_succ]
                  refine Hoist.takeP (i := 3) (v := ?v3) rfl (by kernel_rfl) (by kernel_rfl) (by kernel_rfl) (fun _ _ _ h => h) ⟨by rfl, ?hy3⟩ ?rest3
                  case hy3 => intro w'; go_simp; first | rfl | rw [if_neg (by omega)]
                  simp only [Act.put, List.setIfInBounds_toArray, List.set_cons_zero, List.set_cons_succ]
                  refine Hoist.takeP (i := 4) (v := ?v4) rfl (by kernel_rfl) (by kernel_rfl) (by kernel_rfl) (fun _ _ _ h => h) ⟨by rfl, ?hy4⟩ ?rest4
                  case hy4 => intro w'; go_simp; first | rfl | rw [if_neg (by omega)]
                  simp only [Act.put, List.setIfInBounds_toArray, List.set_cons_zero, List.set_cons_succ]
                  refine Hoist.takeP (i := 5) (v := ?v5) rfl (by kernel_rfl) (by kernel_rfl) (by kernel_rfl) (fun _ _ _ h => h) ⟨by rfl, ?hy5⟩ ?rest5
                  case hy5 => intro w'; go_simp; first | rfl | rw [if_neg (by omega)]
                  simp only [Act.put, List.setIfInBounds_toArray, List.set_cons_zero, List.set_cons_succ]
                  refine Hoist.takeP (i := 6) (v := ?v6) rfl (by kernel_rfl) (by kernel_rfl) (by kernel_rfl) (fun _ _ _ h => h) ⟨by rfl, ?hy6⟩ ?rest6
                  case hy6 => intro w'; go_simp; first | rfl | rw [if_neg (by omega)]
                  simp only [Act.put, List.setIfInBounds_toArray, List.set_cons_zero, List.set_cons_succ]
                  refine Hoist.takeP (i := 7) (v := ?v7) rfl (by kernel_rfl) (by kernel_rfl) (by kernel_rfl) (fun _ _ _ h => h) ⟨by rfl, ?hy7⟩ ?rest7
                  case hy7 => intro w'; go_simp; first | rfl | rw [if_neg (by omega)]
                  simp only [Act.put, List.setIfInBounds_toArray, List.set_cons_zero, List.set_cons_succ]
                  refine Hoist.takeP (i := 8) (v := ?v8) rfl (by kernel_rfl) (by kernel_rfl) (by kernel_rfl) (fun _ _ _ h => h) ⟨by rfl, ?hy8⟩ ?rest8
                  case hy8 => intro w'; go_simp; first | rfl | rw [if_neg (by omega)]
                  simp only [Act.put, List.setIfInBounds_toArray, List.set_cons_zero, List.set_cons_succ]
                  refine Hoist.takeP (i := 9) (v := ?v9) rfl (by kernel_rfl) (by kernel_rfl) (by kernel_rfl) (fun _ _ _ h => h) ⟨by rfl, ?hy9⟩ ?rest9
                  case hy9 => intro w'; go_simp; first | rfl | rw [if_neg (by omega)]
                  simp only [Act.put, List.setIfInBounds_toArray, List.set_cons_zero, List.set_cons_succ]
                  refine Hoist.takeP (i := 10) (v := ?v10) rfl (by kernel_rfl) (by kernel_rfl) (by kernel_rfl) (fun _ _ _ h => h) ⟨by rfl, ?hy10⟩ ?rest10
                  case hy10 => intro w'; go_simp; first | rfl | rw [if_neg (by omega)]
                  simp only [Act.put, List.setIfInBounds_toArray, List.set_cons_zero, List.set_cons_succ]
                  refine Hoist.only (i := 11) rfl (by kernel_rfl) ?_
                  intro K' hK
                  go_simp
                  rw [show IntKind.i64.wrap (n2 - 1) = n2 - 1 from IntWalk.i64_in _ (by omega)]
                  refine (HIT.out _).mono ?_
                  rintro e W2 ⟨hb2, t, rfl, ht⟩
                  have HB2 := Lib.hid (HB1.out.drew.trans (hb2.mono HB1.out.drew.size))
                  have x5 : ¬ 9223372036854775807 < A.size + 1 + B.size + 1 + g.size + t.size := by omega
                  clear hb2
                  refine hK _ _ trivial ?_
                  clear hK K'
                  refine Hoist.only (i := 12) rfl (by kernel_rfl) ?_
                  intro K' hK
                  go_simp
                  refine hK _ _ trivial ?_
                  clear hK K'
                  refine Hoist.only (i := 13) rfl (by kernel_rfl) ?_
                  intro K' hK
                  go_simp
                  refine hK _ _ trivial ?_
                  clear hK K'
                  refine Hoist.over (by kernel_rfl) ?_ _
                  go_wp2_with fail
                  go_returns
                  exact ⟨HB2.out, _, rfl, HFIN.out _ (by simp only [ByteArray.size_append]; show A.size + 1 + B.size + 1 + g.size + t.size ≤ 5000; omega)⟩
end Go.Proofs.YtifgealimgedpaaDoor.Nats
