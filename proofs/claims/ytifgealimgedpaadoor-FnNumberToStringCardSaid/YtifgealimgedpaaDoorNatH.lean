/- Whole numbers of any size: less another one. The walk. -/
import Derived.Test.YtifgealimgedpaaDoorNatG
namespace Go.Proofs.YtifgealimgedpaaDoor.Nats
open Go.RowKit Go.Proofs.YtifgealimgedpaaDoor.Aid
attribute [local go_sem ↓] Go.wp_at_zero Go.wp_at_succ
set_option linter.unusedVariables false
/-- A row, 0 behind its end. -/
def pad (g : Nat → Nat) (m : Nat) : Nat → Nat := fun i => if i < m then g i else 0
theorem val_pad (g : Nat → Nat) (m n : Nat) (h : m ≤ n) : val (pad g m) n = val g m := by
  rw [val_trim (pad g m) n m h fun j h1 h2 => if_neg (by omega)]
  exact val_congr _ _ _ fun i hi => if_pos hi
/-- A round of a difference. -/
theorem sub_step (f gg : Nat → Nat) (zs : List Nat) (j r r' D : Nat) (hl : zs.length = j) (h : val f j + r * 2 ^ (32 * j) = lval zs + val gg j) (hd : f j + r' * 4294967296 = D + (r + gg j)) :
    val f (j + 1) + r' * 2 ^ (32 * (j + 1)) = lval (zs ++ [D]) + val gg (j + 1) := by
  rw [lval_snoc, hl, val, val, show 32 * (j + 1) = 32 + 32 * j by omega, Nat.pow_add 2 32, show (2 : Nat) ^ 32 = 4294967296 by decide, ← Nat.mul_assoc]
  obtain ⟨B, hB⟩ : ∃ B, B = 2 ^ (32 * j) := ⟨_, rfl⟩
  rw [← hB] at h ⊢
  have e := congrArg (· * B) hd
  simp only [Nat.add_mul] at e
  omega
/-- At the end nothing is borrowed. -/
theorem sub_end (f gg : Nat → Nat) (zs : List Nat) (n r : Nat) (hl : zs.length = n) (hs : Small zs) (h : val f n + r * 2 ^ (32 * n) = lval zs + val gg n) (hle : val gg n ≤ val f n) : lval zs = val f n - val gg n := by
  have hlt : lval zs < 2 ^ (32 * n) := by
    rw [lval, hl]
    refine val_lt _ _ fun i hi => ?_
    rw [List.getD_eq_getElem?_getD, List.getElem?_eq_getElem (by omega), Option.getD_some]
    exact hs _ (List.getElem_mem _)
  cases r with
  | zero => omega
  | succ r =>
    have h1 := Nat.mul_le_mul_right (2 ^ (32 * n)) (show 1 ≤ r + 1 by omega)
    omega
set_option maxRecDepth 100000 in
set_option maxHeartbeats 8000000 in
theorem natSub (A B : Option Addr) (n c m d : Nat) (f g : Nat → Nat) (w : World) (h : NatAt w A n c f) (h' : NatAt w B m d g) (hn : n < 1000000) (hf : ∀ i, i < n → f i < 4294967296) (hg : ∀ i, i < m → g i < 4294967296) (hmn : m ≤ n) (hle : val g m ≤ val f n) :
    Calls Tryd.prog 44 #[.slice A n c, .slice B m d] w (Gives (val f n - val g m) w) := by
  obtain ⟨i0, hi, hz0, hz1, hz2⟩ := info_parts info28
  have HA := Lib.hid h
  have HB := Lib.hid h'
  have HF := Lib.hid hf
  have HG := Lib.hid hg
  have a1 := h.1
  have b1 := h'.1
  have b2 := h'.2.1
  have HP := Lib.hid (val_pad g m n hmn)
  have HLE := Lib.hid (show val (pad g m) n ≤ val f n by rw [HP.out]; exact hle)
  have HPD := Lib.hid (show ∀ i, pad g m i = if i < m then g i else 0 from fun _ => rfl)
  obtain ⟨gg, hgg⟩ : ∃ gg, gg = pad g m := ⟨_, rfl⟩
  rw [← hgg] at HP HLE HPD
  clear h h' hf hg hmn hle hgg
  go_enter Tryd.func44, Tryd.ntmps44
  go_wp2_with fail
  go_loopw [5, 6, 7] (fun out bv iv wr => ∃ (r : Nat) (zs : List Nat), bv = .int .u64 r ∧ r ≤ 1 ∧ iv = .int .i64 zs.length ∧ zs.length ≤ n ∧ Small zs ∧ val f zs.length + r * 2 ^ (32 * zs.length) = lval zs + val gg zs.length ∧ wr.ownsRow w.heap.size 28 1 out zs.length (lcells zs) ∧ Below w.heap.size w wr) (fun _ _ iv _ => n - (intOf iv).toNat)
  case atStart => exact ⟨0, [], rfl, by omega, rfl, by simp, fun z hz => by simp at hz, by simp [lval, val], own_nil _ _ _ _, Below.refl _ _⟩
  case round =>
    obtain ⟨r, zs, rfl, hr, rfl, hl, hsm, hv, hown, hbel⟩ := hrel
    have HV := Lib.hid hv
    clear hv
    have HS := Lib.hid hsm
    have HO := Lib.hid hown
    have HW := Lib.hid hbel
    clear hsm hown hbel
    obtain ⟨j, hj⟩ : ∃ j, j = zs.length := ⟨_, rfl⟩
    rw [← hj] at hl HO HV ⊢
    by_cases hlt : j < n
    · obtain ⟨b, o, rfl, hlb, hc⟩ := (HA.out.below HW.out).2.2 j hlt
      replace hc : wr.cell? ⟨b, o + j, none⟩ = some (.int .u64 (f j : Int)) := hc
      have hfj := HF.out j hlt
      obtain ⟨x, hx⟩ : ∃ x, x = f j := ⟨_, rfl⟩
      rw [← hx] at hc hfj
      have jn : (j : Int) < (n : Int) := by omega
      have hj6 : j < 1000000 := by omega
      have HJ := Lib.hid hj
      have HLT := Lib.hid hlt
      have hm1 : j + 1 ≤ maxLen := by unfold maxLen; omega
      have hm2 : (j + 1) * 8 ≤ 140737488355328 := by omega
      have HX := Lib.hid hx
      clear hj hlb hlt hx
      by_cases hjm : j < m
      · obtain ⟨b', o', rfl, hlb', hc'⟩ := (HB.out.below HW.out).2.2 j hjm
        replace hc' : wr.cell? ⟨b', o' + j, none⟩ = some (.int .u64 (g j : Int)) := hc'
        have hgj := HG.out j hjm
        obtain ⟨y, hy⟩ : ∃ y, y = g j := ⟨_, rfl⟩
        rw [← hy] at hc' hgj
        have jm : (j : Int) < (m : Int) := by omega
        obtain ⟨T, hT⟩ : ∃ T, T = r + y := ⟨_, rfl⟩
        have e3 : (r : Int) + (y : Int) = (T : Int) := by omega
        have tl : T ≤ 4294967296 := by omega
        have HT := Lib.hid (show T = r + gg j by rw [HPD.out, if_pos hjm, hT, hy])
        clear hlb' hy hjm hT
        by_cases hxt : x < T
        · have t1 : (x : Int) < (T : Int) := by omega
          obtain ⟨D, hD⟩ : ∃ D, D = x + 4294967296 - T := ⟨_, rfl⟩
          have e4 : IntKind.u64.wrap ((x : Int) + 4294967296) = (x : Int) + 4294967296 := by rw [IntKind.wrap_u64]; omega
          have e5 : (x : Int) + 4294967296 - (T : Int) = (D : Int) := by omega
          have dl : D < 4294967296 := by omega
          have HD := Lib.hid dl
          have HSTEP := Lib.hid (sub_step f gg zs j r 1 D HJ.out.symm HV.out (by have e8 := HT.out; have e9 := HX.out; rw [← e9, ← e8]; omega))
          clear hD hxt e4
          go_wp2_with (at_builtin; refine wpList_append_one rfl _ _ 47 rfl w.heap.size 28 i0 (.int .u64 0) 8 Tryd.underlying47 hi hz0 hz1 hz2 rfl _ _ _ rfl HO.out _ rfl rfl hm1 hm2 HW.out.size ?_; intro v1 w4 hown1 hgrow1 _)
          have HW4 := Lib.hid (HW.out.grown hgrow1 HW.out.size (fun k hk => own_below HO.out k hk))
          rw [lcells_snoc] at hown1
          have HO4 := Lib.hid hown1
          clear hown1 hgrow1
          go_wp2_with fail
          go_roundw
          case rel =>
            refine ⟨1, zs ++ [D], rfl, by omega, ?_, ?_, ?_, ?_, ?_, HW4.out⟩
            · rw [List.length_append, ← HJ.out]; rfl
            · rw [List.length_append, ← HJ.out]; have := HLT.out; simp; omega
            · intro z hz
              rcases List.mem_append.1 hz with hz | hz
              · exact HS.out z hz
              · simp at hz
                rw [hz]
                exact HD.out
            · rw [List.length_append, ← HJ.out]
              exact HSTEP.out
            · rw [List.length_append, ← HJ.out]
              exact HO4.out
          case measure => simp [intOf]; omega
        · have t1 : ¬ (x : Int) < (T : Int) := by omega
          obtain ⟨D, hD⟩ : ∃ D, D = x - T := ⟨_, rfl⟩
          have e5 : (x : Int) - (T : Int) = (D : Int) := by omega
          have dl : D < 4294967296 := by omega
          have HD := Lib.hid dl
          have HSTEP := Lib.hid (sub_step f gg zs j r 0 D HJ.out.symm HV.out (by have e8 := HT.out; have e9 := HX.out; rw [← e9, ← e8]; omega))
          clear hD hxt
          go_wp2_with (at_builtin; refine wpList_append_one rfl _ _ 47 rfl w.heap.size 28 i0 (.int .u64 0) 8 Tryd.underlying47 hi hz0 hz1 hz2 rfl _ _ _ rfl HO.out _ rfl rfl hm1 hm2 HW.out.size ?_; intro v1 w4 hown1 hgrow1 _)
          have HW4 := Lib.hid (HW.out.grown hgrow1 HW.out.size (fun k hk => own_below HO.out k hk))
          rw [lcells_snoc] at hown1
          have HO4 := Lib.hid hown1
          clear hown1 hgrow1
          go_wp2_with fail
          go_roundw
          case rel =>
            refine ⟨0, zs ++ [D], rfl, by omega, ?_, ?_, ?_, ?_, ?_, HW4.out⟩
            · rw [List.length_append, ← HJ.out]; rfl
            · rw [List.length_append, ← HJ.out]; have := HLT.out; simp; omega
            · intro z hz
              rcases List.mem_append.1 hz with hz | hz
              · exact HS.out z hz
              · simp at hz
                rw [hz]
                exact HD.out
            · rw [List.length_append, ← HJ.out]
              exact HSTEP.out
            · rw [List.length_append, ← HJ.out]
              exact HO4.out
          case measure => simp [intOf]; omega
      · have jm : ¬ (j : Int) < (m : Int) := by omega
        obtain ⟨T, hT⟩ : ∃ T, T = r := ⟨_, rfl⟩
        have tl : T ≤ 4294967296 := by omega
        have HT := Lib.hid (show T = r + gg j by rw [HPD.out, if_neg hjm, hT]; rfl)
        have HR := Lib.hid hT
        clear hjm
        subst hT
        by_cases hxt : x < T
        · have t1 : (x : Int) < (T : Int) := by omega
          obtain ⟨D, hD⟩ : ∃ D, D = x + 4294967296 - T := ⟨_, rfl⟩
          have e4 : IntKind.u64.wrap ((x : Int) + 4294967296) = (x : Int) + 4294967296 := by rw [IntKind.wrap_u64]; omega
          have e5 : (x : Int) + 4294967296 - (T : Int) = (D : Int) := by omega
          have dl : D < 4294967296 := by omega
          have HD := Lib.hid dl
          have HSTEP := Lib.hid (sub_step f gg zs j _ 1 D HJ.out.symm HV.out (by have e8 := HT.out; have e9 := HX.out; rw [← e9, ← e8]; omega))
          clear hD hxt e4
          go_wp2_with (at_builtin; refine wpList_append_one rfl _ _ 47 rfl w.heap.size 28 i0 (.int .u64 0) 8 Tryd.underlying47 hi hz0 hz1 hz2 rfl _ _ _ rfl HO.out _ rfl rfl hm1 hm2 HW.out.size ?_; intro v1 w4 hown1 hgrow1 _)
          have HW4 := Lib.hid (HW.out.grown hgrow1 HW.out.size (fun k hk => own_below HO.out k hk))
          rw [lcells_snoc] at hown1
          have HO4 := Lib.hid hown1
          clear hown1 hgrow1
          go_wp2_with fail
          go_roundw
          case rel =>
            refine ⟨1, zs ++ [D], rfl, by omega, ?_, ?_, ?_, ?_, ?_, HW4.out⟩
            · rw [List.length_append, ← HJ.out]; rfl
            · rw [List.length_append, ← HJ.out]; have := HLT.out; simp; omega
            · intro z hz
              rcases List.mem_append.1 hz with hz | hz
              · exact HS.out z hz
              · simp at hz
                rw [hz]
                exact HD.out
            · rw [List.length_append, ← HJ.out]
              exact HSTEP.out
            · rw [List.length_append, ← HJ.out]
              exact HO4.out
          case measure => simp [intOf]; omega
        · have t1 : ¬ (x : Int) < (T : Int) := by omega
          obtain ⟨D, hD⟩ : ∃ D, D = x - T := ⟨_, rfl⟩
          have e5 : (x : Int) - (T : Int) = (D : Int) := by omega
          have dl : D < 4294967296 := by omega
          have HD := Lib.hid dl
          have HSTEP := Lib.hid (sub_step f gg zs j _ 0 D HJ.out.symm HV.out (by have e8 := HT.out; have e9 := HX.out; rw [← e9, ← e8]; omega))
          clear hD hxt
          go_wp2_with (at_builtin; refine wpList_append_one rfl _ _ 47 rfl w.heap.size 28 i0 (.int .u64 0) 8 Tryd.underlying47 hi hz0 hz1 hz2 rfl _ _ _ rfl HO.out _ rfl rfl hm1 hm2 HW.out.size ?_; intro v1 w4 hown1 hgrow1 _)
          have HW4 := Lib.hid (HW.out.grown hgrow1 HW.out.size (fun k hk => own_below HO.out k hk))
          rw [lcells_snoc] at hown1
          have HO4 := Lib.hid hown1
          clear hown1 hgrow1
          go_wp2_with fail
          go_roundw
          case rel =>
            refine ⟨0, zs ++ [D], rfl, by omega, ?_, ?_, ?_, ?_, ?_, HW4.out⟩
            · rw [List.length_append, ← HJ.out]; rfl
            · rw [List.length_append, ← HJ.out]; have := HLT.out; simp; omega
            · intro z hz
              rcases List.mem_append.1 hz with hz | hz
              · exact HS.out z hz
              · simp at hz
                rw [hz]
                exact HD.out
            · rw [List.length_append, ← HJ.out]
              exact HSTEP.out
            · rw [List.length_append, ← HJ.out]
              exact HO4.out
          case measure => simp [intOf]; omega
    · have jn : ¬ (j : Int) < (n : Int) := by omega
      have hj6 : j < 1000000 := by omega
      obtain ⟨A1, c1, hv, hnat⟩ := own_nat (zs := zs) (by rw [← hj]; exact HO.out) (by omega)
      have hsm : ∀ i, i < zs.length → zs.getD i 0 < 4294967296 := fun i hi => by
        rw [List.getD_eq_getElem?_getD, List.getElem?_eq_getElem hi, Option.getD_some]
        exact HS.out _ (List.getElem_mem hi)
      rw [← hj] at hv hnat hsm
      subst hv
      have hN := hnat (own_cap HO.out)
      have hval : val (fun i => zs.getD i 0) j = val f n - val g m := by
        have h1 := sub_end f gg zs n r (by omega) HS.out (by have := HV.out; rw [show j = n by omega] at this; exact this) HLE.out
        rw [HP.out, lval, ← hj] at h1
        exact h1
      have HT := Lib.hid (fun w (h : NatAt w A1 j c1 fun i => zs.getD i 0) => natTrim A1 j c1 (fun i => zs.getD i 0) w h)
      obtain ⟨g', hg'⟩ : ∃ g' : Nat → Nat, g' = fun i => zs.getD i 0 := ⟨_, rfl⟩
      rw [← hg'] at HT hN hval
      have HVL := Lib.hid hval
      have HSM := Lib.hid (show ∀ i, i < j → g' i < 4294967296 by rw [hg']; exact hsm)
      have HN := Lib.hid hN
      have HL := Lib.hid hl
      clear hnat hsm hg' hN hlt hj hval
      go_wp2_with fail
      refine (HT.out _ HN.out).mono ?_
      rintro e w' ⟨rfl, k, hk, rfl⟩
      have HK := Lib.hid hk
      clear hk
      go_wp2_with fail
      go_returns
      have h1 := HK.out.1
      have h2 := HL.out
      exact ⟨HW.out, _, rfl, A1, k, c1, g', rfl, ⟨by have := HN.out.1; omega, by have := HN.out.2.1; omega, fun i hi => HN.out.2.2 i (by omega)⟩, fun i hi => HSM.out i (by omega), HK.out.2.2, by rw [← HVL.out]; exact (val_trim g' j k h1 HK.out.2.1).symm⟩
theorem sub_walk (u v : Value) (U V : Nat) (w : World) (h : Num w u U) (h' : Num w v V) (hU : blen U < 31000000) (hle : V ≤ U) : Calls Tryd.prog 44 #[u, v] w (Gives (U - V) w) := by
  obtain ⟨A, n, c, f, rfl, a1, a2, a3, rfl⟩ := h
  obtain ⟨B, m, d, g, rfl, b1, b2, b3, rfl⟩ := h'
  have hl := limbs a2 a3 rfl
  have hm := limbs b2 b3 rfl
  have hmn : m ≤ n := by
    by_cases hc : n < m
    · have := val_len f g n m a2 hc (b3 (by omega))
      omega
    · omega
  exact natSub A B n c m d f g w a1 b1 (by omega) a2 b2 hmn hle
end Go.Proofs.YtifgealimgedpaaDoor.Nats
