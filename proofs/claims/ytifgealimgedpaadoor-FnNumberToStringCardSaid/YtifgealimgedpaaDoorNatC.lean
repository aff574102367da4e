/- Whole numbers of any size: a times m and one more. The walk. -/
import Derived.Test.YtifgealimgedpaaDoorNatB
namespace Go.Proofs.YtifgealimgedpaaDoor.Nats
open Go.RowKit Go.Proofs.YtifgealimgedpaaDoor.Aid
attribute [local go_sem ↓] Go.wp_at_zero Go.wp_at_succ
set_option linter.unusedVariables false
/-- Limbs, as a slice's cells. -/
def lcells (zs : List Nat) : List Value := zs.map fun (z : Nat) => .int .u64 (z : Int)
def Small (zs : List Nat) : Prop := ∀ z ∈ zs, z < 4294967296
theorem own_nat {w : World} {base : Nat} {v : Value} {zs : List Nat} (h : w.ownsRow base 28 1 v zs.length (lcells zs)) (hl : zs.length ≤ 1000000) : ∃ A c, v = .slice A zs.length c ∧ (zs.length ≤ c → NatAt w A zs.length c fun i => zs.getD i 0) := by
  obtain ⟨A, c, rfl, _⟩ := own_form h
  refine ⟨A, c, rfl, fun hc => ⟨hc, hl, Reads.of_own h fun i hi => ?_⟩⟩
  simp [lcells, List.getD_eq_getElem?_getD, List.getElem?_eq_getElem hi]
theorem own_cap {w : World} {base : Nat} {A : Option Addr} {n c : Nat} {xs : List Value} (h : w.ownsRow base 28 1 (.slice A n c) n xs) : n ≤ c := by
  rcases h.2 with ⟨h1, _⟩ | ⟨g, cap, cur, h1, _, _, h3, h4, h5, h6⟩
  · injection h1 with _ h1 h2
    omega
  · injection h1 with _ h1 h2
    subst h2
    omega
theorem info28 : (Tryd.prog.info? 28).map (fun i => (i.zero, i.size, i.bytes)) = some (some (.int .u64 0), 1, 8) := by kernel_rfl
theorem and32 (x : Nat) (h : x < 18446744073709551616) : bits .and .u64 (x : Int) 4294967295 = ((x % 4294967296 : Nat) : Int) := by
  have h1 := u64_and_nat x 4294967295 h (by omega)
  rw [show ((4294967295 : Nat) : Int) = 4294967295 from rfl] at h1
  rw [h1, show 4294967295 = 2 ^ 32 - 1 by decide, Nat.and_two_pow_sub_one_eq_mod]
theorem lcells_snoc (zs : List Nat) (z : Nat) : lcells zs ++ [.int .u64 (z : Int)] = lcells (zs ++ [z]) := by simp [lcells]
set_option maxRecDepth 100000 in
set_option maxHeartbeats 4000000 in
theorem natTimes (A : Option Addr) (n c : Nat) (f : Nat → Nat) (m r : Nat) (w : World) (h : NatAt w A n c f) (hn : n < 1000000) (hf : ∀ i, i < n → f i < 4294967296) (hm : m < 4294967296) (hr : r < 4294967296) :
    Calls Tryd.prog 42 #[.slice A n c, .int .u64 m, .int .u64 r] w (Gives (val f n * m + r) w) := by
  obtain ⟨i0, hi, hz0, hz1, hz2⟩ := info_parts info28
  have HA := Lib.hid h
  have HF := Lib.hid hf
  have HR := Lib.hid hr
  have hnc := h.1
  clear h hf hr
  go_enter Tryd.func42, Tryd.ntmps42
  go_wp2_with fail
  go_loopw [2, 7, 8] (fun mv out iv wr => ∃ (x : Nat) (zs : List Nat), mv = .int .u64 x ∧ x < 4294967296 ∧ iv = .int .i64 zs.length ∧ zs.length ≤ n ∧ Small zs ∧ lval zs + x * 2 ^ (32 * zs.length) = val f zs.length * m + r ∧ wr.ownsRow w.heap.size 28 1 out zs.length (lcells zs) ∧ Below w.heap.size w wr) (fun _ _ iv _ => n - (intOf iv).toNat)
  case atStart => exact ⟨r, [], rfl, HR.out, rfl, by simp, fun z hz => by simp at hz, by simp [lval, val], own_nil _ _ _ _, Below.refl _ _⟩
  case round =>
    obtain ⟨x, zs, rfl, hx, rfl, hl, hsm, hv, hown, hbel⟩ := hrel
    have HV := Lib.hid hv
    clear hv
    have HS := Lib.hid hsm
    have HO := Lib.hid hown
    have HB := Lib.hid hbel
    clear hsm hown hbel
    obtain ⟨j, hj⟩ : ∃ j, j = zs.length := ⟨_, rfl⟩
    rw [← hj] at hl HO HV ⊢
    by_cases hlt : j < n
    · obtain ⟨b, o, rfl, hlb, hc⟩ := (HA.out.below HB.out).2.2 j hlt
      replace hc : wr.cell? ⟨b, o + j, none⟩ = some (.int .u64 (f j : Int)) := hc
      have hfj := HF.out j hlt
      obtain ⟨y, hy⟩ : ∃ y, y = f j := ⟨_, rfl⟩
      rw [← hy] at hc hfj
      have hP : y * m ≤ 4294967295 * 4294967295 := Nat.mul_le_mul (by omega) (by omega)
      obtain ⟨P, hPe⟩ : ∃ P, P = y * m := ⟨_, rfl⟩
      rw [← hPe] at hP
      have e0 : (y : Int) * (m : Int) = (P : Int) := by rw [hPe]; norm_cast
      have e1 : IntKind.u64.wrap (P : Int) = (P : Int) := by rw [IntKind.wrap_u64]; omega
      obtain ⟨S, hS⟩ : ∃ S, S = x + P := ⟨_, rfl⟩
      have e2 : IntKind.u64.wrap ((x : Int) + (P : Int)) = (S : Int) := by rw [IntKind.wrap_u64]; omega
      have e3 := and32 S (by omega)
      have sl : S < 18446744073709551616 := by omega
      have jn : (j : Int) < (n : Int) := by omega
      have hj6 : j < 1000000 := by omega
      have HJ := Lib.hid hj
      have HSTEP := Lib.hid (carry_step zs j S (val f (j + 1) * m + r) hj.symm (by
        have e7 : f j * 2 ^ (32 * j) * m = P * 2 ^ (32 * j) := by rw [hPe, hy, Nat.mul_right_comm]
        have e8 := HV.out
        rw [val, Nat.add_mul, e7, hS, Nat.add_mul]
        omega))
      clear hj hy hPe hS hfj hlb hlt
      have e5 : (((S % 4294967296 : Nat) : Int)) = ((S % 4294967296 : Nat) : Int) := rfl
      obtain ⟨L, hL⟩ : ∃ L, L = S % 4294967296 := ⟨_, rfl⟩
      rw [← hL] at e3 HSTEP
      have hm1 : j + 1 ≤ maxLen := by unfold maxLen; omega
      have hm2 : (j + 1) * 8 ≤ 140737488355328 := by omega
      have HL := Lib.hid (show L < 4294967296 by omega)
      clear e5 hL
      go_wp2_with (at_builtin; refine wpList_append_one rfl _ _ 47 rfl w.heap.size 28 i0 (.int .u64 0) 8 Tryd.underlying47 hi hz0 hz1 hz2 rfl _ _ _ rfl HO.out _ rfl rfl hm1 hm2 HB.out.size ?_; intro v1 w4 hown1 hgrow1 _)
      have HB4 := Lib.hid (HB.out.grown hgrow1 HB.out.size (fun k hk => own_below HO.out k hk))
      rw [lcells_snoc] at hown1
      have HO4 := Lib.hid hown1
      clear hown1 hgrow1
      go_wp2_with fail
      go_roundw
      case rel =>
        refine ⟨S / 4294967296, zs ++ [L], rfl, by omega, ?_, ?_, ?_, ?_, ?_, HB4.out⟩
        · rw [List.length_append, ← HJ.out]; rfl
        · rw [List.length_append, ← HJ.out]; simp; omega
        · intro z hz
          rcases List.mem_append.1 hz with hz | hz
          · exact HS.out z hz
          · simp at hz
            rw [hz]
            exact HL.out
        · rw [List.length_append, ← HJ.out]
          exact HSTEP.out
        · rw [List.length_append, ← HJ.out]
          exact HO4.out
      case measure => simp [intOf]; omega
    · have jn : ¬ (j : Int) < (n : Int) := by omega
      have hj6 : j < 1000000 := by omega
      have HJ := Lib.hid hj
      have hm1 : j + 1 ≤ maxLen := by unfold maxLen; omega
      have hm2 : (j + 1) * 8 ≤ 140737488355328 := by omega
      have HN0 := Lib.hid hlt
      clear hj hlt
      go_wp2_with (at_builtin; refine wpList_append_one rfl _ _ 47 rfl w.heap.size 28 i0 (.int .u64 0) 8 Tryd.underlying47 hi hz0 hz1 hz2 rfl _ _ _ rfl HO.out _ rfl rfl hm1 hm2 HB.out.size ?_; intro v1 w4 hown1 hgrow1 _)
      have HB4 := Lib.hid (HB.out.grown hgrow1 HB.out.size (fun k hk => own_below HO.out k hk))
      rw [lcells_snoc] at hown1
      have hlen : (zs ++ [x]).length = j + 1 := by rw [List.length_append, ← HJ.out]; rfl
      rw [← hlen] at hown1
      obtain ⟨A1, c1, rfl, hnat⟩ := own_nat hown1 (by omega)
      have hN := hnat (own_cap hown1)
      have hsm : ∀ i, i < (zs ++ [x]).length → (zs ++ [x]).getD i 0 < 4294967296 := fun i hi => by
        rw [List.getD_eq_getElem?_getD, List.getElem?_eq_getElem hi, Option.getD_some]
        rcases List.mem_append.1 (List.getElem_mem hi) with hz | hz
        · exact HS.out _ hz
        · simp at hz
          rw [hz]
          exact hx
      have hval : val (fun i => (zs ++ [x]).getD i 0) (zs ++ [x]).length = val f n * m + r := by
        have h1 := lval_snoc zs x
        have h2 := HV.out
        rw [← HJ.out, h2, show j = n by have := HN0.out; omega] at h1
        exact h1
      have HT := Lib.hid (fun w (h : NatAt w A1 (zs ++ [x]).length c1 fun i => (zs ++ [x]).getD i 0) => natTrim A1 (zs ++ [x]).length c1 (fun i => (zs ++ [x]).getD i 0) w h)
      obtain ⟨q, hq⟩ : ∃ q, q = (zs ++ [x]).length := ⟨_, rfl⟩
      obtain ⟨g, hg⟩ : ∃ g : Nat → Nat, g = fun i => (zs ++ [x]).getD i 0 := ⟨_, rfl⟩
      rw [← hq, ← hg] at HT hN hval
      have HVL := Lib.hid hval
      have HSM := Lib.hid (show ∀ i, i < q → g i < 4294967296 by rw [hq, hg]; exact hsm)
      have HQ := Lib.hid (show q = j + 1 by rw [hq, hlen])
      rw [← hq] at hown1 ⊢
      have HN := Lib.hid hN
      clear hnat hown1 hsm hlen hq hg hN hgrow1 hval
      go_wp2_with fail
      refine (HT.out _ HN.out).mono ?_
      rintro e w' ⟨rfl, k, hk, rfl⟩
      have HK := Lib.hid hk
      clear hk
      go_wp2_with fail
      go_returns
      have h1 := HK.out.1
      have h2 := HQ.out
      exact ⟨HB4.out, _, rfl, A1, k, c1, g, rfl, ⟨by have := HN.out.1; omega, by have := HN.out.2.1; omega, fun i hi => HN.out.2.2 i (by omega)⟩, fun i hi => HSM.out i (by omega), HK.out.2.2, by rw [← HVL.out]; exact (val_trim g q k h1 HK.out.2.1).symm⟩
theorem times_walk (u : Value) (U m r : Nat) (w : World) (h : Num w u U) (hU : blen U < 31000000) (hm : m < 4294967296) (hr : r < 4294967296) : Calls Tryd.prog 42 #[u, .int .u64 m, .int .u64 r] w (Gives (U * m + r) w) := by
  obtain ⟨A, n, c, f, rfl, a1, a2, a3, a4⟩ := h
  have hl := limbs a2 a3 a4
  rw [← a4]
  exact natTimes A n c f m r w a1 (by omega) a2 hm hr
end Go.Proofs.YtifgealimgedpaaDoor.Nats
