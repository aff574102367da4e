/- Whole numbers of any size: shifted. The walk. -/
import Derived.Test.YtifgealimgedpaaDoorNatE
namespace Go.Proofs.YtifgealimgedpaaDoor.Nats
open Go.RowKit Go.Proofs.YtifgealimgedpaaDoor.Aid
attribute [local go_sem ↓] Go.wp_at_zero Go.wp_at_succ
set_option linter.unusedVariables false
theorem shlWord (y s r : Nat) (hy : y < 4294967296) (hs : s < 32) (hr : r < 2 ^ s) : IntKind.u64.wrap ((y : Int) * 2 ^ s) = ((y * 2 ^ s : Nat) : Int) ∧ bits .or .u64 ((y * 2 ^ s : Nat) : Int) (r : Int) = ((y * 2 ^ s + r : Nat) : Int) ∧ y * 2 ^ s + r < 18446744073709551616 ∧ (y * 2 ^ s + r) / 4294967296 < 2 ^ s := by
  have h31 : 2 ^ s ≤ 2147483648 := by
    have := Nat.pow_le_pow_right (n := 2) (by omega) (show s ≤ 31 by omega)
    simpa using this
  have h1 : y * 2 ^ s ≤ 4294967295 * 2147483648 := Nat.mul_le_mul (by omega) h31
  have h2 : y * 2 ^ s + r < 4294967296 * 2 ^ s := by
    have := Nat.mul_le_mul_right (2 ^ s) (show y ≤ 4294967295 by omega)
    omega
  refine ⟨?_, ?_, by omega, ?_⟩
  · have hy : (y : Int) * 2 ^ s = ((y * 2 ^ s : Nat) : Int) := by norm_cast
    rw [IntKind.wrap_u64, hy]
    generalize y * 2 ^ s = z at *
    omega
  · rw [u64_or_nat _ _ (by omega) (by omega)]
    congr 1
    have := Nat.shiftLeft_add_eq_or_of_lt (i := s) (b := r) hr y
    rw [Nat.shiftLeft_eq] at this
    exact this.symm
  · rw [Nat.div_lt_iff_lt_mul (by omega)]
    omega
set_option maxRecDepth 100000 in
set_option maxHeartbeats 4000000 in
theorem natShift (A : Option Addr) (n c : Nat) (f : Nat → Nat) (cnt : Nat) (w : World) (h : NatAt w A n c f) (hn : n + cnt < 900000) (hf : ∀ i, i < n → f i < 4294967296) :
    Calls Tryd.prog 31 #[.slice A n c, .int .i64 cnt] w (Gives (val f n * 2 ^ cnt) w) := by
  obtain ⟨i0, hi, hz0, hz1, hz2⟩ := info_parts info28
  obtain ⟨K, hK⟩ : ∃ K, K = cnt / 32 := ⟨_, rfl⟩
  obtain ⟨s, hs⟩ : ∃ s, s = cnt % 32 := ⟨_, rfl⟩
  have HC := Lib.hid (show cnt = 32 * K + s by omega)
  have HMK := Lib.hid (make_words K (by omega))
  have hmk : ∀ w, (Instr.makeSlice 47 (.int .i64 K) (.int .i64 K)).run Tryd.prog w = .ok (.slice (some ⟨w.heap.size, 0, none⟩) K K) (w.alloc (.cells (lcells (List.replicate K 0)).toArray 28)) := HMK.out
  have d1 : (cnt : Int) / 32 = (K : Int) := by omega
  have d4 : (cnt : Int) % 32 = (s : Int) := by omega
  have hs32 : s < 32 := by omega
  have hK9 : K < 900000 := by omega
  have hn9 : n + K < 900000 := by omega
  have HA := Lib.hid h
  have HF := Lib.hid hf
  have hnc := h.1
  have hc9 : cnt < 900000 := by omega
  clear h hf hK hs
  go_enter Tryd.func31, Tryd.ntmps31
  go_wp2_with fail
  have HOW := Lib.hid (own_made w w.heap.size (Nat.le_refl _) (List.replicate K 0) (by simp [maxLen]; omega))
  have HBW := Lib.hid (show Below w.heap.size w (w.alloc (.cells (lcells (List.replicate K 0)).toArray 28)) from (Below.refl _ w).alloc (Nat.le_refl _) _)
  rw [List.length_replicate] at HOW
  go_loopw [5, 6, 7] (fun out rv iv wr => ∃ (r j : Nat) (zs : List Nat), rv = .int .u64 r ∧ r < 2 ^ s ∧ iv = .int .i64 j ∧ j ≤ n ∧ zs.length = K + j ∧ Small zs ∧ lval zs + r * 2 ^ (32 * (K + j)) = val f j * 2 ^ cnt ∧ wr.ownsRow w.heap.size 28 1 out (K + j) (lcells zs) ∧ Below w.heap.size w wr) (fun _ _ iv _ => n - (intOf iv).toNat)
  case atStart => exact ⟨0, 0, List.replicate K 0, rfl, Nat.two_pow_pos s, rfl, by omega, by simp, fun z hz => by rw [(List.mem_replicate.1 hz).2]; omega, by rw [lval_zero, val]; simp, HOW.out, HBW.out⟩
  case round =>
    obtain ⟨r, j, zs, rfl, hr, rfl, hl, hlen, hsm, hv, hown, hbel⟩ := hrel
    have HS := Lib.hid hsm
    have HO := Lib.hid hown
    have HB := Lib.hid hbel
    have HV := Lib.hid hv
    have HJ := Lib.hid hlen
    clear hsm hown hbel hv hlen
    have hm1 : K + j + 1 ≤ maxLen := by unfold maxLen; omega
    have hm2 : (K + j + 1) * 8 ≤ 140737488355328 := by omega
    by_cases hlt : j < n
    · obtain ⟨b, o, rfl, hlb, hc⟩ := (HA.out.below HB.out).2.2 j hlt
      replace hc : wr.cell? ⟨b, o + j, none⟩ = some (.int .u64 (f j : Int)) := hc
      obtain ⟨g1, g2, g3, g4⟩ := shlWord (f j) s r (HF.out j hlt) hs32 hr
      have HSTEP := Lib.hid (shift_step zs K j s r (f j) (val f j) cnt HJ.out HC.out HV.out)
      have HVAL := Lib.hid (show val f (j + 1) = val f j + f j * 2 ^ (32 * j) from rfl)
      obtain ⟨y, hy⟩ : ∃ y, y = f j := ⟨_, rfl⟩
      rw [← hy] at hc g1 g2 g3 g4 HSTEP HVAL
      obtain ⟨P, hP⟩ : ∃ P, P = y * 2 ^ s := ⟨_, rfl⟩
      rw [← hP] at g1 g2 g3 g4 HSTEP
      obtain ⟨S, hS⟩ : ∃ S, S = P + r := ⟨_, rfl⟩
      rw [← hS] at g2 g3 g4 HSTEP
      have e3 := and32 S g3
      obtain ⟨L, hL⟩ : ∃ L, L = S % 4294967296 := ⟨_, rfl⟩
      rw [← hL] at e3 HSTEP
      have HL := Lib.hid (show L < 4294967296 by omega)
      have HR := Lib.hid g4
      have jn : (j : Int) < (n : Int) := by omega
      have hj9 : j < 900000 := by omega
      have n0 : ¬ (s : Int) < 0 := by omega
      have HLT := Lib.hid hlt
      clear hy hP hS hL hlb g4 hr hlt
      go_wp2_with (at_builtin; refine wpList_append_one rfl _ _ 47 rfl w.heap.size 28 i0 (.int .u64 0) 8 Tryd.underlying47 hi hz0 hz1 hz2 rfl _ _ _ rfl HO.out _ rfl rfl hm1 hm2 HB.out.size ?_; intro v1 w4 hown1 hgrow1 _)
      have HB4 := Lib.hid (HB.out.grown hgrow1 HB.out.size (fun k hk => own_below HO.out k hk))
      rw [lcells_snoc] at hown1
      have HO4 := Lib.hid hown1
      clear hown1 hgrow1
      go_wp2_with fail
      go_roundw
      case rel =>
        refine ⟨S / 4294967296, j + 1, zs ++ [L], rfl, HR.out, rfl, HLT.out, ?_, ?_, ?_, HO4.out, HB4.out⟩
        · rw [List.length_append, HJ.out]; rfl
        · intro z hz
          rcases List.mem_append.1 hz with hz | hz
          · exact HS.out z hz
          · simp at hz
            rw [hz]
            exact HL.out
        · rw [HVAL.out]; exact HSTEP.out
      case measure => simp [intOf]; omega
    · obtain rfl : j = n := by omega
      have jn : ¬ (j : Int) < (j : Int) := by omega
      have hlen2 : (zs ++ [r]).length = K + j + 1 := by rw [List.length_append, HJ.out]; rfl
      have HR := Lib.hid (show r < 4294967296 by
        have := Nat.pow_le_pow_right (n := 2) (by omega) (show s ≤ 31 by omega)
        have e : (2 : Nat) ^ 31 = 2147483648 := by decide
        omega)
      clear hlt hr
      go_wp2_with (at_builtin; refine wpList_append_one rfl _ _ 47 rfl w.heap.size 28 i0 (.int .u64 0) 8 Tryd.underlying47 hi hz0 hz1 hz2 rfl _ _ _ rfl HO.out _ rfl rfl hm1 hm2 HB.out.size ?_; intro v1 w4 hown1 hgrow1 _)
      have HB4 := Lib.hid (HB.out.grown hgrow1 HB.out.size (fun k hk => own_below HO.out k hk))
      rw [lcells_snoc] at hown1
      rw [← hlen2] at hown1
      obtain ⟨A1, c1, rfl, hnat⟩ := own_nat hown1 (by omega)
      have hN := hnat (own_cap hown1)
      have hsm : ∀ i, i < (zs ++ [r]).length → (zs ++ [r]).getD i 0 < 4294967296 := fun i hi => by
        rw [List.getD_eq_getElem?_getD, List.getElem?_eq_getElem hi, Option.getD_some]
        rcases List.mem_append.1 (List.getElem_mem hi) with hz | hz
        · exact HS.out _ hz
        · simp at hz
          rw [hz]
          exact HR.out
      have HT := Lib.hid (fun w (h : NatAt w A1 (zs ++ [r]).length c1 fun i => (zs ++ [r]).getD i 0) => natTrim A1 (zs ++ [r]).length c1 (fun i => (zs ++ [r]).getD i 0) w h)
      have hval : val (fun i => (zs ++ [r]).getD i 0) (zs ++ [r]).length = val f j * 2 ^ cnt := by
        have := lval_snoc zs r
        rw [HJ.out, HV.out] at this
        exact this
      obtain ⟨q, hq⟩ : ∃ q, q = (zs ++ [r]).length := ⟨_, rfl⟩
      obtain ⟨g, hg⟩ : ∃ g : Nat → Nat, g = fun i => (zs ++ [r]).getD i 0 := ⟨_, rfl⟩
      rw [← hq, ← hg] at HT hN hval
      have HVL := Lib.hid hval
      have HSM := Lib.hid (show ∀ i, i < q → g i < 4294967296 by rw [hq, hg]; exact hsm)
      have HQ := Lib.hid (show q = K + j + 1 by rw [hq, hlen2])
      rw [← hq] at hown1 ⊢
      have HN := Lib.hid hN
      clear hnat hown1 hsm hlen2 hq hg hN hgrow1 hval
      go_wp2_with fail
      refine (HT.out _ HN.out).mono ?_
      rintro e w' ⟨rfl, k, hk, rfl⟩
      have HK := Lib.hid hk
      clear hk
      go_wp2_with fail
      go_returns
      have h1 := HK.out.1
      have h2 := HQ.out
      exact ⟨HB4.out, _, rfl, A1, k, c1, g, rfl, ⟨by have := HN.out.1; omega, by have := HN.out.2.1; omega, fun i hi => HN.out.2.2 i (by omega)⟩, fun i hi => HSM.out i (by omega), HK.out.2.2, by rw [← HVL.out]; exact (val_trim g q k h1 HK.out.2.1).symm⟩
theorem shift_walk (v : Value) (V cnt : Nat) (w : World) (h : Num w v V) (hV : blen V + 32 * cnt < 28000000) :
    Calls Tryd.prog 31 #[v, .int .i64 cnt] w (Gives (V * 2 ^ cnt) w) := by
  obtain ⟨A, n, c, f, rfl, a1, a2, a3, a4⟩ := h
  have hl := limbs a2 a3 a4
  rw [← a4]
  exact natShift A n c f cnt w a1 (by omega) a2
end Go.Proofs.YtifgealimgedpaaDoor.Nats
