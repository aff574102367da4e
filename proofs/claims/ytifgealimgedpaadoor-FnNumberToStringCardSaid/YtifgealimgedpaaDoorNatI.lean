/- Whole numbers of any size: divided. The walk. -/
import Derived.Test.YtifgealimgedpaaDoorNatH
namespace Go.Proofs.YtifgealimgedpaaDoor.Nats
open Go.RowKit Go.Proofs.YtifgealimgedpaaDoor.Aid
attribute [local go_sem ↓] Go.wp_at_zero Go.wp_at_succ
set_option linter.unusedVariables false
/-- A round of a division: the next bit of the quotient. -/
theorem div_step (V W p o a : Nat) (hW : 0 < W) (ho : o = V / (W * 2 ^ (p + 1))) (ha : a = V % (W * 2 ^ (p + 1))) :
    (W * 2 ^ p ≤ a → o * 2 + 1 = V / (W * 2 ^ p) ∧ a - W * 2 ^ p = V % (W * 2 ^ p)) ∧ (a < W * 2 ^ p → o * 2 = V / (W * 2 ^ p) ∧ a = V % (W * 2 ^ p)) := by
  obtain ⟨X, hX⟩ : ∃ X, X = W * 2 ^ p := ⟨_, rfl⟩
  have hXp : 0 < X := by rw [hX]; exact Nat.mul_pos hW (Nat.two_pow_pos p)
  rw [Nat.pow_succ, ← Nat.mul_assoc, ← hX] at ho ha
  rw [← hX]
  have hlt : a < X * 2 := by rw [ha]; exact Nat.mod_lt _ (by omega)
  have hdm : X * 2 * o + a = V := by rw [ho, ha]; exact Nat.div_add_mod V (X * 2)
  have e2 : X * 2 * o = X * (o * 2) := by rw [Nat.mul_assoc, Nat.mul_comm 2 o]
  constructor
  · intro h
    have key : V / X = o * 2 + 1 ∧ V % X = a - X := (Nat.div_mod_unique hXp).2 ⟨by rw [Nat.mul_add, Nat.mul_one]; omega, by omega⟩
    exact ⟨key.1.symm, key.2.symm⟩
  · intro h
    have key : V / X = o * 2 ∧ V % X = a := (Nat.div_mod_unique hXp).2 ⟨by omega, h⟩
    exact ⟨key.1.symm, key.2.symm⟩
theorem div_le (V W p : Nat) (hW : 0 < W) : V / (W * 2 ^ p) ≤ V / W := Nat.div_le_div_left (Nat.le_mul_of_pos_right _ (Nat.two_pow_pos p)) hW
theorem div_first (V W p : Nat) (hW : 0 < W) (h : blen V ≤ blen W + p) : V < W * 2 ^ (p + 1) := by
  have h1 := lt_blen V
  have h2 := blen_low (x := W) (by omega)
  have h3 := blen_pos (x := W) (by omega)
  have h4 := Nat.mul_le_mul_right (2 ^ (p + 1)) h2
  rw [← Nat.pow_add, show blen W - 1 + (p + 1) = blen W + p by omega] at h4
  exact Nat.lt_of_lt_of_le h1 (Nat.le_trans (Nat.pow_le_pow_right (by omega) h) h4)
theorem lt_of_blen {V W : Nat} (h : blen V < blen W) : V < W := by
  by_cases hc : V < W
  · exact hc
  · have := blen_mono (x := W) (y := V) (by omega)
    omega
/-- What natDiv gives: the quotient and the rest. -/
def DivPost (V W : Nat) (w : World) (e : Ending) (w' : World) : Prop := Below w.heap.size w w' ∧ ∃ v, e = .returned (.tuple #[.int .u64 (V / W : Nat), v]) ∧ Num w' v (V % W)
set_option maxRecDepth 100000 in
set_option maxHeartbeats 8000000 in
theorem natDiv (u v : Value) (V W : Nat) (w : World) (h : Num w u V) (h' : Num w v W) (hW : 0 < W) (hq : V / W < 18446744073709551616) (hV : blen V < 800000) (hW8 : blen W < 800000) :
    Calls Tryd.prog 30 #[u, v] w (DivPost V W w) := by
  have HA := Lib.hid h
  have HB := Lib.hid h'
  have HBA := Lib.hid (bits_walk u V w h)
  have HBB := Lib.hid (bits_walk v W w h')
  have HLT := Lib.hid (fun h => lt_of_blen (V := V) (W := W) h)
  have HFI := Lib.hid (fun p h => div_first V W p hW h)
  have HLE := Lib.hid (fun p => div_le V W p hW)
  have HST := Lib.hid (fun p o a h1 h2 => div_step V W p o a hW h1 h2)
  have HQ := Lib.hid hq
  have HW := Lib.hid hW
  obtain ⟨P, hP⟩ : ∃ P, P = blen V := ⟨_, rfl⟩
  obtain ⟨Q, hQ⟩ : ∃ Q, Q = blen W := ⟨_, rfl⟩
  rw [← hP] at HBA hV HFI HLT
  rw [← hQ] at HBB hW8 HFI HLT
  have HPE := Lib.hid hP
  have HQE := Lib.hid hQ
  clear h h' hP hQ hq hW
  go_enter Tryd.func30, Tryd.ntmps30
  go_wp2_with fail
  refine HBA.out.mono ?_
  rintro e w' ⟨rfl, rfl⟩
  go_wp2_with fail
  refine HBB.out.mono ?_
  rintro e w' ⟨rfl, rfl⟩
  by_cases hPQ : P < Q
  · have q1 : ¬ (0 : Int) ≤ (P : Int) - (Q : Int) := by omega
    have HL := Lib.hid (HLT.out hPQ)
    go_wp2_with fail
    go_loopw [0, 6, 7] (fun av ov nv wr => av = u ∧ ov = .int .u64 0 ∧ nv = .int .i64 ((P : Int) - (Q : Int)) ∧ wr = w') (fun _ _ _ _ => 0)
    case atStart => exact ⟨rfl, rfl, rfl, rfl⟩
    case round =>
      obtain ⟨rfl, rfl, rfl, rfl⟩ := hrel
      go_wp2_with fail
      go_returns
      exact ⟨Below.refl _ _, _, by rw [Nat.div_eq_of_lt HL.out]; rfl, by rw [Nat.mod_eq_of_lt HL.out]; exact HA.out⟩
  · obtain ⟨N, hN⟩ : ∃ N, N = P - Q := ⟨_, rfl⟩
    have eN : (P : Int) - (Q : Int) = (N : Int) := by omega
    have HN := Lib.hid (show V < W * 2 ^ (N + 1) from HFI.out N (by omega))
    have HNP := Lib.hid (show N < 800000 by omega)
    clear hN hPQ
    go_wp2_with fail
    go_loopw [0, 6, 7] (fun av ov nv wr => ∃ p o a : Nat, nv = .int .i64 ((p : Int) - 1) ∧ p ≤ N + 1 ∧ ov = .int .u64 o ∧ o = V / (W * 2 ^ p) ∧ a = V % (W * 2 ^ p) ∧ Num wr av a ∧ Below w'.heap.size w' wr) (fun _ _ nv _ => (intOf nv + 1).toNat)
    case atStart => exact ⟨N + 1, 0, V, val_int (by omega), Nat.le_refl _, rfl, (Nat.div_eq_of_lt HN.out).symm, (Nat.mod_eq_of_lt HN.out).symm, HA.out, Below.refl _ _⟩
    case round =>
      obtain ⟨p, o, a, rfl, hp, rfl, ho, ha, hnum, hbel⟩ := hrel
      have HO := Lib.hid ho
      have HAA := Lib.hid ha
      have HNU := Lib.hid hnum
      have HBE := Lib.hid hbel
      clear ho ha hnum hbel
      cases p with
      | zero =>
        go_wp2_with fail
        go_returns
        have e0 := HO.out
        have e1 := HAA.out
        rw [Nat.pow_zero, Nat.mul_one] at e0 e1
        rw [e1] at HNU
        rw [e0]
        exact ⟨HBE.out, _, rfl, HNU.out⟩
      | succ p =>
        have q1 : ((p + 1 : Nat) : Int) - 1 = (p : Int) := by omega
        rw [q1]
        have HD := Lib.hid (HST.out p o a HO.out HAA.out)
        have w1 : o * 2 < 18446744073709551616 := by
          have h1 := HLE.out p
          have h2 := HQ.out
          by_cases hc : W * 2 ^ p ≤ a
          · have := (HD.out.1 hc).1
            omega
          · have := (HD.out.2 (by omega)).1
            omega
        have HSH := Lib.hid (shift_walk v W p wr (HB.out.below HBE.out) (by have := HNP.out; have := HQE.out; omega))
        have hp9 : p < 900000 := by have := HNP.out; omega
        have HP := Lib.hid hp
        clear hp
        go_wp2_with fail
        refine HSH.out.mono ?_
        rintro e w2 ⟨hb2, x, rfl, hx⟩
        have HX := Lib.hid hx
        have HB2 := Lib.hid hb2
        have HCM := Lib.hid (cmp_walk _ x a (W * 2 ^ p) w2 (HNU.out.below hb2) hx)
        have HBB2 := Lib.hid (HBE.out.trans (hb2.mono HBE.out.size))
        clear hx hb2
        by_cases hc : W * 2 ^ p ≤ a
        · have HDD := Lib.hid (HD.out.1 hc)
          have hcm : (0 : Int) ≤ cmpN a (W * 2 ^ p) := by
            rw [cmpN, if_neg (by omega)]
            split <;> omega
          have w2 : o * 2 + 1 < 18446744073709551616 := by
            have h1 := HLE.out p
            have h2 := HQ.out
            have := HDD.out.1
            omega
          have HBL := Lib.hid (show blen a < 31000000 by
            have h1 : a ≤ V := by rw [HAA.out]; exact Nat.mod_le _ _
            have h2 := blen_mono h1
            have := HPE.out
            omega)
          have HC := Lib.hid hc
          clear hc
          go_wp2_with fail
          refine HCM.out.mono ?_
          rintro e w3 ⟨⟨k3, rfl⟩, rfl⟩
          have HSB := Lib.hid (sub_walk _ x a (W * 2 ^ p) _ ((HNU.out.below HB2.out).drewN k3) (HX.out.drewN k3) HBL.out HC.out)
          have HBB3 := Lib.hid (below_drewN HBB2.out k3)
          go_wp2_with fail
          refine HSB.out.mono ?_
          rintro e w4 ⟨hb4, y, rfl, hy⟩
          have HY := Lib.hid hy
          have HB4 := Lib.hid (HBB3.out.trans (hb4.mono HBB3.out.size))
          clear hb4 hy
          go_wp2_with fail
          go_roundw
          case rel => exact ⟨p, o * 2 + 1, _, rfl, by have := HP.out; omega, val_int (by omega), HDD.out.1, HDD.out.2, HY.out, HB4.out⟩
          case measure => simp [intOf]
        · have HDD := Lib.hid (HD.out.2 (by omega))
          have hcm : ¬ (0 : Int) ≤ cmpN a (W * 2 ^ p) := by
            rw [cmpN, if_pos (by omega)]
            omega
          clear hc
          go_wp2_with fail
          refine HCM.out.mono ?_
          rintro e w3 ⟨⟨k3, rfl⟩, rfl⟩
          have HBB3 := Lib.hid (below_drewN HBB2.out k3)
          go_wp2_with fail
          go_roundw
          case rel => exact ⟨p, o * 2, a, rfl, by have := HP.out; omega, val_int (by omega), HDD.out.1, HDD.out.2, (HNU.out.below HB2.out).drewN k3, HBB3.out⟩
          case measure => simp [intOf]
end Go.Proofs.YtifgealimgedpaaDoor.Nats
