/- The shortest digits of a double. The walk. -/
import Derived.Test.YtifgealimgedpaaDoorDA
import Derived.Deep.CutRange
import Derived.Deep.DeepCutAuto
import Derived.Deep.CutBlock
namespace Go.Proofs.YtifgealimgedpaaDoor.Nats
open Go.RowKit Go.Proofs.YtifgealimgedpaaDoor.Aid Go.Proofs.YtifgealimgedpaaDoor.Runes Go.Proofs.YtifgealimgedpaaDoor.Bytes
attribute [local go_sem ↓] Go.wp_at_zero Go.wp_at_succ
set_option linter.unusedVariables false
theorem exA_lt (w : Nat) (h : w < 9218868437227405312) : ∃ K, K ≤ 1024 ∧ exA w < 2 ^ K := by
  have h1 := dm_lt w
  have h2 := dx_bd w h
  have h3 := Nat.mul_lt_mul_of_pos_right h1 (Nat.two_pow_pos (dx w).toNat)
  rw [show (9007199254740992 : Nat) = 2 ^ 53 from rfl, ← Nat.pow_add] at h3
  exact ⟨_, by omega, h3⟩
theorem exB_le (w : Nat) (h : w < 9218868437227405312) : ∃ K, K ≤ 1074 ∧ exB w = 2 ^ K := by
  have h2 := dx_bd w h
  exact ⟨_, by omega, rfl⟩
theorem two_ten (k : Nat) : 2 ^ k ≤ 10 ^ k := Nat.pow_le_pow_left (by omega) k
theorem n_up (w n : Nat) (h : w < 9218868437227405312) (hl : exB w * 10 ^ n ≤ exA w) : n < 1024 := by
  obtain ⟨K, hK, hA⟩ := exA_lt w h
  have h1 := Nat.lt_of_le_of_lt hl hA
  have h2 : 10 ^ n ≤ exB w * 10 ^ n := Nat.le_mul_of_pos_left _ (exB_pos w)
  have := (Nat.pow_lt_pow_iff_right (a := 10) (by omega)).1 (Nat.lt_of_le_of_lt h2 (Nat.lt_of_lt_of_le h1 (two_ten K)))
  omega
theorem n_dn (w n : Nat) (h0 : 0 < w) (h : w < 9218868437227405312) (hl : exA w * 10 ^ n < exB w) : n < 1074 := by
  obtain ⟨K, hK, hB⟩ := exB_le w h
  rw [hB] at hl
  have h2 : 10 ^ n ≤ exA w * 10 ^ n := Nat.le_mul_of_pos_left _ (exA_pos w h0)
  have := (Nat.pow_lt_pow_iff_right (a := 10) (by omega)).1 (Nat.lt_of_le_of_lt h2 (Nat.lt_of_lt_of_le hl (two_ten K)))
  omega
theorem exA_bl (w : Nat) (h : w < 9218868437227405312) : blen (exA w) ≤ 1024 := by
  obtain ⟨K, hK, hA⟩ := exA_lt w h
  have := blen_le_of_lt hA
  omega
theorem exB_bl (w : Nat) (h : w < 9218868437227405312) : blen (exB w) ≤ 1075 := by
  obtain ⟨K, hK, hB⟩ := exB_le w h
  have := blen_le_of_lt (x := exB w) (n := K + 1) (by rw [hB]; exact Nat.pow_lt_pow_right (by omega) (by omega))
  omega
/-- What the search gives. -/
def ShortPost (W : Nat) (w : World) (e : Ending) (w' : World) : Prop :=
  Below w.heap.size w w' ∧ ∃ (n : Int) (c k z : Nat) (s : ByteArray), e = .returned (.tuple #[.string s, .int .i64 (if k < (Lib.decDigits c).length then n + 1 else n)]) ∧ LoN W n ∧ HiN W n ∧ -1100 ≤ n ∧ n ≤ 1100 ∧ 1 ≤ k ∧ k ≤ 17 ∧ 10 ^ (k - 1) ≤ c ∧ c ≤ 10 ^ k ∧ backP c (n - (k : Int)) = W ∧ (∀ j : Nat, 1 ≤ j → j < k → backP (bestP W (n - (j : Int))) (n - (j : Int)) ≠ W) ∧ Lib.decDigits c = s.data.toList ++ List.replicate z 48 ∧ 0 < s.size ∧ s.size ≤ 400
theorem ten17 (k : Nat) (h : k ≤ 17) : 10 ^ k ≤ 100000000000000000 := by
  have := Nat.pow_le_pow_right (n := 10) (by omega) h
  exact this
theorem cmp_ge {a b : Nat} : (0 : Int) ≤ cmpN a b ↔ b ≤ a := by
  unfold cmpN
  split
  · constructor <;> intro h <;> omega
  · split <;> (constructor <;> intro h <;> omega)
theorem cmp_lt0 {a b : Nat} : cmpN a b < 0 ↔ a < b := by
  have := cmp_ge (a := a) (b := b)
  omega
set_option maxRecDepth 100000 in
set_option maxHeartbeats 16000000 in
theorem shortest (W : Nat) (w : World) (h0 : 0 < W) (hW : W < 9218868437227405312) : Calls Tryd.prog 20 #[.int .u64 W] w (ShortPost W w) := by
  have HEX := Lib.hid (exactOf W w hW)
  have HUP := Lib.hid (fun n h => n_up W n hW h)
  have HDN := Lib.hid (fun n h => n_dn W n h0 hW h)
  have HLN := Lib.hid (fun n => show LoN W n ↔ exB W * 10 ^ (n - 1).toNat ≤ exA W * 10 ^ (1 - n).toNat from Iff.rfl)
  have HHN := Lib.hid (fun n => show HiN W n ↔ exA W * 10 ^ (-n).toNat < exB W * 10 ^ n.toNat from Iff.rfl)
  have HBD := Lib.hid (fun n (h : LoN W n) (h' : HiN W n) k hk => best_bd h h' k hk)
  have HQH := Lib.hid (fun n (h' : HiN W n) k => quo_hi h' k)
  have H17 := Lib.hid (fun n (h : LoN W n) (h' : HiN W n) => seventeen h0 hW h h')
  have HQD := Lib.hid (fun x => show quoP W x = exA W * 10 ^ (-x).toNat / (exB W * 10 ^ x.toNat) from rfl)
  have HUD := Lib.hid (fun x => show upP W x ↔ exB W * 10 ^ x.toNat ≤ 2 * (exA W * 10 ^ (-x).toNat % (exB W * 10 ^ x.toNat)) from Iff.rfl)
  have HBE := Lib.hid (fun x => show bestP W x = if upP W x then quoP W x + 1 else quoP W x from rfl)
  have HOE := Lib.hid (fun x => show otherP W x = if upP W x then quoP W x else quoP W x + 1 from rfl)
  have HAB := Lib.hid (show blen (exA W) ≤ 1024 from exA_bl W hW)
  have HBB := Lib.hid (show blen (exB W) ≤ 1075 from exB_bl W hW)
  have HBP := Lib.hid (exB_pos W)
  have W64 : W < 18446744073709551616 := by omega
  obtain ⟨A, hA⟩ : ∃ A, A = exA W := ⟨_, rfl⟩
  obtain ⟨B, hB⟩ : ∃ B, B = exB W := ⟨_, rfl⟩
  rw [← hA] at HEX HUP HDN HLN HHN HQD HUD HAB
  rw [← hB] at HEX HUP HDN HLN HHN HQD HUD HBB HBP
  clear hA hB h0 hW
  go_enter Tryd.func20, Tryd.ntmps20
  go_wp2_with fail
  refine HEX.out.mono ?_
  rintro e W1 ⟨hb1, a, b, rfl, ha, hb⟩
  have HB1 := Lib.hid hb1
  have HA := Lib.hid ha
  have HB := Lib.hid hb
  clear hb1 ha hb
  have HPWB := Lib.hid (fun (m : Nat) (w' : World) (hm : m ≤ 3000) (h : Num w' b B) => show Calls Tryd.prog 29 #[b, .int .i64 10, .int .i64 m] w' (Gives (B * 10 ^ m) w') from natPower b B 10 m w' h (by have := HBB.out; omega) (by omega))
  have HPWA := Lib.hid (fun (m : Nat) (w' : World) (hm : m ≤ 3000) (h : Num w' a A) => show Calls Tryd.prog 29 #[a, .int .i64 10, .int .i64 m] w' (Gives (A * 10 ^ m) w') from natPower a A 10 m w' h (by have := HAB.out; omega) (by omega))
  go_upto_block 0 with fail
  go_cut [6] (fun nv wx => (∃ n : Nat, nv = .int .i64 n ∧ n ≤ 1024 ∧ A < B * 10 ^ n ∧ (1 ≤ n → B * 10 ^ (n - 1) ≤ A)) ∧ Num wx a A ∧ Num wx b B ∧ Below w.heap.size w wx)
  case first =>
    go_wp2_with fail
    go_loopw [6] (fun nv wr => (∃ n : Nat, nv = .int .i64 n ∧ n ≤ 1024 ∧ (1 ≤ n → B * 10 ^ (n - 1) ≤ A)) ∧ Num wr a A ∧ Num wr b B ∧ Below w.heap.size w wr) (fun nv _ => 2000 - (intOf nv).toNat)
    case atStart => exact ⟨⟨0, rfl, by omega, fun h => by omega⟩, HA.out, HB.out, HB1.out⟩
    case round =>
      obtain ⟨⟨n, rfl, hn, hlo⟩, ha, hb, hbw⟩ := hrel
      have HLO := Lib.hid hlo
      have HA2 := Lib.hid ha
      have HB2 := Lib.hid hb
      have HW2 := Lib.hid hbw
      clear hlo ha hb hbw
      go_wp2_with fail
      refine (HPWB.out n _ (by omega) HB2.out).mono ?_
      rintro e W3 ⟨hb3, p, rfl, hp⟩
      have HA3 := Lib.hid (HA2.out.below hb3)
      have HB3 := Lib.hid (HB2.out.below hb3)
      have HW3 := Lib.hid (HW2.out.trans (hb3.mono HW2.out.size))
      have HCM := Lib.hid (cmp_walk a p A (B * 10 ^ n) W3 HA3.out hp)
      clear hb3 hp
      go_wp2_with fail
      refine HCM.out.mono ?_
      rintro e W4 ⟨⟨k4, rfl⟩, rfl⟩
      have HA4 := Lib.hid (HA3.out.drewN k4)
      have HB4 := Lib.hid (HB3.out.drewN k4)
      have HW4 := Lib.hid (below_drewN HW3.out k4)
      by_cases hc : B * 10 ^ n ≤ A
      · have t0 := cmp_ge.2 hc
        have HUN := Lib.hid (HUP.out n hc)
        have HC := Lib.hid hc
        clear hc
        go_wp2_with fail
        go_roundw
        case rel => exact ⟨⟨n + 1, val_int (by omega), by have := HUN.out; omega, fun _ => by rw [Nat.add_sub_cancel]; exact HC.out⟩, HA4.out, HB4.out, HW4.out⟩
        case measure => simp [intOf]; omega
      · have t0 : ¬ (0 : Int) ≤ cmpN A (B * 10 ^ n) := fun h => hc (cmp_ge.1 h)
        have HC := Lib.hid (show A < B * 10 ^ n by omega)
        clear hc
        go_wp2_with fail
        go_meet
        exact ⟨⟨n, rfl, hn, HC.out, HLO.out⟩, HA4.out, HB4.out, HW4.out⟩
  case rest =>
    obtain ⟨⟨n, rfl, hn, hhi, hlo⟩, ha, hb, hbw⟩ := hcut
    have HHI := Lib.hid (show HiN W (n : Int) by rw [HHN.out, Int.toNat_natCast, show (-(n : Int)).toNat = 0 by omega, Nat.pow_zero, Nat.mul_one]; exact hhi)
    have HLO := Lib.hid (show (1 : Int) ≤ (n : Int) → LoN W (n : Int) from fun h => by
      rw [HLN.out, show ((n : Int) - 1).toNat = n - 1 by omega, show (1 - (n : Int)).toNat = 0 by omega, Nat.pow_zero, Nat.mul_one]
      exact hlo (by omega))
    have HA2 := Lib.hid ha
    have HB2 := Lib.hid hb
    have HW2 := Lib.hid hbw
    clear hhi hlo ha hb hbw HA HB HB1
    go_upto_block 2 with fail
    go_cut [6] (fun nv wx => (∃ n : Int, nv = .int .i64 n ∧ -1100 ≤ n ∧ n ≤ 1100 ∧ HiN W n ∧ LoN W n) ∧ Num wx a A ∧ Num wx b B ∧ Below w.heap.size w wx)
    case first =>
      go_wp2_with fail
      go_loopw [6] (fun nv wr => (∃ n : Int, nv = .int .i64 n ∧ -1100 ≤ n ∧ n ≤ 1100 ∧ HiN W n ∧ (1 ≤ n → LoN W n)) ∧ Num wr a A ∧ Num wr b B ∧ Below w.heap.size w wr) (fun nv _ => (intOf nv + 2000).toNat)
      case atStart => exact ⟨⟨n, rfl, by omega, by omega, HHI.out, HLO.out⟩, HA2.out, HB2.out, HW2.out⟩
      case round =>
        obtain ⟨⟨n, rfl, n0, n1, hhi, hlo⟩, ha, hb, hbw⟩ := hrel
        have HH3 := Lib.hid hhi
        have HL3 := Lib.hid hlo
        have HA3 := Lib.hid ha
        have HB3 := Lib.hid hb
        have HW3 := Lib.hid hbw
        clear hhi hlo ha hb hbw
        by_cases hnp : n ≤ 0
        · obtain ⟨m, hm⟩ : ∃ m : Nat, m = (1 - n).toNat := ⟨_, rfl⟩
          have em : 1 - n = (m : Int) := by omega
          have HM := Lib.hid hm
          have m3 : m ≤ 3000 := by omega
          clear hm
          go_wp2_with fail
          refine (HPWA.out m _ (by omega) HA3.out).mono ?_
          rintro e W4 ⟨hb4, p, rfl, hp⟩
          have HA4 := Lib.hid (HA3.out.below hb4)
          have HB4 := Lib.hid (HB3.out.below hb4)
          have HW4 := Lib.hid (HW3.out.trans (hb4.mono HW3.out.size))
          have HCM := Lib.hid (cmp_walk p b (A * 10 ^ m) B W4 hp HB4.out)
          clear hb4 hp
          go_wp2_with fail
          refine HCM.out.mono ?_
          rintro e W5 ⟨⟨k5, rfl⟩, rfl⟩
          have HA5 := Lib.hid (HA4.out.drewN k5)
          have HB5 := Lib.hid (HB4.out.drewN k5)
          have HW5 := Lib.hid (below_drewN HW4.out k5)
          by_cases hc : A * 10 ^ m < B
          · have t0 := cmp_lt0.2 hc
            have HDD := Lib.hid (HDN.out m hc)
            have HHX := Lib.hid (show HiN W (n - 1) by
              rw [HHN.out, show (-(n - 1)).toNat = m by have := HM.out; omega, show (n - 1).toNat = 0 by omega, Nat.pow_zero, Nat.mul_one]
              exact hc)
            clear hc
            go_wp2_with fail
            go_roundw
            case rel => exact ⟨⟨n - 1, rfl, by have := HDD.out; omega, by omega, HHX.out, fun h => by omega⟩, HA5.out, HB5.out, HW5.out⟩
            case measure => simp [intOf]; omega
          · have t0 : ¬ cmpN (A * 10 ^ m) B < 0 := fun h => hc (cmp_lt0.1 h)
            have HLX := Lib.hid (show LoN W n by
              rw [HLN.out, show (n - 1).toNat = 0 by omega, ← HM.out, Nat.pow_zero, Nat.mul_one]
              omega)
            clear hc
            go_wp2_with fail
            go_meet
            exact ⟨⟨n, rfl, n0, n1, HH3.out, HLX.out⟩, HA5.out, HB5.out, HW5.out⟩
        · have HLX := Lib.hid (HL3.out (by omega))
          go_wp2_with fail
          go_meet
          exact ⟨⟨n, rfl, n0, n1, HH3.out, HLX.out⟩, HA3.out, HB3.out, HW3.out⟩
    case rest =>
      obtain ⟨⟨n, rfl, n0, n1, hhi, hlo⟩, ha, hb, hbw⟩ := hcut
      have HH3 := Lib.hid hhi
      have HL3 := Lib.hid hlo
      have HA3 := Lib.hid ha
      have HB3 := Lib.hid hb
      have HW3 := Lib.hid hbw
      clear hhi hlo ha hb hbw HA2 HB2 HW2 HHI HLO
      go_wp2_with fail
      go_loopw [7] (fun kv wr => (∃ k : Nat, kv = .int .i64 k ∧ 1 ≤ k ∧ k ≤ 17 ∧ ∀ j : Nat, 1 ≤ j → j < k → backP (bestP W (n - (j : Int))) (n - (j : Int)) ≠ W) ∧ Num wr a A ∧ Num wr b B ∧ Below w.heap.size w wr) (fun kv _ => 100 - (intOf kv).toNat)
      case atStart => exact ⟨⟨1, rfl, by omega, by omega, fun j h1 h2 => by omega⟩, HA3.out, HB3.out, HW3.out⟩
      case round =>
        obtain ⟨⟨k, rfl, k1, k17, hno⟩, ha, hb, hbw⟩ := hrel
        have HNO := Lib.hid hno
        have HA4 := Lib.hid ha
        have HB4 := Lib.hid hb
        have HW4 := Lib.hid hbw
        clear hno ha hb hbw
        obtain ⟨x, hx⟩ : ∃ x : Int, x = n - (k : Int) := ⟨_, rfl⟩
        have HX := Lib.hid hx
        have ex : n - (k : Int) = x := hx.symm
        have HBD2 := Lib.hid (show 10 ^ (k - 1) ≤ bestP W x ∧ bestP W x ≤ 10 ^ k ∧ 10 ^ (k - 1) ≤ otherP W x ∧ otherP W x ≤ 10 ^ k by rw [hx]; exact HBD.out n HL3.out HH3.out k k1)
        have HQ2 := Lib.hid (show quoP W x < 10 ^ k by rw [hx]; exact HQH.out n HH3.out k)
        have HT17 := Lib.hid (ten17 k k17)
        have x0 : -1200 ≤ x := by omega
        have x1 : x ≤ 1100 := by omega
        clear hx
        go_upto_if 47 with fail
        go_cut [8, 9] (fun xv yv wx => Num wx xv (A * 10 ^ (-x).toNat) ∧ Num wx yv (B * 10 ^ x.toNat) ∧ Num wx a A ∧ Num wx b B ∧ Below w.heap.size w wx)
        case first =>
          by_cases hkn : n ≤ (k : Int)
          · obtain ⟨m, hm⟩ : ∃ m : Nat, m = (-x).toNat := ⟨_, rfl⟩
            have em : (k : Int) - n = (m : Int) := by omega
            have HXZ := Lib.hid (show x.toNat = 0 by omega)
            have HM := Lib.hid hm
            clear hm ex
            go_wp2_with fail
            refine (HPWA.out m _ (by have := HM.out; omega) HA4.out).mono ?_
            rintro e W5 ⟨hb5, p, rfl, hp⟩
            have HP5 := Lib.hid hp
            have HW5 := Lib.hid hb5
            clear hp hb5
            go_wp2_with fail
            go_meet
            exact ⟨by rw [← HM.out]; exact HP5.out, by rw [HXZ.out, Nat.pow_zero, Nat.mul_one]; exact HB4.out.below HW5.out, HA4.out.below HW5.out, HB4.out.below HW5.out, HW4.out.trans (HW5.out.mono HW4.out.size)⟩
          · obtain ⟨m, hm⟩ : ∃ m : Nat, m = x.toNat := ⟨_, rfl⟩
            have em : n - (k : Int) = (m : Int) := by omega
            have HXZ := Lib.hid (show (-x).toNat = 0 by omega)
            have HM := Lib.hid hm
            clear hm ex
            go_wp2_with fail
            refine (HPWB.out m _ (by have := HM.out; omega) HB4.out).mono ?_
            rintro e W5 ⟨hb5, p, rfl, hp⟩
            have HP5 := Lib.hid hp
            have HW5 := Lib.hid hb5
            clear hp hb5
            go_wp2_with fail
            go_meet
            exact ⟨by rw [HXZ.out, Nat.pow_zero, Nat.mul_one]; exact HA4.out.below HW5.out, by rw [← HM.out]; exact HP5.out, HA4.out.below HW5.out, HB4.out.below HW5.out, HW4.out.trans (HW5.out.mono HW4.out.size)⟩
        case rest =>
          obtain ⟨hx5, hy5, ha5, hb5, hw5⟩ := hcut
          have HY5 := Lib.hid hy5
          have HA5 := Lib.hid ha5
          have HB5 := Lib.hid hb5
          have HW5 := Lib.hid hw5
          have HYP := Lib.hid (show 0 < B * 10 ^ x.toNat from Nat.mul_pos HBP.out (ten_pos _))
          have hba : blen (A * 10 ^ (-x).toNat) ≤ blen A + 4 * (-x).toNat := blen_pow A 10 _ 4 (by omega)
          have hbb : blen (B * 10 ^ x.toNat) ≤ blen B + 4 * x.toNat := blen_pow B 10 _ 4 (by omega)
          have HDV := Lib.hid (show Calls Tryd.prog 30 #[u8, u9] wc fun e' w2 => Below wc.heap.size wc w2 ∧ ∃ v, e' = .returned (.tuple #[.int .u64 (quoP W x : Nat), v]) ∧ Num w2 v (A * 10 ^ (-x).toNat % (B * 10 ^ x.toNat)) from by
            have hqq : A * 10 ^ (-x).toNat / (B * 10 ^ x.toNat) < 18446744073709551616 := by rw [← HQD.out x]; have := HQ2.out; have := HT17.out; omega
            have h1 := natDiv u8 u9 (A * 10 ^ (-x).toNat) (B * 10 ^ x.toNat) wc hx5 hy5 HYP.out hqq (by have := HAB.out; omega) (by have := HBB.out; omega)
            rw [HQD.out x]
            exact h1)
          have HRB := Lib.hid (show blen (A * 10 ^ (-x).toNat % (B * 10 ^ x.toNat)) ≤ 100000 by
            have h1 := blen_mono (Nat.le_of_lt (Nat.mod_lt (A * 10 ^ (-x).toNat) HYP.out))
            have := HBB.out
            omega)
          have HUD2 := Lib.hid (HUD.out x)
          obtain ⟨q, hq⟩ : ∃ q, q = quoP W x := ⟨_, rfl⟩
          obtain ⟨r, hr⟩ : ∃ r, r = A * 10 ^ (-x).toNat % (B * 10 ^ x.toNat) := ⟨_, rfl⟩
          obtain ⟨Y, hY⟩ : ∃ Y, Y = B * 10 ^ x.toNat := ⟨_, rfl⟩
          rw [← hr] at HDV HRB HUD2
          rw [← hq] at HDV HQ2
          rw [← hY] at HY5 HUD2
          have HQE := Lib.hid hq
          have q18 : q < 1000000000000000000 := by have := HQ2.out; have := HT17.out; omega
          clear hx5 hy5 ha5 hb5 hw5 hba hbb hr hY hq
          go_wp2_with fail
          refine HDV.out.mono ?_
          rintro e W6 ⟨hb6, v, rfl, hv⟩
          have HY6 := Lib.hid (HY5.out.below hb6)
          have HA6 := Lib.hid (HA5.out.below hb6)
          have HB6 := Lib.hid (HB5.out.below hb6)
          have HW6 := Lib.hid (HW5.out.trans (hb6.mono HW5.out.size))
          have HSH := Lib.hid (show Calls Tryd.prog 31 #[v, .int .i64 1] W6 (Gives (r * 2 ^ 1) W6) from shift_walk v r 1 W6 hv (by have := HRB.out; omega))
          clear hb6 hv
          go_wp2_with fail
          refine HSH.out.mono ?_
          rintro e W7 ⟨hb7, v2, rfl, hv2⟩
          have HA7 := Lib.hid (HA6.out.below hb7)
          have HB7 := Lib.hid (HB6.out.below hb7)
          have HW7 := Lib.hid (HW6.out.trans (hb7.mono HW6.out.size))
          have HCM := Lib.hid (cmp_walk v2 u9 (r * 2 ^ 1) Y W7 hv2 (HY6.out.below hb7))
          clear hb7 hv2
          go_wp2_with fail
          refine HCM.out.mono ?_
          rintro e W8 ⟨⟨k8, rfl⟩, rfl⟩
          have HA8 := Lib.hid (HA7.out.drewN k8)
          have HB8 := Lib.hid (HB7.out.drewN k8)
          have HW8 := Lib.hid (below_drewN HW7.out k8)
          obtain ⟨W9, hW9⟩ : ∃ W9, W9 = W7.drewN k8 := ⟨_, rfl⟩
          rw [← hW9] at HA8 HB8 HW8 ⊢
          clear hW9 HCM
          by_cases hup : upP W x
          · have HUPP := Lib.hid hup
            have t0 : (0 : Int) ≤ cmpN (r * 2 ^ 1) Y := cmp_ge.2 (by have := HUD2.out.1 hup; omega)
            have HBEQ := Lib.hid (show bestP W x = q + 1 by rw [HBE.out, if_pos hup, HQE.out])
            have HOEQ := Lib.hid (show otherP W x = q by rw [HOE.out, if_pos hup, HQE.out])
            clear hup
            obtain ⟨R1, hR1⟩ : ∃ R, R = backP (q + 1) x := ⟨_, rfl⟩
            obtain ⟨R2, hR2⟩ : ∃ R, R = backP (q) x := ⟨_, rfl⟩
            have HBK1 := Lib.hid (fun w => show Calls Tryd.prog 32 #[.int .u64 ((q : Int) + 1), .int .i64 x] w (WordPost R1 w) from by rw [hR1]; exact backTo (q + 1) x w (by omega) (by omega) (by omega))
            have HBK2 := Lib.hid (fun w => show Calls Tryd.prog 32 #[.int .u64 ((q : Int)), .int .i64 x] w (WordPost R2 w) from by rw [hR2]; exact backTo (q) x w (by omega) (by omega) (by omega))
            have HC1 := Lib.hid (show 10 ^ (k - 1) ≤ q + 1 ∧ q + 1 ≤ 10 ^ k by rw [← HBEQ.out]; exact ⟨HBD2.out.1, HBD2.out.2.1⟩)
            have HC2 := Lib.hid (show 10 ^ (k - 1) ≤ q ∧ q ≤ 10 ^ k by rw [← HOEQ.out]; exact ⟨HBD2.out.2.2.1, HBD2.out.2.2.2⟩)
            have HNX := Lib.hid (show R1 ≠ W → k < 17 from fun h => by
              by_cases h17 : k = 17
              · exfalso
                have := H17.out n HL3.out HH3.out
                rw [← h17, ← HX.out, HBEQ.out, ← hR1] at this
                exact h this
              · omega)
            have HR1 := Lib.hid hR1
            have HR2 := Lib.hid hR2
            clear hR1 hR2
            go_wp2_with fail
            refine (HBK1.out _).mono ?_
            rintro e Wa ⟨hba, rfl⟩
            have HWA := Lib.hid (HW8.out.trans (hba.mono HW8.out.size))
            have HAA := Lib.hid (HA8.out.below hba)
            have HBA := Lib.hid (HB8.out.below hba)
            clear hba
            by_cases hm1 : R1 = W
            · have tt : ((R1 : Int) == (W : Int)) = true := by rw [hm1]; simp
              have HBK := Lib.hid (show backP (q + 1) x = W by rw [← HR1.out, hm1])
              clear hm1
              obtain ⟨n2, hn2⟩ : ∃ n2 : Int, n2 = if k < (Lib.decDigits (q + 1)).length then n + 1 else n := ⟨_, rfl⟩
              have HN2 := Lib.hid hn2
              have HCD := Lib.hid (fun w => show Calls Tryd.prog 33 #[.int .u64 ((q : Int) + 1), .int .i64 n, .int .i64 k] w (CutPost (q + 1) n k w) from cutDigits (q + 1) n k w (by omega) (by omega) (by omega) (by omega))
              go_wp2_with fail
              refine (HCD.out _).mono ?_
              rintro e X ⟨hbx, s, z, rfl, hdz, hs0⟩
              rw [← hn2]
              clear hn2
              have HBX := Lib.hid (HWA.out.trans (hbx.mono HWA.out.size))
              have HDZ := Lib.hid hdz
              have HSS := Lib.hid (show s.size ≤ 400 by have h1 := digits_len (q + 1) (by omega); rw [hdz, List.length_append, Array.length_toList] at h1; have : s.size = s.data.size := rfl; omega)
              clear hbx hdz
              go_wp2_with fail
              go_returns
              exact ⟨HBX.out, n, q + 1, k, z, s, by rw [← HN2.out]; rfl, HL3.out, HH3.out, n0, n1, k1, k17, HC1.out.1, HC1.out.2, by rw [← HX.out]; exact HBK.out, HNO.out, HDZ.out, hs0, HSS.out⟩
            · have tt : ((R1 : Int) == (W : Int)) = false := by rw [beq_eq_false_iff_ne]; omega
              have HN17 := Lib.hid (HNX.out hm1)
              have HNE1 := Lib.hid (show backP (bestP W x) x ≠ W by rw [HBEQ.out, ← HR1.out]; exact hm1)
              clear hm1
              go_wp2_with fail
              refine (HBK2.out _).mono ?_
              rintro e Wb ⟨hbb, rfl⟩
              have HWB := Lib.hid (HWA.out.trans (hbb.mono HWA.out.size))
              have HAB2 := Lib.hid (HAA.out.below hbb)
              have HBB2 := Lib.hid (HBA.out.below hbb)
              clear hbb tt
              by_cases hm2 : R2 = W
              · have tt : ((R2 : Int) == (W : Int)) = true := by rw [hm2]; simp
                have HBK := Lib.hid (show backP (q) x = W by rw [← HR2.out, hm2])
                clear hm2
                obtain ⟨n2, hn2⟩ : ∃ n2 : Int, n2 = if k < (Lib.decDigits (q)).length then n + 1 else n := ⟨_, rfl⟩
                have HN2 := Lib.hid hn2
                have HCD := Lib.hid (fun w => show Calls Tryd.prog 33 #[.int .u64 ((q : Int)), .int .i64 n, .int .i64 k] w (CutPost (q) n k w) from cutDigits (q) n k w (by omega) (by omega) (by omega) (by omega))
                go_wp2_with fail
                refine (HCD.out _).mono ?_
                rintro e X ⟨hbx, s, z, rfl, hdz, hs0⟩
                rw [← hn2]
                clear hn2
                have HBX := Lib.hid (HWB.out.trans (hbx.mono HWB.out.size))
                have HDZ := Lib.hid hdz
                have HSS := Lib.hid (show s.size ≤ 400 by have h1 := digits_len (q) (by omega); rw [hdz, List.length_append, Array.length_toList] at h1; have : s.size = s.data.size := rfl; omega)
                clear hbx hdz
                go_wp2_with fail
                go_returns
                exact ⟨HBX.out, n, q, k, z, s, by rw [← HN2.out]; rfl, HL3.out, HH3.out, n0, n1, k1, k17, HC2.out.1, HC2.out.2, by rw [← HX.out]; exact HBK.out, HNO.out, HDZ.out, hs0, HSS.out⟩
              · have tt : ((R2 : Int) == (W : Int)) = false := by rw [beq_eq_false_iff_ne]; omega
                clear hm2
                go_wp2_with fail
                go_roundw
                case rel =>
                  refine ⟨⟨k + 1, val_int (by omega), by omega, by have := HN17.out; omega, fun j h1 h2 => ?_⟩, HAB2.out, HBB2.out, HWB.out⟩
                  by_cases e : j = k
                  · rw [e, ← HX.out]
                    exact HNE1.out
                  · exact HNO.out j h1 (by omega)
                case measure => simp [intOf]; omega
          · have HUPP := Lib.hid hup
            have t0 : ¬ (0 : Int) ≤ cmpN (r * 2 ^ 1) Y := fun h => hup (HUD2.out.2 (by have := cmp_ge.1 h; omega))
            have t1 : decide ((0 : Int) ≤ cmpN (r * 2) Y) = false := by rw [Nat.pow_one] at t0; exact decide_eq_false t0
            clear t0
            have HBEQ := Lib.hid (show bestP W x = q by rw [HBE.out, if_neg hup, HQE.out])
            have HOEQ := Lib.hid (show otherP W x = q + 1 by rw [HOE.out, if_neg hup, HQE.out])
            clear hup
            obtain ⟨R1, hR1⟩ : ∃ R, R = backP (q) x := ⟨_, rfl⟩
            obtain ⟨R2, hR2⟩ : ∃ R, R = backP (q + 1) x := ⟨_, rfl⟩
            have HBK1 := Lib.hid (fun w => show Calls Tryd.prog 32 #[.int .u64 ((q : Int)), .int .i64 x] w (WordPost R1 w) from by rw [hR1]; exact backTo (q) x w (by omega) (by omega) (by omega))
            have HBK2 := Lib.hid (fun w => show Calls Tryd.prog 32 #[.int .u64 ((q : Int) + 1), .int .i64 x] w (WordPost R2 w) from by rw [hR2]; exact backTo (q + 1) x w (by omega) (by omega) (by omega))
            have HC1 := Lib.hid (show 10 ^ (k - 1) ≤ q ∧ q ≤ 10 ^ k by rw [← HBEQ.out]; exact ⟨HBD2.out.1, HBD2.out.2.1⟩)
            have HC2 := Lib.hid (show 10 ^ (k - 1) ≤ q + 1 ∧ q + 1 ≤ 10 ^ k by rw [← HOEQ.out]; exact ⟨HBD2.out.2.2.1, HBD2.out.2.2.2⟩)
            have HNX := Lib.hid (show R1 ≠ W → k < 17 from fun h => by
              by_cases h17 : k = 17
              · exfalso
                have := H17.out n HL3.out HH3.out
                rw [← h17, ← HX.out, HBEQ.out, ← hR1] at this
                exact h this
              · omega)
            have HR1 := Lib.hid hR1
            have HR2 := Lib.hid hR2
            clear hR1 hR2
            go_wp2_with fail
            refine (HBK1.out _).mono ?_
            rintro e Wa ⟨hba, rfl⟩
            have HWA := Lib.hid (HW8.out.trans (hba.mono HW8.out.size))
            have HAA := Lib.hid (HA8.out.below hba)
            have HBA := Lib.hid (HB8.out.below hba)
            clear hba
            by_cases hm1 : R1 = W
            · have tt : ((R1 : Int) == (W : Int)) = true := by rw [hm1]; simp
              have HBK := Lib.hid (show backP (q) x = W by rw [← HR1.out, hm1])
              clear hm1
              obtain ⟨n2, hn2⟩ : ∃ n2 : Int, n2 = if k < (Lib.decDigits (q)).length then n + 1 else n := ⟨_, rfl⟩
              have HN2 := Lib.hid hn2
              have HCD := Lib.hid (fun w => show Calls Tryd.prog 33 #[.int .u64 ((q : Int)), .int .i64 n, .int .i64 k] w (CutPost (q) n k w) from cutDigits (q) n k w (by omega) (by omega) (by omega) (by omega))
              go_wp2_with fail
              refine (HCD.out _).mono ?_
              rintro e X ⟨hbx, s, z, rfl, hdz, hs0⟩
              rw [← hn2]
              clear hn2
              have HBX := Lib.hid (HWA.out.trans (hbx.mono HWA.out.size))
              have HDZ := Lib.hid hdz
              have HSS := Lib.hid (show s.size ≤ 400 by have h1 := digits_len (q) (by omega); rw [hdz, List.length_append, Array.length_toList] at h1; have : s.size = s.data.size := rfl; omega)
              clear hbx hdz
              go_wp2_with fail
              go_returns
              exact ⟨HBX.out, n, q, k, z, s, by rw [← HN2.out]; rfl, HL3.out, HH3.out, n0, n1, k1, k17, HC1.out.1, HC1.out.2, by rw [← HX.out]; exact HBK.out, HNO.out, HDZ.out, hs0, HSS.out⟩
            · have tt : ((R1 : Int) == (W : Int)) = false := by rw [beq_eq_false_iff_ne]; omega
              have HN17 := Lib.hid (HNX.out hm1)
              have HNE1 := Lib.hid (show backP (bestP W x) x ≠ W by rw [HBEQ.out, ← HR1.out]; exact hm1)
              clear hm1
              go_wp2_with fail
              refine (HBK2.out _).mono ?_
              rintro e Wb ⟨hbb, rfl⟩
              have HWB := Lib.hid (HWA.out.trans (hbb.mono HWA.out.size))
              have HAB2 := Lib.hid (HAA.out.below hbb)
              have HBB2 := Lib.hid (HBA.out.below hbb)
              clear hbb tt
              by_cases hm2 : R2 = W
              · have tt : ((R2 : Int) == (W : Int)) = true := by rw [hm2]; simp
                have HBK := Lib.hid (show backP (q + 1) x = W by rw [← HR2.out, hm2])
                clear hm2
                obtain ⟨n2, hn2⟩ : ∃ n2 : Int, n2 = if k < (Lib.decDigits (q + 1)).length then n + 1 else n := ⟨_, rfl⟩
                have HN2 := Lib.hid hn2
                have HCD := Lib.hid (fun w => show Calls Tryd.prog 33 #[.int .u64 ((q : Int) + 1), .int .i64 n, .int .i64 k] w (CutPost (q + 1) n k w) from cutDigits (q + 1) n k w (by omega) (by omega) (by omega) (by omega))
                go_wp2_with fail
                refine (HCD.out _).mono ?_
                rintro e X ⟨hbx, s, z, rfl, hdz, hs0⟩
                rw [← hn2]
                clear hn2
                have HBX := Lib.hid (HWB.out.trans (hbx.mono HWB.out.size))
                have HDZ := Lib.hid hdz
                have HSS := Lib.hid (show s.size ≤ 400 by have h1 := digits_len (q + 1) (by omega); rw [hdz, List.length_append, Array.length_toList] at h1; have : s.size = s.data.size := rfl; omega)
                clear hbx hdz
                go_wp2_with fail
                go_returns
                exact ⟨HBX.out, n, q + 1, k, z, s, by rw [← HN2.out]; rfl, HL3.out, HH3.out, n0, n1, k1, k17, HC2.out.1, HC2.out.2, by rw [← HX.out]; exact HBK.out, HNO.out, HDZ.out, hs0, HSS.out⟩
              · have tt : ((R2 : Int) == (W : Int)) = false := by rw [beq_eq_false_iff_ne]; omega
                clear hm2
                go_wp2_with fail
                go_roundw
                case rel =>
                  refine ⟨⟨k + 1, val_int (by omega), by omega, by have := HN17.out; omega, fun j h1 h2 => ?_⟩, HAB2.out, HBB2.out, HWB.out⟩
                  by_cases e : j = k
                  · rw [e, ← HX.out]
                    exact HNE1.out
                  · exact HNO.out j h1 (by omega)
                case measure => simp [intOf]; omega
end Go.Proofs.YtifgealimgedpaaDoor.Nats
