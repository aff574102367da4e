/- Whole numbers of any size: the double nearest to a quotient. The walk. -/
import Derived.Test.YtifgealimgedpaaDoorNatI
import Derived.Deep.CutRange
import Derived.Deep.DeepCutAuto
import Derived.Deep.CutBlock
namespace Go.Proofs.YtifgealimgedpaaDoor.Nats
open Go.RowKit Go.Proofs.YtifgealimgedpaaDoor.Aid
attribute [local go_sem ↓] Go.wp_at_zero Go.wp_at_succ
set_option linter.unusedVariables false
/-- The quotient by 2^e, its two parts, its rest. -/
def upAt (U : Nat) (e : Int) : Nat := U * 2 ^ (-e).toNat
def dnAt (V : Nat) (e : Int) : Nat := V * 2 ^ e.toNat
def qAt (U V : Nat) (e : Int) : Nat := upAt U e / dnAt V e
def restAt (U V : Nat) (e : Int) : Nat := upAt U e % dnAt V e
def expo0 (U V : Nat) : Int := max ((blen U : Int) - blen V - 53) (-1074)
def expo (U V : Nat) : Int := if qAt U V (expo0 U V) < 9007199254740992 then expo0 U V else expo0 U V + 1
/-- The quotient, rounded. -/
def qUp (U V : Nat) (e : Int) : Nat := if dnAt V e < restAt U V e * 2 ∨ (restAt U V e * 2 = dnAt V e ∧ qAt U V e % 2 = 1) then qAt U V e + 1 else qAt U V e
/-- A double's word, of 53 bits and an exponent. -/
def packP (q : Nat) (e : Int) : Nat := if 971 < e then 9218868437227405312 else if q < 4503599627370496 then q else (e + 1075).toNat * 4503599627370496 + q % 4503599627370496
def roundP (U V : Nat) : Nat := if U = 0 then 0 else if qUp U V (expo U V) = 9007199254740992 then packP 4503599627370496 (expo U V + 1) else packP (qUp U V (expo U V)) (expo U V)
theorem dn_pos {V : Nat} (h : 0 < V) (e : Int) : 0 < dnAt V e := Nat.mul_pos h (Nat.two_pow_pos _)
theorem q_lt (U V k : Nat) (e : Int) (hV : 0 < V) (h : (blen U : Int) - blen V ≤ e + k) : qAt U V e < 2 ^ (k + 1) := by
  rw [qAt, Nat.div_lt_iff_lt_mul (dn_pos hV e), upAt, dnAt]
  have h1 := lt_blen U
  have h2 := blen_low (x := V) (by omega)
  have h3 := blen_pos (x := V) (by omega)
  have h4 := Nat.mul_lt_mul_of_pos_right h1 (Nat.two_pow_pos (-e).toNat)
  have h5 := Nat.mul_le_mul_left (2 ^ (k + 1)) (Nat.mul_le_mul_right (2 ^ e.toNat) h2)
  rw [← Nat.pow_add] at h4
  rw [← Nat.pow_add, ← Nat.pow_add] at h5
  exact Nat.lt_of_lt_of_le h4 (Nat.le_trans (Nat.pow_le_pow_right (by omega) (by omega)) h5)
theorem q_54 (U V : Nat) (e : Int) (hV : 0 < V) (h : (blen U : Int) - blen V ≤ e + 53) : qAt U V e < 18014398509481984 := q_lt U V 53 e hV h
theorem q_53 (U V : Nat) (e : Int) (hV : 0 < V) (h : (blen U : Int) - blen V ≤ e + 52) : qAt U V e < 9007199254740992 := q_lt U V 52 e hV h
theorem expo_of (U V : Nat) (e : Int) (h : e = expo0 U V ∨ (e = expo0 U V + 1 ∧ ¬ qAt U V (expo0 U V) < 9007199254740992)) (hq : qAt U V e < 9007199254740992) : expo U V = e := by
  rcases h with rfl | ⟨rfl, h⟩
  · exact if_pos hq
  · exact if_neg h
theorem qUp_le (U V : Nat) (e : Int) (h : qAt U V e < 9007199254740992) : qUp U V e ≤ 9007199254740992 := by
  unfold qUp
  split <;> omega
theorem pack_top (q : Nat) (m : Nat) (hm : m < 2048) (hq : q < 9007199254740992) : IntKind.u64.wrap ((m : Int) * 4503599627370496) = ((m * 4503599627370496 : Nat) : Int) ∧ bits .and .u64 (q : Int) 4503599627370495 = ((q % 4503599627370496 : Nat) : Int) ∧ bits .or .u64 ((m * 4503599627370496 : Nat) : Int) ((q % 4503599627370496 : Nat) : Int) = ((m * 4503599627370496 + q % 4503599627370496 : Nat) : Int) := by
  refine ⟨by rw [IntKind.wrap_u64]; omega, ?_, ?_⟩
  · have h1 := u64_and_nat q 4503599627370495 (by omega) (by omega)
    rw [show ((4503599627370495 : Nat) : Int) = 4503599627370495 from rfl] at h1
    rw [h1, show 4503599627370495 = 2 ^ 52 - 1 by decide, Nat.and_two_pow_sub_one_eq_mod]
  · rw [u64_or_nat _ _ (by omega) (by omega)]
    congr 1
    have := Nat.shiftLeft_add_eq_or_of_lt (i := 52) (b := q % 4503599627370496) (Nat.mod_lt _ (by omega)) m
    rw [Nat.shiftLeft_eq] at this
    exact this.symm
theorem upAt_le (U : Nat) (e : Int) : blen (upAt U e) ≤ blen U + (-e).toNat := by
  refine blen_le_of_lt ?_
  rw [Nat.pow_add, upAt]
  exact Nat.mul_lt_mul_of_pos_right (lt_blen U) (Nat.two_pow_pos _)
theorem dnAt_le (V : Nat) (e : Int) : blen (dnAt V e) ≤ blen V + e.toNat := by
  refine blen_le_of_lt ?_
  rw [Nat.pow_add, dnAt]
  exact Nat.mul_lt_mul_of_pos_right (lt_blen V) (Nat.two_pow_pos _)
def RoundPost (R : Nat) (w : World) (e : Ending) (w' : World) : Prop := Below w.heap.size w w' ∧ e = .returned (.int .u64 (R : Int))
set_option maxRecDepth 100000 in
set_option maxHeartbeats 8000000 in
theorem round_walk (u v : Value) (U V : Nat) (w : World) (h : Num w u U) (h' : Num w v V) (hV : 0 < V) (hU8 : blen U ≤ 100000) (hV8 : blen V ≤ 100000) :
    Calls Tryd.prog 45 #[u, v] w (RoundPost (roundP U V) w) := by
  have HA := Lib.hid h
  have HB := Lib.hid h'
  have HBA := Lib.hid (bits_walk u U w h)
  have HBB := Lib.hid (bits_walk v V w h')
  have HV := Lib.hid hV
  obtain ⟨A, n, c, f, rfl, a1, a2, a3, a4⟩ := h
  have hl := limbs a2 a3 a4
  have HNC := Lib.hid a1.1
  have hn9 : n ≤ 1000000 := a1.2.1
  by_cases hn : n = 0
  · subst hn
    have HR := Lib.hid (show roundP U V = 0 from if_pos (by rw [← a4]; rfl))
    clear a1 a2 a3 a4 hl hn9
    go_enter Tryd.func45, Tryd.ntmps45
    go_wp2_with fail
    go_returns
    exact ⟨Below.refl _ _, by rw [HR.out]; rfl⟩
  · have hU0 : U ≠ 0 := by
      intro e
      rw [e, blen_zero] at hl
      omega
    have t0 : ((n : Int) == 0) = false := by simp; omega
    have HU0 := Lib.hid hU0
    have HPE := Lib.hid (show blen U = blen U from rfl)
    obtain ⟨P, hP⟩ : ∃ P, P = blen U := ⟨_, rfl⟩
    obtain ⟨Q, hQ⟩ : ∃ Q, Q = blen V := ⟨_, rfl⟩
    rw [← hP] at HBA hU8
    rw [← hQ] at HBB hV8
    obtain ⟨E, hE⟩ : ∃ E, E = expo0 U V := ⟨_, rfl⟩
    have eE : max ((P : Int) - (Q : Int) - 53) (-1074) = E := by rw [hE, expo0, ← hP, ← hQ]
    obtain ⟨X, hX⟩ : ∃ X, X = (P : Int) - (Q : Int) - 53 := ⟨_, rfl⟩
    rw [← hX] at eE
    have HE := Lib.hid hE
    have HP := Lib.hid hP
    have HQ := Lib.hid hQ
    have eX := hX.symm
    have xl : X ≤ 100000 := by omega
    have xg : -200000 ≤ X := by omega
    have HX := Lib.hid hX
    obtain ⟨R, hR⟩ : ∃ R, R = roundP U V := ⟨_, rfl⟩
    rw [← hR]
    have HRD := Lib.hid hR
    clear a1 a2 a3 a4 hl hV hn hU0 hP hQ hE hX hR
    by_cases hmx : -1074 ≤ X
    all_goals
      have HEE := Lib.hid (show E = _ from eE.symm.trans (show _ = if -1074 ≤ X then X else -1074 by omega))
      clear eE
      go_enter Tryd.func45, Tryd.ntmps45
      go_wp2_with fail
      refine HBA.out.mono ?_
      rintro e w' ⟨rfl, rfl⟩
      go_wp2_with fail
      refine HBB.out.mono ?_
      rintro e w' ⟨rfl, rfl⟩
      go_wp2_with fail
      clear eX
      go_loopw [5] (fun ev wr => ∃ e : Int, ev = .int .i64 e ∧ (e = E ∨ (e = E + 1 ∧ ¬ qAt U V E < 9007199254740992)) ∧ Below w'.heap.size w' wr) (fun ev _ => (X + 1 - intOf ev).toNat)
      case atStart => exact ⟨_, rfl, .inl (by have := HEE.out; split at this <;> omega), Below.refl _ _⟩
      case round =>
        obtain ⟨e, rfl, he, hbel⟩ := hrel
        have HB0 := Lib.hid hbel
        have HEX := Lib.hid he
        have e1 : e ≤ 100001 := by have := HEE.out; split at this <;> omega
        have e2 : -1074 ≤ e := by have := HEE.out; split at this <;> omega
        have e3 : X ≤ e := by have := HEE.out; split at this <;> omega
        clear he hbel
        have HM := Lib.hid hmx
        clear hmx xl xg
        go_upto_if 24 with fail
        go_cut [6, 7] (fun xv yv wx => Num wx xv (upAt U e) ∧ Num wx yv (dnAt V e) ∧ Below w'.heap.size w' wx)
        case first =>
          by_cases h0 : 0 < e
          · obtain ⟨m, rfl⟩ : ∃ m : Nat, e = (m : Int) := ⟨e.toNat, by omega⟩
            have HSH := Lib.hid (shift_walk v V m wr (HB.out.below HB0.out) (by have := HQ.out; omega))
            have HUP := Lib.hid (show upAt U (m : Int) = U by rw [upAt, show (-(m : Int)).toNat = 0 by omega]; simp)
            have HDN := Lib.hid (show dnAt V (m : Int) = V * 2 ^ m by rw [dnAt, Int.toNat_natCast])
            go_wp2_with fail
            refine HSH.out.mono ?_
            rintro e w2 ⟨hb2, x, rfl, hx⟩
            have HX2 := Lib.hid hx
            have HB2 := Lib.hid hb2
            clear hx hb2
            go_wp2_with fail
            go_meet
            exact ⟨by rw [HUP.out]; exact HA.out.below (HB0.out.trans (HB2.out.mono HB0.out.size)), by rw [HDN.out]; exact HX2.out, HB0.out.trans (HB2.out.mono HB0.out.size)⟩
          · obtain ⟨m, hm⟩ : ∃ m : Nat, m = (-e).toNat := ⟨_, rfl⟩
            have HSH := Lib.hid (shift_walk (.slice A n c) U m wr (HA.out.below HB0.out) (by have := HP.out; omega))
            have HUP := Lib.hid (show upAt U e = U * 2 ^ m by rw [upAt, ← hm])
            have HDN := Lib.hid (show dnAt V e = V by rw [dnAt, show e.toNat = 0 by omega]; simp)
            have em : -e = (m : Int) := by omega
            clear hm
            go_wp2_with fail
            refine HSH.out.mono ?_
            rintro e' w2 ⟨hb2, x, rfl, hx⟩
            have HX2 := Lib.hid hx
            have HB2 := Lib.hid hb2
            clear hx hb2
            go_wp2_with fail
            go_meet
            exact ⟨by rw [HUP.out]; exact HX2.out, by rw [HDN.out]; exact HB.out.below (HB0.out.trans (HB2.out.mono HB0.out.size)), HB0.out.trans (HB2.out.mono HB0.out.size)⟩
        case rest =>
          obtain ⟨h1, h2, h3⟩ := hcut
          have hd : (blen U : Int) - blen V ≤ e + 53 := by have := HX.out; have := HP.out; have := HQ.out; omega
          have hq54 := q_54 U V e HV.out hd
          have hub := upAt_le U e
          have hvb := dnAt_le V e
          have HDV := Lib.hid (show Calls Tryd.prog 30 #[u6, u7] wc fun e' w2 => Below wc.heap.size wc w2 ∧ ∃ v, e' = .returned (.tuple #[.int .u64 (qAt U V e : Nat), v]) ∧ Num w2 v (restAt U V e) from natDiv u6 u7 (upAt U e) (dnAt V e) wc h1 h2 (dn_pos HV.out e) (Nat.lt_trans (show upAt U e / dnAt V e < 18014398509481984 from hq54) (by omega)) (by have := HP.out; omega) (by have := HQ.out; omega))
          have HY := Lib.hid h2
          have HB3 := Lib.hid h3
          obtain ⟨q, hq⟩ : ∃ q, q = qAt U V e := ⟨_, rfl⟩
          obtain ⟨r, hr⟩ : ∃ r, r = restAt U V e := ⟨_, rfl⟩
          obtain ⟨Y, hY⟩ : ∃ Y, Y = dnAt V e := ⟨_, rfl⟩
          rw [← hq, ← hr] at HDV
          rw [← hY] at HY hvb
          have q64 : q < 18446744073709551616 := by omega
          have HQQ := Lib.hid hq
          have HRR := Lib.hid hr
          have HYY := Lib.hid hY
          have HYB := Lib.hid hvb
          clear h1 h2 h3 hd hq54 hub hvb hq hr hY
          go_wp2_with fail
          refine HDV.out.mono ?_
          rintro e' w4 ⟨hb4, x, rfl, hx⟩
          have HX2 := Lib.hid hx
          have HB4 := Lib.hid (HB3.out.trans (hb4.mono HB3.out.size))
          have HY4 := Lib.hid (HY.out.below hb4)
          clear hx hb4
          by_cases hq53 : 9007199254740992 ≤ q
          · have hE1 : ¬ (blen U : Int) - blen V ≤ e + 52 := fun h => by
              have h1 := q_53 U V e HV.out h
              have h2 := HQQ.out
              omega
            have HEX2 := Lib.hid (show e = E by
              rcases HEX.out with h | ⟨h, _⟩
              · exact h
              · exfalso
                have h1 := HX.out
                have h2 := HP.out
                have h3 := HQ.out
                have h4 := HEE.out
                split at h4 <;> omega)
            have HME := Lib.hid (show e ≤ X by have h1 := HX.out; have h2 := HP.out; have h3 := HQ.out; omega)
            have HQ53 := Lib.hid (show ¬ qAt U V E < 9007199254740992 by rw [← HEX2.out, ← HQQ.out]; omega)
            have t1 : (9007199254740992 : Int) ≤ (q : Int) := by omega
            clear hE1 hq53
            go_wp2_with fail
            go_roundw
            case rel => exact ⟨e + 1, rfl, .inr ⟨by rw [HEX2.out], HQ53.out⟩, HB4.out⟩
            case measure => have := HME.out; simp [intOf]; omega
          · have HEO := Lib.hid (expo_of U V e (by rw [← HE.out]; exact HEX.out) (by rw [← HQQ.out]; omega))
            have HQL := Lib.hid (qUp_le U V e (by rw [← HQQ.out]; omega))
            have HR0 := Lib.hid (show roundP U V = if qUp U V e = 9007199254740992 then packP 4503599627370496 (e + 1) else packP (qUp U V e) e by rw [roundP, if_neg HU0.out, HEO.out])
            have HUPD := Lib.hid (show qUp U V e = if Y < r * 2 ∨ (r * 2 = Y ∧ q % 2 = 1) then q + 1 else q by rw [qUp, HYY.out, HRR.out, HQQ.out])
            obtain ⟨Z, hZ⟩ : ∃ Z, Z = qUp U V e := ⟨_, rfl⟩
            rw [← hZ] at HQL HR0 HUPD
            rw [← HRD.out] at HR0
            have t2 : decide ((9007199254740992 : Int) ≤ (q : Int)) = false := by simp; omega
            have HQ53 := Lib.hid (show q < 9007199254740992 by omega)
            have hrY : r < Y := by rw [HRR.out, HYY.out]; exact Nat.mod_lt _ (dn_pos HV.out e)
            have hbr := blen_mono (Nat.le_of_lt hrY)
            have HSH1 := Lib.hid (show Calls Tryd.prog 31 #[x, .int .i64 1] w4 (Gives (r * 2 ^ 1) w4) from shift_walk x r 1 w4 HX2.out (by have := HYB.out; have := HQ.out; omega))
            clear hq53 hrY hbr hZ
            go_wp2_with fail
            refine HSH1.out.mono ?_
            rintro e' w5 ⟨hb5, y, rfl, hy⟩
            have HCM := Lib.hid (cmp_walk _ _ _ _ w5 hy (HY4.out.below hb5))
            have HB5 := Lib.hid (HB4.out.trans (hb5.mono HB4.out.size))
            clear hb5 hy
            go_wp2_with fail
            refine HCM.out.mono ?_
            rintro e' w6 ⟨⟨k6, rfl⟩, rfl⟩
            have HB6 := Lib.hid (below_drewN HB5.out k6)
            have HCD := Lib.hid (show (cmpN (r * 2 ^ 1) Y = 1 ∧ Y < r * 2) ∨ (cmpN (r * 2 ^ 1) Y = 0 ∧ r * 2 = Y) ∨ (cmpN (r * 2 ^ 1) Y = -1 ∧ r * 2 < Y) by
              unfold cmpN
              rw [Nat.pow_one]
              split
              · exact .inr (.inr ⟨rfl, by assumption⟩)
              · split
                · exact .inr (.inl ⟨rfl, by assumption⟩)
                · exact .inl ⟨rfl, by omega⟩)
            obtain ⟨C, hC⟩ : ∃ C, C = cmpN (r * 2 ^ 1) Y := ⟨_, rfl⟩
            rw [← hC] at HCD ⊢
            clear hC HCM
            obtain ⟨w7, hw7⟩ : ∃ w7, w7 = w5.drewN k6 := ⟨_, rfl⟩
            rw [← hw7] at HB6 ⊢
            clear hw7
            go_upto_region 12 with fail
            clear t2
            obtain ⟨B, hB⟩ : ∃ B, B = decide (Y < r * 2 ∨ (r * 2 = Y ∧ q % 2 = 1)) := ⟨_, rfl⟩
            have HBD := Lib.hid hB
            have e1 : bits .and .u64 (q : Int) 1 = ((q % 2 : Nat) : Int) := by
              have h1 := u64_and_nat q 1 q64 (by omega)
              rw [show ((1 : Nat) : Int) = 1 from rfl] at h1
              rw [h1, Nat.and_one_is_mod]
            clear hB
            go_cut [56] (fun bv wx => bv = .bool B ∧ wx = w7)
            case first =>
              rcases HCD.out with ⟨h1, h2⟩ | ⟨h1, h2⟩ | ⟨h1, h2⟩
              · subst h1
                have HBT := Lib.hid (show B = true by rw [HBD.out]; exact decide_eq_true (.inl h2))
                clear h2
                go_wp2_with fail
                go_meet
                exact ⟨by rw [HBT.out], rfl⟩
              · subst h1
                by_cases hp : q % 2 = 1
                · have HBT := Lib.hid (show B = true by rw [HBD.out]; exact decide_eq_true (.inr ⟨h2, hp⟩))
                  have t3 : ((q : Int) % 2 == 1) = true := by simp; omega
                  clear h2 hp
                  go_wp2_with fail
                  go_meet
                  exact ⟨by rw [HBT.out]; try exact congrArg Value.bool t3, rfl⟩
                · have HBT := Lib.hid (show B = false by rw [HBD.out]; exact decide_eq_false (by omega))
                  have t3 : ((q : Int) % 2 == 1) = false := by simp; omega
                  clear h2 hp
                  go_wp2_with fail
                  go_meet
                  exact ⟨by rw [HBT.out]; try exact congrArg Value.bool t3, rfl⟩
              · subst h1
                have HBT := Lib.hid (show B = false by rw [HBD.out]; exact decide_eq_false (by omega))
                clear h2
                go_wp2_with fail
                go_meet
                exact ⟨by rw [HBT.out], rfl⟩
            case rest =>
              obtain ⟨rfl, rfl⟩ := hcut
              go_upto_if 56 with fail
              go_cut [8] (fun qv wx => qv = .int .u64 Z ∧ wx = wc)
              case first =>
                by_cases hb : B = true
                · subst hb
                  have q65 : q + 1 < 18446744073709551616 := by have := HQ53.out; omega
                  have HZ := Lib.hid (show Z = q + 1 by rw [HUPD.out, if_pos (of_decide_eq_true HBD.out.symm)])
                  go_wp2_with fail
                  go_meet
                  exact ⟨val_int (by have := HZ.out; omega), rfl⟩
                · have hb : B = false := by simpa using hb
                  subst hb
                  have HZ := Lib.hid (show Z = q by rw [HUPD.out, if_neg (of_decide_eq_false HBD.out.symm)])
                  go_wp2_with fail
                  go_meet
                  exact ⟨val_int (by have := HZ.out; omega), rfl⟩
              case rest =>
                obtain ⟨rfl, rfl⟩ := hcut
                clear q64 e1
                go_upto_if 60 with fail
                go_cut [5, 8] (fun ev qv wx => (∃ (e2 : Int) (q2 : Nat), ev = .int .i64 e2 ∧ qv = .int .u64 q2 ∧ R = packP q2 e2 ∧ q2 < 9007199254740992 ∧ -1074 ≤ e2 ∧ e2 ≤ 100002) ∧ wx = wc)
                case first =>
                  by_cases hb : Z = 9007199254740992
                  · have HZ := Lib.hid (show R = packP 4503599627370496 (e + 1) by rw [HR0.out, if_pos hb])
                    have t3 : ((Z : Int) == 9007199254740992) = true := by simp; omega
                    have HE1 := Lib.hid (And.intro e1 e2)
                    clear hb
                    go_wp2_with fail
                    go_meet
                    exact ⟨⟨e + 1, 4503599627370496, rfl, rfl, HZ.out, by omega, by have := HE1.out; omega, by have := HE1.out; omega⟩, rfl⟩
                  · have HZ := Lib.hid (show R = packP Z e by rw [HR0.out, if_neg hb])
                    have t3 : ((Z : Int) == 9007199254740992) = false := by simp; omega
                    have HZL := Lib.hid (show Z < 9007199254740992 by have := HQL.out; omega)
                    have HE1 := Lib.hid (And.intro e1 e2)
                    clear hb
                    go_wp2_with fail
                    go_meet
                    exact ⟨⟨e, Z, rfl, rfl, HZ.out, HZL.out, by have := HE1.out; omega, by have := HE1.out; omega⟩, rfl⟩
                case rest =>
                  obtain ⟨⟨f2, q2, rfl, rfl, hR2, hq2, l1, l2⟩, rfl⟩ := hcut
                  have HR2 := Lib.hid hR2
                  clear hR2 e1 e2 e3
                  by_cases h971 : 971 < f2
                  · have HR3 := Lib.hid (show R = 9218868437227405312 by rw [HR2.out, packP, if_pos h971])
                    clear hq2
                    go_wp2_with fail
                    go_returns
                    exact ⟨HB6.out, by rw [HR3.out]; rfl⟩
                  · by_cases hsm : q2 < 4503599627370496
                    · have HR3 := Lib.hid (show R = q2 by rw [HR2.out, packP, if_neg h971, if_pos hsm])
                      have t4 : decide ((q2 : Int) < 4503599627370496) = true := by simp; omega
                      clear hq2 hsm
                      go_wp2_with fail
                      go_returns
                      exact ⟨HB6.out, by rw [HR3.out]; rfl⟩
                    · obtain ⟨m, hm⟩ : ∃ m : Nat, f2 + 1075 = (m : Int) := ⟨(f2 + 1075).toNat, by omega⟩
                      have HR3 := Lib.hid (show R = m * 4503599627370496 + q2 % 4503599627370496 by rw [HR2.out, packP, if_neg h971, if_neg hsm, hm, Int.toNat_natCast])
                      have t4 : decide ((q2 : Int) < 4503599627370496) = false := by simp; omega
                      have m2 : m < 2048 := by omega
                      obtain ⟨p1, p2, p3⟩ := pack_top q2 m m2 (by omega)
                      obtain ⟨M, hM⟩ : ∃ M, M = m * 4503599627370496 := ⟨_, rfl⟩
                      rw [← hM] at p1 p3 HR3
                      obtain ⟨S, hS⟩ : ∃ S, S = q2 % 4503599627370496 := ⟨_, rfl⟩
                      rw [← hS] at p2 p3 HR3
                      obtain ⟨F, hF⟩ : ∃ F, F = M + S := ⟨_, rfl⟩
                      rw [← hF] at p3 HR3
                      clear hq2 hsm hM hS hF
                      go_wp2_with fail
                      go_returns
                      exact ⟨HB6.out, by rw [HR3.out]; rfl⟩
end Go.Proofs.YtifgealimgedpaaDoor.Nats
