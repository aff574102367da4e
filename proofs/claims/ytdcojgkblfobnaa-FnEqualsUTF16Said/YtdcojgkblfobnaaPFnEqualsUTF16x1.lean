-- PRINTED BY print.sh 35421559b90ae4d0a3588c463048766b98c2df88dd9212a6774a882060cdf62d: not written by this session
import Derived.Test.YtdcojgkblfobnaaPFnEqualsUTF16x0
namespace Go.Proofs.Ytdcojgkblfobnaa.PFnEqualsUTF16
open Go.RowKit Go.Proofs.YtdcojgkblfobnaaW.PrintWords Go.Proofs.YtdcojgkblfobnaaW.PrintLast Go.Proofs.YtdcojgkblfobnaaW.PrintMore
attribute [local go_sem] max2_int min2_int max_two min_two max_three min_three max_four min_four   -- for this text's walks alone
set_option linter.unusedVariables false
set_option linter.unusedSimpArgs false

/-! ### helpers_UTF16EqualsUTF16: function 35 -/
def helpers_UTF16EqualsUTF16.l0 : Nat → List Int → List Int → Int → Int → Option (Bool)
  | 0, _, _, _, _ => none
  | k + 1, x1, x12, x13, x14 => if x14 < x13 then (if 0 ≤ x14 then (if x14 < (x12.length : Int) then (if x14 < (x1.length : Int) then (if (rd x12 x14) = (rd x1 x14) then (helpers_UTF16EqualsUTF16.l0 k x1 x12 x13 (wrap64 (x14 + 1))) else (some false)) else (none)) else (none)) else (none)) else (some true)
def helpers_UTF16EqualsUTF16.f (k : Nat) (l0 : List Int) (l1 : List Int) : Option (Bool) := if (l0.length : Int) = (l1.length : Int) then (helpers_UTF16EqualsUTF16.l0 k l1 l0 (l0.length : Int) 0) else (some false)
theorem helpers_UTF16EqualsUTF16.mono_l : ∀ k, (∀ y0 y1 y2 y3, LeO (helpers_UTF16EqualsUTF16.l0 k y0 y1 y2 y3) (helpers_UTF16EqualsUTF16.l0 (k + 1) y0 y1 y2 y3))
  | 0 => fun _ _ _ _ r h => by simp [helpers_UTF16EqualsUTF16.l0] at h
  | k + 1 => by
    have ih0 := helpers_UTF16EqualsUTF16.mono_l k
    · intro y0 y1 y2 y3
      unfold helpers_UTF16EqualsUTF16.l0
      repeat' first
      | (with_reducible exact ih0 _ _ _ _)
      | (with_reducible exact LeO.refl _)
      | (with_reducible exact LeO.none _)
      | (with_reducible refine LeO.ite ?_ ?_)
      | (with_reducible refine LeO.bind ?_ (fun _ => ?_))
      | exact ih0 _ _ _ _
      | exact LeO.none _
      | refine LeO.ite ?_ ?_
      | refine LeO.bind ?_ (fun _ => ?_)
theorem helpers_UTF16EqualsUTF16.mono : ∀ a0 a1 k, LeO (helpers_UTF16EqualsUTF16.f k a0 a1) (helpers_UTF16EqualsUTF16.f (k + 1) a0 a1) := by
  intro a0 a1 k
  have ih0 := helpers_UTF16EqualsUTF16.mono_l k
  unfold helpers_UTF16EqualsUTF16.f
  repeat' first
      | (with_reducible exact ih0 _ _ _ _)
      | (with_reducible exact LeO.refl _)
      | (with_reducible exact LeO.none _)
      | (with_reducible refine LeO.ite ?_ ?_)
      | (with_reducible refine LeO.bind ?_ (fun _ => ?_))
      | exact ih0 _ _ _ _
      | exact LeO.none _
      | refine LeO.ite ?_ ?_
      | refine LeO.bind ?_ (fun _ => ?_)
set_option maxHeartbeats 8000000 in
set_option maxRecDepth 100000 in
theorem helpers_UTF16EqualsUTF16.calls (k : Nat) (A0 : Option Addr) (c0 : Nat) (l0 : List Int) (A1 : Option Addr) (c1 : Nat) (l1 : List Int) (r : Bool) (w : World) (hr0 : Kd.C (Kd.int .u16) w A0 l0.length l0) (hc0 : l0.length ≤ c0) (hr1 : Kd.C (Kd.int .u16) w A1 l1.length l1) (hc1 : l1.length ≤ c1) (h : helpers_UTF16EqualsUTF16.f k l0 l1 = some r) :
    Calls Try.prog 35 #[.slice A0 l0.length c0, .slice A1 l1.length c1] w fun e w' => e = .returned (.bool r) ∧ Drawn0 w w' := by
  have HR0 := Aside0.mk hr0
  have HC0 := Aside0.mk hc0
  clear hr0 hc0
  have HR1 := Aside0.mk hr1
  have HC1 := Aside0.mk hc1
  clear hr1 hc1
  have H : (if (l0.length : Int) = (l1.length : Int) then (helpers_UTF16EqualsUTF16.l0 k l1 l0 (l0.length : Int) 0) else (some false)) = some r := h
  clear h
  by_cases c3 : (l0.length : Int) = (l1.length : Int)
  · rw [if_pos c3] at H
    have c3b0 : ((l0.length : Int) == (l1.length : Int)) = true := beq_iff_eq.mpr c3
    have c3b1 : ((l0.length : Int) != (l1.length : Int)) = false := bne_eq_false_iff_eq.mpr c3
    have c3b2 : (l0.length == l1.length) = true := by first | simpa using c3 | (simp at c3 ⊢; omega)
    clear c3
    have H' := Aside0.mk H
    clear H
    go_enter Try.func35, Try.ntmps35
    go_wp2
    go_loopg [14] k (fun kq v14 w' => ∃ (x14_1 : Int), v14 = .int .i64 x14_1 ∧ Aside0 (helpers_UTF16EqualsUTF16.l0 kq l1 l0 (l0.length : Int) x14_1 = some r) ∧ Aside0 (kq ≤ k) ∧ Drawn0 w w')
    case atStart => exact ⟨(0), (by first | rfl | (simp; done) | (simp [*]; done)), H', ⟨Nat.le_refl _⟩, by repeat (first | exact Drawn0.refl _ | apply Drawn0.step)⟩
    case round =>
      clear H'
      try clear c1
      try clear p2
      try clear c3
      try clear c3b0
      try clear c3b1
      try clear c3b2
      obtain ⟨x14_1, rfl, HA, HK1, ⟨m1, rfl⟩⟩ := hrel
      cases gk with
      | zero => exact absurd HA.out (by simp [helpers_UTF16EqualsUTF16.l0])
      | succ k1 =>
        have H := HA.out
        clear HA
        simp only [helpers_UTF16EqualsUTF16.l0] at H
        by_cases c4 : x14_1 < (l0.length : Int)
        · rw [if_pos c4] at H
          have c4b0 : decide (x14_1 < (l0.length : Int)) = true := decide_eq_true c4
          clear c4
          by_cases c5 : 0 ≤ x14_1
          · rw [if_pos c5] at H
            have c5b0 : decide (0 ≤ x14_1) = true := decide_eq_true c5
            clear c5
            by_cases c6 : x14_1 < (l0.length : Int)
            · rw [if_pos c6] at H
              have c6b0 : decide (x14_1 < (l0.length : Int)) = true := decide_eq_true c6
              clear c6
              by_cases c7 : x14_1 < (l1.length : Int)
              · rw [if_pos c7] at H
                have c7b0 : decide (x14_1 < (l1.length : Int)) = true := decide_eq_true c7
                clear c7
                by_cases c8 : (rd l0 x14_1) = (rd l1 x14_1)
                · rw [if_pos c8] at H
                  have c8b0 : ((rd l0 x14_1) == (rd l1 x14_1)) = true := beq_iff_eq.mpr c8
                  have c8b1 : ((rd l0 x14_1) != (rd l1 x14_1)) = false := bne_eq_false_iff_eq.mpr c8
                  clear c8
                  have H' := Aside0.mk H
                  clear H
                  have p101 : 0 ≤ (x14_1 : Int) := of_decide_eq_true (by first | (with_reducible assumption) | assumption)
                  have q101 : x14_1 < (l0.length : Int) := of_decide_eq_true (by first | (with_reducible assumption) | assumption)
                  obtain ⟨ad101, e101, hx101_0⟩ := Kd.at_int HR0.out x14_1 p101 q101
                  cases e101
                  replace p101 := eq_true p101
                  replace q101 := eq_true q101
                  have p102 : 0 ≤ (x14_1 : Int) := of_decide_eq_true (by first | (with_reducible assumption) | assumption)
                  have q102 : x14_1 < (l1.length : Int) := of_decide_eq_true (by first | (with_reducible assumption) | assumption)
                  obtain ⟨ad102, e102, hx102_0⟩ := Kd.at_int HR1.out x14_1 p102 q102
                  cases e102
                  replace p102 := eq_true p102
                  replace q102 := eq_true q102
                  go_wp2
                  go_roundg k1
                  case measure => have := HK1.out; omega
                  case rel => exact ⟨(wrap64 (x14_1 + 1)), (by first | rfl | (simp; done) | (simp [*]; done)), H', ⟨by have := HK1.out; omega⟩, by repeat (first | exact Drawn0.refl _ | apply Drawn0.step)⟩
                · rw [if_neg c8] at H
                  have c8b0 : ((rd l0 x14_1) == (rd l1 x14_1)) = false := beq_eq_false_iff_ne.mpr c8
                  have c8b1 : ((rd l0 x14_1) != (rd l1 x14_1)) = true := bne_iff_ne.mpr c8
                  obtain rfl := Option.some.inj H
                  have p101 : 0 ≤ (x14_1 : Int) := of_decide_eq_true (by first | (with_reducible assumption) | assumption)
                  have q101 : x14_1 < (l0.length : Int) := of_decide_eq_true (by first | (with_reducible assumption) | assumption)
                  obtain ⟨ad101, e101, hx101_0⟩ := Kd.at_int HR0.out x14_1 p101 q101
                  cases e101
                  replace p101 := eq_true p101
                  replace q101 := eq_true q101
                  have p102 : 0 ≤ (x14_1 : Int) := of_decide_eq_true (by first | (with_reducible assumption) | assumption)
                  have q102 : x14_1 < (l1.length : Int) := of_decide_eq_true (by first | (with_reducible assumption) | assumption)
                  obtain ⟨ad102, e102, hx102_0⟩ := Kd.at_int HR1.out x14_1 p102 q102
                  cases e102
                  replace p102 := eq_true p102
                  replace q102 := eq_true q102
                  go_wp2
                  go_ret
                  exact ⟨by first | rfl | (simp; done) | (simp [*]; done), by repeat (first | exact Drawn0.refl _ | apply Drawn0.step)⟩
              · rw [if_neg c7] at H
                exact absurd H (by simp)
            · rw [if_neg c6] at H
              exact absurd H (by simp)
          · rw [if_neg c5] at H
            exact absurd H (by simp)
        · rw [if_neg c4] at H
          have c4b0 : decide (x14_1 < (l0.length : Int)) = false := decide_eq_false c4
          clear c4
          obtain rfl := Option.some.inj H
          go_wp2
          go_ret
          exact ⟨by first | rfl | (simp; done) | (simp [*]; done), by repeat (first | exact Drawn0.refl _ | apply Drawn0.step)⟩
  · rw [if_neg c3] at H
    have c3b0 : ((l0.length : Int) == (l1.length : Int)) = false := beq_eq_false_iff_ne.mpr c3
    have c3b1 : ((l0.length : Int) != (l1.length : Int)) = true := bne_iff_ne.mpr c3
    have c3b2 : (l0.length == l1.length) = false := by first | simpa using c3 | (simp at c3 ⊢; omega)
    obtain rfl := Option.some.inj H
    go_enter Try.func35, Try.ntmps35
    go_wp2
    go_ret
    exact ⟨by first | rfl | (simp; done) | (simp [*]; done), by repeat (first | exact Drawn0.refl _ | apply Drawn0.step)⟩

/-! ### impl_EqualsUTF16: function 16 -/
def impl_EqualsUTF16.f (k : Nat) (l0 : List Int) (l1 : List Int) : Option (Bool) := (helpers_UTF16EqualsUTF16.f k l0 l1).bind fun t103 => (some t103)
theorem impl_EqualsUTF16.mono : ∀ a0 a1 k, LeO (impl_EqualsUTF16.f k a0 a1) (impl_EqualsUTF16.f (k + 1) a0 a1) := by
  intro a0 a1 k
  unfold impl_EqualsUTF16.f
  repeat' first
      | (with_reducible exact helpers_UTF16EqualsUTF16.mono _ _ _)
      | (with_reducible exact LeO.refl _)
      | (with_reducible exact LeO.none _)
      | (with_reducible refine LeO.ite ?_ ?_)
      | (with_reducible refine LeO.bind ?_ (fun _ => ?_))
      | exact helpers_UTF16EqualsUTF16.mono _ _ _
      | exact LeO.none _
      | refine LeO.ite ?_ ?_
      | refine LeO.bind ?_ (fun _ => ?_)
set_option maxHeartbeats 8000000 in
set_option maxRecDepth 100000 in
theorem impl_EqualsUTF16.calls (k : Nat) (A0 : Option Addr) (c0 : Nat) (l0 : List Int) (A1 : Option Addr) (c1 : Nat) (l1 : List Int) (r : Bool) (w : World) (hr0 : Kd.C (Kd.int .u16) w A0 l0.length l0) (hc0 : l0.length ≤ c0) (hr1 : Kd.C (Kd.int .u16) w A1 l1.length l1) (hc1 : l1.length ≤ c1) (h : impl_EqualsUTF16.f k l0 l1 = some r) :
    Calls Try.prog 16 #[.slice A0 l0.length c0, .slice A1 l1.length c1] w fun e w' => e = .returned (.bool r) ∧ Drawn0 w w' := by
  have HR0 := Aside0.mk hr0
  have HC0 := Aside0.mk hc0
  clear hr0 hc0
  have HR1 := Aside0.mk hr1
  have HC1 := Aside0.mk hc1
  clear hr1 hc1
  have H : ((helpers_UTF16EqualsUTF16.f k l0 l1).bind fun t103 => (some t103)) = some r := h
  clear h
  replace H := Option.bind_eq_some_iff.mp H
  obtain ⟨t103, A30, H⟩ := H
  replace H : (some t103) = some r := H
  have A3 := Aside0.mk A30
  clear A30
  obtain rfl := Option.some.inj H
  go_enter Try.func16, Try.ntmps16
  go_wp2_with (first | ((with_reducible refine gate_callee (f := 35) rfl ?_); refine goesL_ (some 7) rfl rfl Try.func35 (by kernel_rfl) rfl #[.slice A0 l0.length c0, .slice A1 l1.length c1] rfl (by (try simp only [List.map_toArray, List.map_cons, List.map_nil]); first | done | rfl | (simp only [List.length_drop, List.length_take]; rfl)) ?_; (with_reducible refine (helpers_UTF16EqualsUTF16.calls k _ _ l0 _ _ l1 t103 _ ?side1 ?side2 ?side3 ?side4 A3.out).mono ?_); (case side1 => repeat (first | exact HR0.out | (with_reducible refine Kd.C_alloc ?_ _) | (with_reducible refine Kd.C_drewN ?_ _) | (with_reducible refine Kd.C_drew ?_))); (case side2 => exact HC0.out); (case side3 => repeat (first | exact HR1.out | (with_reducible refine Kd.C_alloc ?_ _) | (with_reducible refine Kd.C_drewN ?_ _) | (with_reducible refine Kd.C_drew ?_))); (case side4 => exact HC1.out); rintro e w' ⟨rfl, ⟨nd, rfl⟩⟩; refine ⟨_, rfl, ?_⟩))
  go_ret
  exact ⟨by first | rfl | (simp; done) | (simp [*]; done), by repeat (first | exact Drawn0.refl _ | apply Drawn0.step)⟩

/-! ### spec_WtfEqual: function 17 -/
def spec_WtfEqual.l0 : Nat → List Int → List Int → Int → Option (Bool)
  | 0, _, _, _ => none
  | k + 1, x0, x1, x5 => if x5 < (x0.length : Int) then (if 0 ≤ x5 then (if x5 < (x1.length : Int) then (if (rd x0 x5) = (rd x1 x5) then (spec_WtfEqual.l0 k x0 x1 (wrap64 (x5 + 1))) else (some false)) else (none)) else (none)) else (some true)
def spec_WtfEqual.f (k : Nat) (l0 : List Int) (l1 : List Int) : Option (Bool) := if (l0.length : Int) = (l1.length : Int) then (spec_WtfEqual.l0 k l0 l1 0) else (some false)
theorem spec_WtfEqual.mono_l : ∀ k, (∀ y0 y1 y2, LeO (spec_WtfEqual.l0 k y0 y1 y2) (spec_WtfEqual.l0 (k + 1) y0 y1 y2))
  | 0 => fun _ _ _ r h => by simp [spec_WtfEqual.l0] at h
  | k + 1 => by
    have ih0 := spec_WtfEqual.mono_l k
    · intro y0 y1 y2
      unfold spec_WtfEqual.l0
      repeat' first
      | (with_reducible exact ih0 _ _ _)
      | (with_reducible exact LeO.refl _)
      | (with_reducible exact LeO.none _)
      | (with_reducible refine LeO.ite ?_ ?_)
      | (with_reducible refine LeO.bind ?_ (fun _ => ?_))
      | exact ih0 _ _ _
      | exact LeO.none _
      | refine LeO.ite ?_ ?_
      | refine LeO.bind ?_ (fun _ => ?_)
theorem spec_WtfEqual.mono : ∀ a0 a1 k, LeO (spec_WtfEqual.f k a0 a1) (spec_WtfEqual.f (k + 1) a0 a1) := by
  intro a0 a1 k
  have ih0 := spec_WtfEqual.mono_l k
  unfold spec_WtfEqual.f
  repeat' first
      | (with_reducible exact ih0 _ _ _)
      | (with_reducible exact LeO.refl _)
      | (with_reducible exact LeO.none _)
      | (with_reducible refine LeO.ite ?_ ?_)
      | (with_reducible refine LeO.bind ?_ (fun _ => ?_))
      | exact ih0 _ _ _
      | exact LeO.none _
      | refine LeO.ite ?_ ?_
      | refine LeO.bind ?_ (fun _ => ?_)
set_option maxHeartbeats 8000000 in
set_option maxRecDepth 100000 in
theorem spec_WtfEqual.calls (k : Nat) (A0 : Option Addr) (c0 : Nat) (l0 : List Int) (A1 : Option Addr) (c1 : Nat) (l1 : List Int) (r : Bool) (w : World) (hr0 : Kd.C (Kd.int .u16) w A0 l0.length l0) (hc0 : l0.length ≤ c0) (hr1 : Kd.C (Kd.int .u16) w A1 l1.length l1) (hc1 : l1.length ≤ c1) (h : spec_WtfEqual.f k l0 l1 = some r) :
    Calls Try.prog 17 #[.slice A0 l0.length c0, .slice A1 l1.length c1] w fun e w' => e = .returned (.bool r) ∧ Drawn0 w w' := by
  have HR0 := Aside0.mk hr0
  have HC0 := Aside0.mk hc0
  clear hr0 hc0
  have HR1 := Aside0.mk hr1
  have HC1 := Aside0.mk hc1
  clear hr1 hc1
  have H : (if (l0.length : Int) = (l1.length : Int) then (spec_WtfEqual.l0 k l0 l1 0) else (some false)) = some r := h
  clear h
  by_cases c3 : (l0.length : Int) = (l1.length : Int)
  · rw [if_pos c3] at H
    have c3b0 : ((l0.length : Int) == (l1.length : Int)) = true := beq_iff_eq.mpr c3
    have c3b1 : ((l0.length : Int) != (l1.length : Int)) = false := bne_eq_false_iff_eq.mpr c3
    have c3b2 : (l0.length == l1.length) = true := by first | simpa using c3 | (simp at c3 ⊢; omega)
    clear c3
    have H' := Aside0.mk H
    clear H
    go_enter Try.func17, Try.ntmps17
    go_wp2
    repeat (go_quiet (fail); try go_wp2)
    go_loopg [5] k (fun kq v5 w' => ∃ (x5_1 : Int), v5 = .int .i64 x5_1 ∧ Aside0 (spec_WtfEqual.l0 kq l0 l1 x5_1 = some r) ∧ Aside0 (kq ≤ k) ∧ Drawn0 w w')
    case atStart => exact ⟨(0), (by first | rfl | (simp; done) | (simp [*]; done)), H', ⟨Nat.le_refl _⟩, by repeat (first | exact Drawn0.refl _ | apply Drawn0.step)⟩
    case round =>
      clear H'
      try clear c1
      try clear p2
      try clear c3
      try clear c3b0
      try clear c3b1
      try clear c3b2
      obtain ⟨x5_1, rfl, HA, HK1, ⟨m1, rfl⟩⟩ := hrel
      cases gk with
      | zero => exact absurd HA.out (by simp [spec_WtfEqual.l0])
      | succ k1 =>
        have H := HA.out
        clear HA
        simp only [spec_WtfEqual.l0] at H
        by_cases c4 : x5_1 < (l0.length : Int)
        · rw [if_pos c4] at H
          have c4b0 : decide (x5_1 < (l0.length : Int)) = true := decide_eq_true c4
          clear c4
          by_cases c5 : 0 ≤ x5_1
          · rw [if_pos c5] at H
            have c5b0 : decide (0 ≤ x5_1) = true := decide_eq_true c5
            clear c5
            by_cases c6 : x5_1 < (l1.length : Int)
            · rw [if_pos c6] at H
              have c6b0 : decide (x5_1 < (l1.length : Int)) = true := decide_eq_true c6
              clear c6
              by_cases c7 : (rd l0 x5_1) = (rd l1 x5_1)
              · rw [if_pos c7] at H
                have c7b0 : ((rd l0 x5_1) == (rd l1 x5_1)) = true := beq_iff_eq.mpr c7
                have c7b1 : ((rd l0 x5_1) != (rd l1 x5_1)) = false := bne_eq_false_iff_eq.mpr c7
                clear c7
                have H' := Aside0.mk H
                clear H
                have p104 : 0 ≤ (x5_1 : Int) := of_decide_eq_true (by first | (with_reducible assumption) | assumption)
                have q104 : x5_1 < (l0.length : Int) := of_decide_eq_true (by first | (with_reducible assumption) | assumption)
                obtain ⟨ad104, e104, hx104_0⟩ := Kd.at_int HR0.out x5_1 p104 q104
                cases e104
                replace p104 := eq_true p104
                replace q104 := eq_true q104
                have p105 : 0 ≤ (x5_1 : Int) := of_decide_eq_true (by first | (with_reducible assumption) | assumption)
                have q105 : x5_1 < (l1.length : Int) := of_decide_eq_true (by first | (with_reducible assumption) | assumption)
                obtain ⟨ad105, e105, hx105_0⟩ := Kd.at_int HR1.out x5_1 p105 q105
                cases e105
                replace p105 := eq_true p105
                replace q105 := eq_true q105
                go_wp2
                repeat (go_quiet (fail); try go_wp2)
                go_roundg k1
                case measure => have := HK1.out; omega
                case rel => exact ⟨(wrap64 (x5_1 + 1)), (by first | rfl | (simp; done) | (simp [*]; done)), H', ⟨by have := HK1.out; omega⟩, by repeat (first | exact Drawn0.refl _ | apply Drawn0.step)⟩
              · rw [if_neg c7] at H
                have c7b0 : ((rd l0 x5_1) == (rd l1 x5_1)) = false := beq_eq_false_iff_ne.mpr c7
                have c7b1 : ((rd l0 x5_1) != (rd l1 x5_1)) = true := bne_iff_ne.mpr c7
                obtain rfl := Option.some.inj H
                have p104 : 0 ≤ (x5_1 : Int) := of_decide_eq_true (by first | (with_reducible assumption) | assumption)
                have q104 : x5_1 < (l0.length : Int) := of_decide_eq_true (by first | (with_reducible assumption) | assumption)
                obtain ⟨ad104, e104, hx104_0⟩ := Kd.at_int HR0.out x5_1 p104 q104
                cases e104
                replace p104 := eq_true p104
                replace q104 := eq_true q104
                have p105 : 0 ≤ (x5_1 : Int) := of_decide_eq_true (by first | (with_reducible assumption) | assumption)
                have q105 : x5_1 < (l1.length : Int) := of_decide_eq_true (by first | (with_reducible assumption) | assumption)
                obtain ⟨ad105, e105, hx105_0⟩ := Kd.at_int HR1.out x5_1 p105 q105
                cases e105
                replace p105 := eq_true p105
                replace q105 := eq_true q105
                go_wp2
                repeat (go_quiet (fail); try go_wp2)
                go_ret
                exact ⟨by first | rfl | (simp; done) | (simp [*]; done), by repeat (first | exact Drawn0.refl _ | apply Drawn0.step)⟩
            · rw [if_neg c6] at H
              exact absurd H (by simp)
          · rw [if_neg c5] at H
            exact absurd H (by simp)
        · rw [if_neg c4] at H
          have c4b0 : decide (x5_1 < (l0.length : Int)) = false := decide_eq_false c4
          clear c4
          obtain rfl := Option.some.inj H
          go_wp2
          repeat (go_quiet (fail); try go_wp2)
          go_ret
          exact ⟨by first | rfl | (simp; done) | (simp [*]; done), by repeat (first | exact Drawn0.refl _ | apply Drawn0.step)⟩
  · rw [if_neg c3] at H
    have c3b0 : ((l0.length : Int) == (l1.length : Int)) = false := beq_eq_false_iff_ne.mpr c3
    have c3b1 : ((l0.length : Int) != (l1.length : Int)) = true := bne_iff_ne.mpr c3
    have c3b2 : (l0.length == l1.length) = false := by first | simpa using c3 | (simp at c3 ⊢; omega)
    obtain rfl := Option.some.inj H
    go_enter Try.func17, Try.ntmps17
    go_wp2
    repeat (go_quiet (fail); try go_wp2)
    go_ret
    exact ⟨by first | rfl | (simp; done) | (simp [*]; done), by repeat (first | exact Drawn0.refl _ | apply Drawn0.step)⟩

/-! ### laws_FnEqualsUTF16: function 4 -/
def laws_FnEqualsUTF16.j0 : Nat → List Int → List Int → Bool → Option (Bool)
  | 0, _, _, _ => none
  | k + 1, x0, x1, x12 => if x12 = true then (some true) else ((impl_EqualsUTF16.f k x0 x1).bind fun t106 => ((spec_WtfEqual.f k x0 x1).bind fun t107 => (if (t106 == t107) = true then ((impl_EqualsUTF16.f k x0 x0).bind fun t108 => (some t108)) else (some false))))
def laws_FnEqualsUTF16.f (k : Nat) (l0 : List Int) (l1 : List Int) : Option (Bool) := if (l0.length : Int) > 2147483647 then (laws_FnEqualsUTF16.j0 k l0 l1 true) else (laws_FnEqualsUTF16.j0 k l0 l1 (decide ((l1.length : Int) > 2147483647)))
theorem laws_FnEqualsUTF16.mono_l : ∀ k, (∀ y0 y1 y2, LeO (laws_FnEqualsUTF16.j0 k y0 y1 y2) (laws_FnEqualsUTF16.j0 (k + 1) y0 y1 y2))
  | 0 => fun _ _ _ r h => by simp [laws_FnEqualsUTF16.j0] at h
  | k + 1 => by
    have ih0 := laws_FnEqualsUTF16.mono_l k
    · intro y0 y1 y2
      unfold laws_FnEqualsUTF16.j0
      repeat' first
      | (with_reducible exact ih0 _ _ _)
      | (with_reducible exact impl_EqualsUTF16.mono _ _ _)
      | (with_reducible exact spec_WtfEqual.mono _ _ _)
      | (with_reducible exact LeO.refl _)
      | (with_reducible exact LeO.none _)
      | (with_reducible refine LeO.ite ?_ ?_)
      | (with_reducible refine LeO.bind ?_ (fun _ => ?_))
      | exact ih0 _ _ _
      | exact impl_EqualsUTF16.mono _ _ _
      | exact spec_WtfEqual.mono _ _ _
      | exact LeO.none _
      | refine LeO.ite ?_ ?_
      | refine LeO.bind ?_ (fun _ => ?_)
theorem laws_FnEqualsUTF16.mono : ∀ a0 a1 k, LeO (laws_FnEqualsUTF16.f k a0 a1) (laws_FnEqualsUTF16.f (k + 1) a0 a1) := by
  intro a0 a1 k
  have ih0 := laws_FnEqualsUTF16.mono_l k
  unfold laws_FnEqualsUTF16.f
  repeat' first
      | (with_reducible exact ih0 _ _ _)
      | (with_reducible exact impl_EqualsUTF16.mono _ _ _)
      | (with_reducible exact spec_WtfEqual.mono _ _ _)
      | (with_reducible exact LeO.refl _)
      | (with_reducible exact LeO.none _)
      | (with_reducible refine LeO.ite ?_ ?_)
      | (with_reducible refine LeO.bind ?_ (fun _ => ?_))
      | exact ih0 _ _ _
      | exact impl_EqualsUTF16.mono _ _ _
      | exact spec_WtfEqual.mono _ _ _
      | exact LeO.none _
      | refine LeO.ite ?_ ?_
      | refine LeO.bind ?_ (fun _ => ?_)
set_option maxHeartbeats 8000000 in
set_option maxRecDepth 100000 in
theorem laws_FnEqualsUTF16.calls (k : Nat) (A0 : Option Addr) (c0 : Nat) (l0 : List Int) (A1 : Option Addr) (c1 : Nat) (l1 : List Int) (r : Bool) (w : World) (hr0 : Kd.C (Kd.int .u16) w A0 l0.length l0) (hc0 : l0.length ≤ c0) (hr1 : Kd.C (Kd.int .u16) w A1 l1.length l1) (hc1 : l1.length ≤ c1) (h : laws_FnEqualsUTF16.f k l0 l1 = some r) :
    Calls Try.prog 4 #[.slice A0 l0.length c0, .slice A1 l1.length c1] w fun e w' => e = .returned (.bool r) ∧ Drawn0 w w' := by
  have HR0 := Aside0.mk hr0
  have HC0 := Aside0.mk hc0
  clear hr0 hc0
  have HR1 := Aside0.mk hr1
  have HC1 := Aside0.mk hc1
  clear hr1 hc1
  have H : (if (l0.length : Int) > 2147483647 then (laws_FnEqualsUTF16.j0 k l0 l1 true) else (laws_FnEqualsUTF16.j0 k l0 l1 (decide ((l1.length : Int) > 2147483647)))) = some r := h
  clear h
  have HC3 := Aside0.mk H
  clear H
  go_enter Try.func4, Try.ntmps4
  go_upto_region 1 with (fail)
  go_cut [12] (fun v12 wc => ∃ (kq : Nat) (x12_2 : Bool), v12 = .bool x12_2 ∧ Aside0 (laws_FnEqualsUTF16.j0 kq l0 l1 x12_2 = some r) ∧ Aside0 (kq ≤ k) ∧ Drawn0 w wc)
  case first =>
    have H := HC3.out
    clear HC3
    by_cases c4 : (l0.length : Int) > 2147483647
    · rw [if_pos c4] at H
      have c4b0 : decide (2147483647 < (l0.length : Int)) = true := decide_eq_true c4
      have c4b1 : decide (2147483647 < l0.length) = true := decide_eq_true (by omega)
      clear c4
      (first | rw [c4b0] | (simp only [i64_w, i32_w]; rw [c4b0]) | skip)
      have H' := Aside0.mk H
      clear H
      go_wp2
      go_meet
      case rel => exact ⟨_, (true), (by first | rfl | (simp; done) | (simp [*]; done)), H', ⟨by first | omega | exact Nat.le_refl _⟩, by repeat (first | exact Drawn0.refl _ | apply Drawn0.step)⟩
    · rw [if_neg c4] at H
      have c4b0 : decide (2147483647 < (l0.length : Int)) = false := decide_eq_false c4
      have c4b1 : decide (2147483647 < l0.length) = false := decide_eq_false (by omega)
      clear c4
      (first | rw [c4b0] | (simp only [i64_w, i32_w]; rw [c4b0]) | skip)
      have H' := Aside0.mk H
      clear H
      go_wp2
      go_meet
      case rel => exact ⟨_, (decide ((l1.length : Int) > 2147483647)), (by first | rfl | (simp; done) | (simp [*]; done)), H', ⟨by first | omega | exact Nat.le_refl _⟩, by repeat (first | exact Drawn0.refl _ | apply Drawn0.step)⟩
  case rest =>
    clear HC3
    try clear c1
    try clear p2
    try clear c4
    try clear c4b0
    try clear c4b1
    obtain ⟨kq, x12_2, rfl, HA, HJ2, ⟨mc2, rfl⟩⟩ := hcut
    cases kq with
    | zero => exact absurd HA.out (by simp [laws_FnEqualsUTF16.j0])
    | succ kj2 =>
      have H := HA.out
      clear HA
      simp only [laws_FnEqualsUTF16.j0] at H
      by_cases c5 : x12_2 = true
      · subst c5
        have H1 : (some true) = some r := by rw [if_pos rfl] at H; exact H
        clear H
        have H := H1
        clear H1
        obtain rfl := Option.some.inj H
        go_wp2
        go_ret
        exact ⟨by first | rfl | (simp; done) | (simp [*]; done), by repeat (first | exact Drawn0.refl _ | apply Drawn0.step)⟩
      · replace c5 := Bool.eq_false_iff.mpr c5
        subst c5
        have H1 : ((impl_EqualsUTF16.f kj2 l0 l1).bind fun t106 => ((spec_WtfEqual.f kj2 l0 l1).bind fun t107 => (if (t106 == t107) = true then ((impl_EqualsUTF16.f kj2 l0 l0).bind fun t108 => (some t108)) else (some false)))) = some r := by rw [if_neg (show ¬ (false = true) by decide)] at H; exact H
        clear H
        have H := H1
        clear H1
        replace H := Option.bind_eq_some_iff.mp H
        obtain ⟨t106, A60, H⟩ := H
        replace H : ((spec_WtfEqual.f kj2 l0 l1).bind fun t107 => (if (t106 == t107) = true then ((impl_EqualsUTF16.f kj2 l0 l0).bind fun t108 => (some t108)) else (some false))) = some r := H
        have A6 := Aside0.mk A60
        clear A60
        replace H := Option.bind_eq_some_iff.mp H
        obtain ⟨t107, A70, H⟩ := H
        replace H : (if (t106 == t107) = true then ((impl_EqualsUTF16.f kj2 l0 l0).bind fun t108 => (some t108)) else (some false)) = some r := H
        have A7 := Aside0.mk A70
        clear A70
        by_cases c8 : (t106 == t107) = true
        · rw [if_pos c8] at H
          have c8b0 : (t106 == t107) = true := c8
          (try (have c8b1 : decide (t106 = t107) = true := by simpa using c8))
          (try (have c8b2 : (t106 == t107) = true := by simpa using c8))
          clear c8
          replace H := Option.bind_eq_some_iff.mp H
          obtain ⟨t108, A90, H⟩ := H
          replace H : (some t108) = some r := H
          have A9 := Aside0.mk A90
          clear A90
          obtain rfl := Option.some.inj H
          go_wp2_with (first | ((with_reducible refine gate_callee (f := 16) rfl ?_); refine goesL_ (some 15) rfl rfl Try.func16 (by kernel_rfl) rfl #[.slice A0 l0.length c0, .slice A1 l1.length c1] rfl (by (try simp only [List.map_toArray, List.map_cons, List.map_nil]); first | done | rfl | (simp only [List.length_drop, List.length_take]; rfl)) ?_; (with_reducible refine (impl_EqualsUTF16.calls kj2 _ _ l0 _ _ l1 t106 _ ?side1 ?side2 ?side3 ?side4 A6.out).mono ?_); (case side1 => repeat (first | exact HR0.out | (with_reducible refine Kd.C_alloc ?_ _) | (with_reducible refine Kd.C_drewN ?_ _) | (with_reducible refine Kd.C_drew ?_))); (case side2 => exact HC0.out); (case side3 => repeat (first | exact HR1.out | (with_reducible refine Kd.C_alloc ?_ _) | (with_reducible refine Kd.C_drewN ?_ _) | (with_reducible refine Kd.C_drew ?_))); (case side4 => exact HC1.out); rintro e w' ⟨rfl, ⟨nd, rfl⟩⟩; refine ⟨_, rfl, ?_⟩) | ((with_reducible refine gate_callee (f := 17) rfl ?_); refine goesL_ (some 18) rfl rfl Try.func17 (by kernel_rfl) rfl #[.slice A0 l0.length c0, .slice A1 l1.length c1] rfl (by (try simp only [List.map_toArray, List.map_cons, List.map_nil]); first | done | rfl | (simp only [List.length_drop, List.length_take]; rfl)) ?_; (with_reducible refine (spec_WtfEqual.calls kj2 _ _ l0 _ _ l1 t107 _ ?side1 ?side2 ?side3 ?side4 A7.out).mono ?_); (case side1 => repeat (first | exact HR0.out | (with_reducible refine Kd.C_alloc ?_ _) | (with_reducible refine Kd.C_drewN ?_ _) | (with_reducible refine Kd.C_drew ?_))); (case side2 => exact HC0.out); (case side3 => repeat (first | exact HR1.out | (with_reducible refine Kd.C_alloc ?_ _) | (with_reducible refine Kd.C_drewN ?_ _) | (with_reducible refine Kd.C_drew ?_))); (case side4 => exact HC1.out); rintro e w' ⟨rfl, ⟨nd, rfl⟩⟩; refine ⟨_, rfl, ?_⟩) | (go_at_call 16; (with_reducible refine (impl_EqualsUTF16.calls kj2 _ _ l0 _ _ l0 t108 _ ?side1 ?side2 ?side3 ?side4 A9.out).mono ?_); (case side1 => repeat (first | exact HR0.out | (with_reducible refine Kd.C_alloc ?_ _) | (with_reducible refine Kd.C_drewN ?_ _) | (with_reducible refine Kd.C_drew ?_))); (case side2 => exact HC0.out); (case side3 => repeat (first | exact HR0.out | (with_reducible refine Kd.C_alloc ?_ _) | (with_reducible refine Kd.C_drewN ?_ _) | (with_reducible refine Kd.C_drew ?_))); (case side4 => exact HC0.out); rintro e w' ⟨rfl, ⟨nd, rfl⟩⟩))
          go_ret
          exact ⟨by first | rfl | (simp; done) | (simp [*]; done), by repeat (first | exact Drawn0.refl _ | apply Drawn0.step)⟩
        · rw [if_neg c8] at H
          have c8b0 : (t106 == t107) = false := by simpa using c8
          (try (have c8b1 : decide (t106 = t107) = false := by simpa using c8))
          (try (have c8b2 : (t106 == t107) = false := by simpa using c8))
          (try (have c8b3 : ¬ (t106 = t107) := by simpa using c8))
          clear c8
          obtain rfl := Option.some.inj H
          go_wp2_with (first | ((with_reducible refine gate_callee (f := 16) rfl ?_); refine goesL_ (some 15) rfl rfl Try.func16 (by kernel_rfl) rfl #[.slice A0 l0.length c0, .slice A1 l1.length c1] rfl (by (try simp only [List.map_toArray, List.map_cons, List.map_nil]); first | done | rfl | (simp only [List.length_drop, List.length_take]; rfl)) ?_; (with_reducible refine (impl_EqualsUTF16.calls kj2 _ _ l0 _ _ l1 t106 _ ?side1 ?side2 ?side3 ?side4 A6.out).mono ?_); (case side1 => repeat (first | exact HR0.out | (with_reducible refine Kd.C_alloc ?_ _) | (with_reducible refine Kd.C_drewN ?_ _) | (with_reducible refine Kd.C_drew ?_))); (case side2 => exact HC0.out); (case side3 => repeat (first | exact HR1.out | (with_reducible refine Kd.C_alloc ?_ _) | (with_reducible refine Kd.C_drewN ?_ _) | (with_reducible refine Kd.C_drew ?_))); (case side4 => exact HC1.out); rintro e w' ⟨rfl, ⟨nd, rfl⟩⟩; refine ⟨_, rfl, ?_⟩) | ((with_reducible refine gate_callee (f := 17) rfl ?_); refine goesL_ (some 18) rfl rfl Try.func17 (by kernel_rfl) rfl #[.slice A0 l0.length c0, .slice A1 l1.length c1] rfl (by (try simp only [List.map_toArray, List.map_cons, List.map_nil]); first | done | rfl | (simp only [List.length_drop, List.length_take]; rfl)) ?_; (with_reducible refine (spec_WtfEqual.calls kj2 _ _ l0 _ _ l1 t107 _ ?side1 ?side2 ?side3 ?side4 A7.out).mono ?_); (case side1 => repeat (first | exact HR0.out | (with_reducible refine Kd.C_alloc ?_ _) | (with_reducible refine Kd.C_drewN ?_ _) | (with_reducible refine Kd.C_drew ?_))); (case side2 => exact HC0.out); (case side3 => repeat (first | exact HR1.out | (with_reducible refine Kd.C_alloc ?_ _) | (with_reducible refine Kd.C_drewN ?_ _) | (with_reducible refine Kd.C_drew ?_))); (case side4 => exact HC1.out); rintro e w' ⟨rfl, ⟨nd, rfl⟩⟩; refine ⟨_, rfl, ?_⟩))
          go_ret
          exact ⟨by first | rfl | (simp; done) | (simp [*]; done), by repeat (first | exact Drawn0.refl _ | apply Drawn0.step)⟩

/-- THE ONE PURE STATEMENT of laws_FnEqualsUTF16: yours. -/
def laws_FnEqualsUTF16.Pure : Prop := ∀ (l0 : List Int) (l1 : List Int), l0.length ≤ maxLen → l0.length * 2 ≤ 140737488351232 → (∀ x ∈ l0, (Lit.int .u16 x).wf = true) → l1.length ≤ maxLen → l1.length * 2 ≤ 140737488351232 → (∀ x ∈ l1, (Lit.int .u16 x).wf = true) → ∃ k, laws_FnEqualsUTF16.f k l0 l1 = some true
theorem laws_FnEqualsUTF16.walk (P : laws_FnEqualsUTF16.Pure) (a0 : Option Addr) (len0 cap0 : Nat) (z0 : List Int) (a1 : Option Addr) (len1 cap1 : Nat) (z1 : List Int) (w : World) (w0 : (a0 = none ∧ len0 = 0 ∧ cap0 = 0 ∧ z0 = []) ∨ ∃ x, a0 = some x ∧ len0 ≤ cap0 ∧ cap0 ≤ maxLen ∧ z0.length = cap0 ∧ (∀ i, i < z0.length → w.cell? (x.add i) = some (.int .u16 (z0.getD i 0))) ∧ ∀ n ∈ z0, (Lit.int .u16 n).wf = true) (y0 : len0 * 2 ≤ 140737488351232) (w1 : (a1 = none ∧ len1 = 0 ∧ cap1 = 0 ∧ z1 = []) ∨ ∃ x, a1 = some x ∧ len1 ≤ cap1 ∧ cap1 ≤ maxLen ∧ z1.length = cap1 ∧ (∀ i, i < z1.length → w.cell? (x.add i) = some (.int .u16 (z1.getD i 0))) ∧ ∀ n ∈ z1, (Lit.int .u16 n).wf = true) (y1 : len1 * 2 ≤ 140737488351232) :
    Calls Try.prog 4 #[.slice a0 len0 cap0, .slice a1 len1 cap1] w fun e w' => e = .returned (.bool true) ∧ Below w.heap.size w w' := by
  obtain ⟨l0, rfl, hr0, hm0, hw0, hc0⟩ := ReadsInt.ofRowC w0
  obtain ⟨l1, rfl, hr1, hm1, hw1, hc1⟩ := ReadsInt.ofRowC w1
  obtain ⟨k, h⟩ := P l0 l1 hm0 y0 hw0 hm1 y1 hw1
  refine (laws_FnEqualsUTF16.calls k _ _ l0 _ _ l1 true w (Kd.C_of_reads (d := (0 : Int)) (h1 := fun _ => rfl) hr0) hc0 (Kd.C_of_reads (d := (0 : Int)) (h1 := fun _ => rfl) hr1) hc1 h).mono ?_
  rintro e w' ⟨rfl, hd⟩
  exact ⟨rfl, hd.below⟩

end Go.Proofs.Ytdcojgkblfobnaa.PFnEqualsUTF16
