/- Walks of the functions that laws.FnEqualBigInts reaches: each Go function comes to what the Lean function of its name tells. The shape of these texts is that of print.sh's, one of which did not build; they are kept by hand here and are no print. -/
import Derived.Test.YtdcojgkblfobnaaQbigx0
import Derived.Test.YtdcojgkblfobnaaQbigx1
import Derived.Test.YtdcojgkblfobnaaQbigx2
namespace Go.Proofs.Ytdcojgkblfobnaa.Qbig
open Go.RowKit Go.Proofs.YtdcojgkblfobnaaW.PrintWords Go.Proofs.YtdcojgkblfobnaaW.PrintLast Go.Proofs.YtdcojgkblfobnaaW.PrintMore
attribute [local go_sem] max2_int min2_int max_two min_two max_three min_three max_four min_four   -- for this text's walks alone
set_option linter.unusedVariables false
set_option linter.unusedSimpArgs false

/-! ### laws_FnEqualBigInts: function 6 -/
mutual
def laws_FnEqualBigInts.j0 : Nat → ByteArray → ByteArray → Bool → Option (Bool)
  | 0, _, _, _ => none
  | k + 1, x0, x1, x21 => if x21 = true then (some true) else ((impl_EqualBigInts.f (⟨#[49, 50]⟩ : ByteArray) (⟨#[49, 50]⟩ : ByteArray)).bind fun bt155 => ((impl_EqualBigInts.f (⟨#[49, 50]⟩ : ByteArray) (⟨#[49, 51]⟩ : ByteArray)).bind fun bt157 => (if bt155.1 = true then (if bt155.2 = true then (if bt157.1 = true then (laws_FnEqualBigInts.j1 k x0 x1 false) else (laws_FnEqualBigInts.j1 k x0 x1 bt157.2)) else (laws_FnEqualBigInts.j1 k x0 x1 false)) else (laws_FnEqualBigInts.j1 k x0 x1 false))))
def laws_FnEqualBigInts.j1 : Nat → ByteArray → ByteArray → Bool → Option (Bool)
  | 0, _, _, _ => none
  | k + 1, x0, x1, x9 => (spec_NumBigEqual.f k x0 x1).bind fun bt159 => (if bt159.2 = true then (if (x0.size : Int) > 1000 then (some x9) else (if (x1.size : Int) > 1000 then (some x9) else ((impl_EqualBigInts.f x0 x1).bind fun bt161 => (if bt161.2 = true then (if (bt161.1 == bt159.1) = true then (some x9) else (some false)) else (some x9))))) else (some x9))
end
def laws_FnEqualBigInts.f (k : Nat) (a0 : ByteArray) (a1 : ByteArray) : Option (Bool) := if (a0.size : Int) > 2147483647 then (laws_FnEqualBigInts.j0 k a0 a1 true) else (laws_FnEqualBigInts.j0 k a0 a1 (decide ((a1.size : Int) > 2147483647)))
theorem laws_FnEqualBigInts.mono_l : ∀ k, (∀ y0 y1 y2, LeO (laws_FnEqualBigInts.j0 k y0 y1 y2) (laws_FnEqualBigInts.j0 (k + 1) y0 y1 y2)) ∧ (∀ y0 y1 y2, LeO (laws_FnEqualBigInts.j1 k y0 y1 y2) (laws_FnEqualBigInts.j1 (k + 1) y0 y1 y2))
  | 0 => ⟨fun _ _ _ r h => by simp [laws_FnEqualBigInts.j0] at h, fun _ _ _ r h => by simp [laws_FnEqualBigInts.j1] at h⟩
  | k + 1 => by
    obtain ⟨ih0, ih1⟩ := laws_FnEqualBigInts.mono_l k
    refine ⟨?_, ?_⟩
    · intro y0 y1 y2
      unfold laws_FnEqualBigInts.j0
      repeat' first
      | (with_reducible exact ih0 _ _ _)
      | (with_reducible exact ih1 _ _ _)
      | (with_reducible exact spec_NumBigEqual.mono _ _ _)
      | (with_reducible exact LeO.refl _)
      | (with_reducible exact LeO.none _)
      | (with_reducible refine LeO.ite ?_ ?_)
      | (with_reducible refine LeO.bind ?_ (fun _ => ?_))
      | exact ih0 _ _ _
      | exact ih1 _ _ _
      | exact spec_NumBigEqual.mono _ _ _
      | exact LeO.none _
      | refine LeO.ite ?_ ?_
      | refine LeO.bind ?_ (fun _ => ?_)
    · intro y0 y1 y2
      unfold laws_FnEqualBigInts.j1
      repeat' first
      | (with_reducible exact ih0 _ _ _)
      | (with_reducible exact ih1 _ _ _)
      | (with_reducible exact spec_NumBigEqual.mono _ _ _)
      | (with_reducible exact LeO.refl _)
      | (with_reducible exact LeO.none _)
      | (with_reducible refine LeO.ite ?_ ?_)
      | (with_reducible refine LeO.bind ?_ (fun _ => ?_))
      | exact ih0 _ _ _
      | exact ih1 _ _ _
      | exact spec_NumBigEqual.mono _ _ _
      | exact LeO.none _
      | refine LeO.ite ?_ ?_
      | refine LeO.bind ?_ (fun _ => ?_)
theorem laws_FnEqualBigInts.mono : ∀ a0 a1 k, LeO (laws_FnEqualBigInts.f k a0 a1) (laws_FnEqualBigInts.f (k + 1) a0 a1) := by
  intro a0 a1 k
  obtain ⟨ih0, ih1⟩ := laws_FnEqualBigInts.mono_l k
  unfold laws_FnEqualBigInts.f
  repeat' first
      | (with_reducible exact ih0 _ _ _)
      | (with_reducible exact ih1 _ _ _)
      | (with_reducible exact spec_NumBigEqual.mono _ _ _)
      | (with_reducible exact LeO.refl _)
      | (with_reducible exact LeO.none _)
      | (with_reducible refine LeO.ite ?_ ?_)
      | (with_reducible refine LeO.bind ?_ (fun _ => ?_))
      | exact ih0 _ _ _
      | exact ih1 _ _ _
      | exact spec_NumBigEqual.mono _ _ _
      | exact LeO.none _
      | refine LeO.ite ?_ ?_
      | refine LeO.bind ?_ (fun _ => ?_)
set_option maxHeartbeats 8000000 in
set_option maxRecDepth 100000 in
theorem laws_FnEqualBigInts.calls (k : Nat) (a0 : ByteArray) (a1 : ByteArray) (r : Bool) (w : World) (h : laws_FnEqualBigInts.f k a0 a1 = some r) :
    Calls Try.prog 6 #[.string a0, .string a1] w fun e w' => e = .returned (.bool r) ∧ Below w.heap.size w w' := by
  have HB := Aside0.mk (Below.refl w.heap.size w)
  have H : (if (a0.size : Int) > 2147483647 then (laws_FnEqualBigInts.j0 k a0 a1 true) else (laws_FnEqualBigInts.j0 k a0 a1 (decide ((a1.size : Int) > 2147483647)))) = some r := h
  clear h
  have HC3 := Aside0.mk H
  clear H
  go_enter Try.func6, Try.ntmps6
  go_upto_region 1 with (fail)
  go_cut [21] (fun v21 wc => ∃ (kq : Nat) (x21_2 : Bool), v21 = .bool x21_2 ∧ Aside0 (laws_FnEqualBigInts.j0 kq a0 a1 x21_2 = some r) ∧ Aside0 (kq ≤ k) ∧ Aside0 (Below w.heap.size w wc))
  case first =>
    have H := HC3.out
    clear HC3
    by_cases c4 : (a0.size : Int) > 2147483647
    · rw [if_pos c4] at H
      have c4b0 : decide (2147483647 < (a0.size : Int)) = true := decide_eq_true c4
      have c4b1 : decide (2147483647 < a0.size) = true := decide_eq_true (by omega)
      clear c4
      (first | rw [c4b0] | (simp only [i64_w, i32_w]; rw [c4b0]) | skip)
      have H' := Aside0.mk H
      clear H
      go_wp2
      go_meet
      case rel => exact ⟨_, (true), (by first | rfl | (simp; done) | (simp [*]; done)), H', ⟨by first | omega | exact Nat.le_refl _⟩, ⟨by repeat (first | (with_reducible first | exact HB.out | apply below_alloc | apply pw_below_drewN | apply below_drew1) | exact HB.out)⟩⟩
    · rw [if_neg c4] at H
      have c4b0 : decide (2147483647 < (a0.size : Int)) = false := decide_eq_false c4
      have c4b1 : decide (2147483647 < a0.size) = false := decide_eq_false (by omega)
      clear c4
      (first | rw [c4b0] | (simp only [i64_w, i32_w]; rw [c4b0]) | skip)
      have H' := Aside0.mk H
      clear H
      go_wp2
      go_meet
      case rel => exact ⟨_, (decide ((a1.size : Int) > 2147483647)), (by first | rfl | (simp; done) | (simp [*]; done)), H', ⟨by first | omega | exact Nat.le_refl _⟩, ⟨by repeat (first | (with_reducible first | exact HB.out | apply below_alloc | apply pw_below_drewN | apply below_drew1) | exact HB.out)⟩⟩
  case rest =>
    clear HC3
    try clear p2
    try clear c4
    try clear c4b0
    try clear c4b1
    obtain ⟨kq, x21_2, rfl, HA, HJ2, HB⟩ := hcut
    cases kq with
    | zero => exact absurd HA.out (by simp [laws_FnEqualBigInts.j0])
    | succ kj2 =>
      have H := HA.out
      clear HA
      simp only [laws_FnEqualBigInts.j0] at H
      by_cases c5 : x21_2 = true
      · subst c5
        have H1 : (some true) = some r := by rw [if_pos rfl] at H; exact H
        clear H
        have H := H1
        clear H1
        obtain rfl := Option.some.inj H
        go_wp2
        go_ret
        exact ⟨by first | rfl | (simp [errW_none, errW_some] <;> rfl) | (simp [*, errW_none, errW_some] <;> rfl), by repeat (first | (with_reducible first | exact HB.out | apply below_alloc | apply pw_below_drewN | apply below_drew1) | exact HB.out)⟩
      · replace c5 := Bool.eq_false_iff.mpr c5
        subst c5
        have H1 : ((impl_EqualBigInts.f (⟨#[49, 50]⟩ : ByteArray) (⟨#[49, 50]⟩ : ByteArray)).bind fun bt155 => ((impl_EqualBigInts.f (⟨#[49, 50]⟩ : ByteArray) (⟨#[49, 51]⟩ : ByteArray)).bind fun bt157 => (if bt155.1 = true then (if bt155.2 = true then (if bt157.1 = true then (laws_FnEqualBigInts.j1 kj2 a0 a1 false) else (laws_FnEqualBigInts.j1 kj2 a0 a1 bt157.2)) else (laws_FnEqualBigInts.j1 kj2 a0 a1 false)) else (laws_FnEqualBigInts.j1 kj2 a0 a1 false)))) = some r := by rw [if_neg (show ¬ (false = true) by decide)] at H; exact H
        clear H
        have H := H1
        clear H1
        replace H := Option.bind_eq_some_iff.mp H
        obtain ⟨⟨t155, t156⟩, A60, H⟩ := H
        replace H : ((impl_EqualBigInts.f (⟨#[49, 50]⟩ : ByteArray) (⟨#[49, 51]⟩ : ByteArray)).bind fun bt157 => (if t155 = true then (if t156 = true then (if bt157.1 = true then (laws_FnEqualBigInts.j1 kj2 a0 a1 false) else (laws_FnEqualBigInts.j1 kj2 a0 a1 bt157.2)) else (laws_FnEqualBigInts.j1 kj2 a0 a1 false)) else (laws_FnEqualBigInts.j1 kj2 a0 a1 false))) = some r := H
        have A6 := Aside0.mk A60
        clear A60
        replace H := Option.bind_eq_some_iff.mp H
        obtain ⟨⟨t157, t158⟩, A70, H⟩ := H
        replace H : (if t155 = true then (if t156 = true then (if t157 = true then (laws_FnEqualBigInts.j1 kj2 a0 a1 false) else (laws_FnEqualBigInts.j1 kj2 a0 a1 t158)) else (laws_FnEqualBigInts.j1 kj2 a0 a1 false)) else (laws_FnEqualBigInts.j1 kj2 a0 a1 false)) = some r := H
        have A7 := Aside0.mk A70
        clear A70
        have HC8 := Aside0.mk H
        clear H
        go_upto_region 5 with (first | ((with_reducible refine gate_callee (f := 19) rfl ?_); refine goesL_ (some 23) rfl rfl Try.func19 (by kernel_rfl) rfl #[.string (⟨#[49, 50]⟩ : ByteArray), .string (⟨#[49, 50]⟩ : ByteArray)] rfl (by (try simp only [List.map_toArray, List.map_cons, List.map_nil]); first | done | rfl | (simp only [List.length_drop, List.length_take]; rfl)) ?_; (with_reducible refine (impl_EqualBigInts.calls (⟨#[49, 50]⟩ : ByteArray) (⟨#[49, 50]⟩ : ByteArray) t155 t156 _ A6.out).mono ?_); rintro e w' ⟨rfl, ⟨nd, rfl⟩⟩; refine ⟨_, rfl, ?_⟩) | ((with_reducible refine gate_callee (f := 19) rfl ?_); refine goesL_ (some 27) rfl rfl Try.func19 (by kernel_rfl) rfl #[.string (⟨#[49, 50]⟩ : ByteArray), .string (⟨#[49, 51]⟩ : ByteArray)] rfl (by (try simp only [List.map_toArray, List.map_cons, List.map_nil]); first | done | rfl | (simp only [List.length_drop, List.length_take]; rfl)) ?_; (with_reducible refine (impl_EqualBigInts.calls (⟨#[49, 50]⟩ : ByteArray) (⟨#[49, 51]⟩ : ByteArray) t157 t158 _ A7.out).mono ?_); rintro e w' ⟨rfl, ⟨nd, rfl⟩⟩; refine ⟨_, rfl, ?_⟩))
        (try simp only [Act.put, List.setIfInBounds_toArray, List.set_cons_zero, List.set_cons_succ])
        go_cut [9] (fun v9 wc => ∃ (kq : Nat) (x9_7 : Bool), v9 = .bool x9_7 ∧ Aside0 (laws_FnEqualBigInts.j1 kq a0 a1 x9_7 = some r) ∧ Aside0 (kq ≤ kj2) ∧ Aside0 (Below w.heap.size w wc))
        case first =>
          have H := HC8.out
          clear HC8
          by_cases c9 : t155 = true
          · subst c9
            have H1 : (if t156 = true then (if t157 = true then (laws_FnEqualBigInts.j1 kj2 a0 a1 false) else (laws_FnEqualBigInts.j1 kj2 a0 a1 t158)) else (laws_FnEqualBigInts.j1 kj2 a0 a1 false)) = some r := by rw [if_pos rfl] at H; exact H
            clear H
            have H := H1
            clear H1
            by_cases c10 : t156 = true
            · subst c10
              have H1 : (if t157 = true then (laws_FnEqualBigInts.j1 kj2 a0 a1 false) else (laws_FnEqualBigInts.j1 kj2 a0 a1 t158)) = some r := by rw [if_pos rfl] at H; exact H
              clear H
              have H := H1
              clear H1
              by_cases c11 : t157 = true
              · subst c11
                have H1 : (laws_FnEqualBigInts.j1 kj2 a0 a1 false) = some r := by rw [if_pos rfl] at H; exact H
                clear H
                have H := H1
                clear H1
                have H' := Aside0.mk H
                clear H
                go_wp2
                go_meet
                case rel => exact ⟨_, (false), (by first | rfl | (simp; done) | (simp [*]; done)), H', ⟨by have := HJ2.out; first | omega | exact Nat.le_refl _⟩, ⟨by repeat (first | (with_reducible first | exact HB.out | apply below_alloc | apply pw_below_drewN | apply below_drew1) | exact HB.out)⟩⟩
              · replace c11 := Bool.eq_false_iff.mpr c11
                subst c11
                have H1 : (laws_FnEqualBigInts.j1 kj2 a0 a1 t158) = some r := by rw [if_neg (show ¬ (false = true) by decide)] at H; exact H
                clear H
                have H := H1
                clear H1
                have H' := Aside0.mk H
                clear H
                go_wp2
                go_meet
                case rel => exact ⟨_, (t158), (by first | rfl | (simp; done) | (simp [*]; done)), H', ⟨by have := HJ2.out; first | omega | exact Nat.le_refl _⟩, ⟨by repeat (first | (with_reducible first | exact HB.out | apply below_alloc | apply pw_below_drewN | apply below_drew1) | exact HB.out)⟩⟩
            · replace c10 := Bool.eq_false_iff.mpr c10
              subst c10
              have H1 : (laws_FnEqualBigInts.j1 kj2 a0 a1 false) = some r := by rw [if_neg (show ¬ (false = true) by decide)] at H; exact H
              clear H
              have H := H1
              clear H1
              have H' := Aside0.mk H
              clear H
              go_wp2
              go_meet
              case rel => exact ⟨_, (false), (by first | rfl | (simp; done) | (simp [*]; done)), H', ⟨by have := HJ2.out; first | omega | exact Nat.le_refl _⟩, ⟨by repeat (first | (with_reducible first | exact HB.out | apply below_alloc | apply pw_below_drewN | apply below_drew1) | exact HB.out)⟩⟩
          · replace c9 := Bool.eq_false_iff.mpr c9
            subst c9
            have H1 : (laws_FnEqualBigInts.j1 kj2 a0 a1 false) = some r := by rw [if_neg (show ¬ (false = true) by decide)] at H; exact H
            clear H
            have H := H1
            clear H1
            have H' := Aside0.mk H
            clear H
            go_wp2
            go_meet
            case rel => exact ⟨_, (false), (by first | rfl | (simp; done) | (simp [*]; done)), H', ⟨by have := HJ2.out; first | omega | exact Nat.le_refl _⟩, ⟨by repeat (first | (with_reducible first | exact HB.out | apply below_alloc | apply pw_below_drewN | apply below_drew1) | exact HB.out)⟩⟩
        case rest =>
          clear HC8
          try clear c1
          try clear p2
          try clear c4
          try clear c4b0
          try clear c4b1
          try clear c5
          try clear c6
          try clear c9
          try clear c10
          try clear c11
          try clear p2
          obtain ⟨kq, x9_7, rfl, HA, HJ7, HB⟩ := hcut
          cases kq with
          | zero => exact absurd HA.out (by simp [laws_FnEqualBigInts.j1])
          | succ kj7 =>
            have H := HA.out
            clear HA
            simp only [laws_FnEqualBigInts.j1] at H
            replace H := Option.bind_eq_some_iff.mp H
            obtain ⟨⟨t159, t160⟩, A120, H⟩ := H
            replace H : (if t160 = true then (if (a0.size : Int) > 1000 then (some x9_7) else (if (a1.size : Int) > 1000 then (some x9_7) else ((impl_EqualBigInts.f a0 a1).bind fun bt161 => (if bt161.2 = true then (if (bt161.1 == t159) = true then (some x9_7) else (some false)) else (some x9_7))))) else (some x9_7)) = some r := H
            have A12 := Aside0.mk A120
            clear A120
            by_cases c13 : t160 = true
            · subst c13
              have H1 : (if (a0.size : Int) > 1000 then (some x9_7) else (if (a1.size : Int) > 1000 then (some x9_7) else ((impl_EqualBigInts.f a0 a1).bind fun bt161 => (if bt161.2 = true then (if (bt161.1 == t159) = true then (some x9_7) else (some false)) else (some x9_7))))) = some r := by rw [if_pos rfl] at H; exact H
              clear H
              have H := H1
              clear H1
              by_cases c14 : (a0.size : Int) > 1000
              · rw [if_pos c14] at H
                have c14b0 : decide (1000 < (a0.size : Int)) = true := decide_eq_true c14
                have c14b1 : decide (1000 < a0.size) = true := decide_eq_true (by omega)
                clear c14
                obtain rfl := Option.some.inj H
                go_wp2_with (first | ((with_reducible refine gate_callee (f := 20) rfl ?_); refine goesL_ (some 44) rfl rfl Try.func20 (by kernel_rfl) rfl #[.string a0, .string a1] rfl (by (try simp only [List.map_toArray, List.map_cons, List.map_nil]); first | done | rfl | (simp only [List.length_drop, List.length_take]; rfl)) ?_; (with_reducible refine (spec_NumBigEqual.calls kj7 a0 a1 t159 true _ A12.out).mono ?_); rintro e w15 ⟨rfl, hb⟩; refine ⟨_, rfl, ?_⟩; have n0_ := Aside0.mk (below_step (by repeat (first | (with_reducible first | exact HB.out | apply below_alloc | apply pw_below_drewN | apply below_drew1) | exact HB.out)) hb); clear HB; have HB := n0_; clear n0_; (try clear hb); (try clear hb2); (try clear hk); (try clear hi)))
                go_ret
                exact ⟨by first | rfl | (simp [errW_none, errW_some] <;> rfl) | (simp [*, errW_none, errW_some] <;> rfl), by repeat (first | (with_reducible first | exact HB.out | apply below_alloc | apply pw_below_drewN | apply below_drew1) | exact HB.out)⟩
              · rw [if_neg c14] at H
                have c14b0 : decide (1000 < (a0.size : Int)) = false := decide_eq_false c14
                have c14b1 : decide (1000 < a0.size) = false := decide_eq_false (by omega)
                clear c14
                by_cases c16 : (a1.size : Int) > 1000
                · rw [if_pos c16] at H
                  have c16b0 : decide (1000 < (a1.size : Int)) = true := decide_eq_true c16
                  have c16b1 : decide (1000 < a1.size) = true := decide_eq_true (by omega)
                  clear c16
                  obtain rfl := Option.some.inj H
                  go_wp2_with (first | ((with_reducible refine gate_callee (f := 20) rfl ?_); refine goesL_ (some 44) rfl rfl Try.func20 (by kernel_rfl) rfl #[.string a0, .string a1] rfl (by (try simp only [List.map_toArray, List.map_cons, List.map_nil]); first | done | rfl | (simp only [List.length_drop, List.length_take]; rfl)) ?_; (with_reducible refine (spec_NumBigEqual.calls kj7 a0 a1 t159 true _ A12.out).mono ?_); rintro e w17 ⟨rfl, hb⟩; refine ⟨_, rfl, ?_⟩; have n0_ := Aside0.mk (below_step (by repeat (first | (with_reducible first | exact HB.out | apply below_alloc | apply pw_below_drewN | apply below_drew1) | exact HB.out)) hb); clear HB; have HB := n0_; clear n0_; (try clear hb); (try clear hb2); (try clear hk); (try clear hi)))
                  go_ret
                  exact ⟨by first | rfl | (simp [errW_none, errW_some] <;> rfl) | (simp [*, errW_none, errW_some] <;> rfl), by repeat (first | (with_reducible first | exact HB.out | apply below_alloc | apply pw_below_drewN | apply below_drew1) | exact HB.out)⟩
                · rw [if_neg c16] at H
                  have c16b0 : decide (1000 < (a1.size : Int)) = false := decide_eq_false c16
                  have c16b1 : decide (1000 < a1.size) = false := decide_eq_false (by omega)
                  clear c16
                  replace H := Option.bind_eq_some_iff.mp H
                  obtain ⟨⟨t161, t162⟩, A180, H⟩ := H
                  replace H : (if t162 = true then (if (t161 == t159) = true then (some x9_7) else (some false)) else (some x9_7)) = some r := H
                  have A18 := Aside0.mk A180
                  clear A180
                  by_cases c19 : t162 = true
                  · subst c19
                    have H1 : (if (t161 == t159) = true then (some x9_7) else (some false)) = some r := by rw [if_pos rfl] at H; exact H
                    clear H
                    have H := H1
                    clear H1
                    by_cases c20 : (t161 == t159) = true
                    · rw [if_pos c20] at H
                      have c20b0 : (t161 == t159) = true := c20
                      (try (have c20b1 : decide (t161 = t159) = true := by simpa using c20))
                      (try (have c20b2 : (t161 == t159) = true := by simpa using c20))
                      clear c20
                      obtain rfl := Option.some.inj H
                      go_wp2_with (first | ((with_reducible refine gate_callee (f := 20) rfl ?_); refine goesL_ (some 44) rfl rfl Try.func20 (by kernel_rfl) rfl #[.string a0, .string a1] rfl (by (try simp only [List.map_toArray, List.map_cons, List.map_nil]); first | done | rfl | (simp only [List.length_drop, List.length_take]; rfl)) ?_; (with_reducible refine (spec_NumBigEqual.calls kj7 a0 a1 t159 true _ A12.out).mono ?_); rintro e w21 ⟨rfl, hb⟩; refine ⟨_, rfl, ?_⟩; have n0_ := Aside0.mk (below_step (by repeat (first | (with_reducible first | exact HB.out | apply below_alloc | apply pw_below_drewN | apply below_drew1) | exact HB.out)) hb); clear HB; have HB := n0_; clear n0_; (try clear hb); (try clear hb2); (try clear hk); (try clear hi)) | ((with_reducible refine gate_callee (f := 19) rfl ?_); refine goesL_ (some 63) rfl rfl Try.func19 (by kernel_rfl) rfl #[.string a0, .string a1] rfl (by (try simp only [List.map_toArray, List.map_cons, List.map_nil]); first | done | rfl | (simp only [List.length_drop, List.length_take]; rfl)) ?_; (with_reducible refine (impl_EqualBigInts.calls a0 a1 t161 true _ A18.out).mono ?_); rintro e w' ⟨rfl, ⟨nd, rfl⟩⟩; refine ⟨_, rfl, ?_⟩))
                      go_ret
                      exact ⟨by first | rfl | (simp [errW_none, errW_some] <;> rfl) | (simp [*, errW_none, errW_some] <;> rfl), by repeat (first | (with_reducible first | exact HB.out | apply below_alloc | apply pw_below_drewN | apply below_drew1) | exact HB.out)⟩
                    · rw [if_neg c20] at H
                      have c20b0 : (t161 == t159) = false := by simpa using c20
                      (try (have c20b1 : decide (t161 = t159) = false := by simpa using c20))
                      (try (have c20b2 : (t161 == t159) = false := by simpa using c20))
                      (try (have c20b3 : ¬ (t161 = t159) := by simpa using c20))
                      clear c20
                      obtain rfl := Option.some.inj H
                      go_wp2_with (first | ((with_reducible refine gate_callee (f := 20) rfl ?_); refine goesL_ (some 44) rfl rfl Try.func20 (by kernel_rfl) rfl #[.string a0, .string a1] rfl (by (try simp only [List.map_toArray, List.map_cons, List.map_nil]); first | done | rfl | (simp only [List.length_drop, List.length_take]; rfl)) ?_; (with_reducible refine (spec_NumBigEqual.calls kj7 a0 a1 t159 true _ A12.out).mono ?_); rintro e w22 ⟨rfl, hb⟩; refine ⟨_, rfl, ?_⟩; have n0_ := Aside0.mk (below_step (by repeat (first | (with_reducible first | exact HB.out | apply below_alloc | apply pw_below_drewN | apply below_drew1) | exact HB.out)) hb); clear HB; have HB := n0_; clear n0_; (try clear hb); (try clear hb2); (try clear hk); (try clear hi)) | ((with_reducible refine gate_callee (f := 19) rfl ?_); refine goesL_ (some 63) rfl rfl Try.func19 (by kernel_rfl) rfl #[.string a0, .string a1] rfl (by (try simp only [List.map_toArray, List.map_cons, List.map_nil]); first | done | rfl | (simp only [List.length_drop, List.length_take]; rfl)) ?_; (with_reducible refine (impl_EqualBigInts.calls a0 a1 t161 true _ A18.out).mono ?_); rintro e w' ⟨rfl, ⟨nd, rfl⟩⟩; refine ⟨_, rfl, ?_⟩))
                      go_ret
                      exact ⟨by first | rfl | (simp [errW_none, errW_some] <;> rfl) | (simp [*, errW_none, errW_some] <;> rfl), by repeat (first | (with_reducible first | exact HB.out | apply below_alloc | apply pw_below_drewN | apply below_drew1) | exact HB.out)⟩
                  · replace c19 := Bool.eq_false_iff.mpr c19
                    subst c19
                    have H1 : (some x9_7) = some r := by rw [if_neg (show ¬ (false = true) by decide)] at H; exact H
                    clear H
                    have H := H1
                    clear H1
                    obtain rfl := Option.some.inj H
                    go_wp2_with (first | ((with_reducible refine gate_callee (f := 20) rfl ?_); refine goesL_ (some 44) rfl rfl Try.func20 (by kernel_rfl) rfl #[.string a0, .string a1] rfl (by (try simp only [List.map_toArray, List.map_cons, List.map_nil]); first | done | rfl | (simp only [List.length_drop, List.length_take]; rfl)) ?_; (with_reducible refine (spec_NumBigEqual.calls kj7 a0 a1 t159 true _ A12.out).mono ?_); rintro e w23 ⟨rfl, hb⟩; refine ⟨_, rfl, ?_⟩; have n0_ := Aside0.mk (below_step (by repeat (first | (with_reducible first | exact HB.out | apply below_alloc | apply pw_below_drewN | apply below_drew1) | exact HB.out)) hb); clear HB; have HB := n0_; clear n0_; (try clear hb); (try clear hb2); (try clear hk); (try clear hi)) | ((with_reducible refine gate_callee (f := 19) rfl ?_); refine goesL_ (some 63) rfl rfl Try.func19 (by kernel_rfl) rfl #[.string a0, .string a1] rfl (by (try simp only [List.map_toArray, List.map_cons, List.map_nil]); first | done | rfl | (simp only [List.length_drop, List.length_take]; rfl)) ?_; (with_reducible refine (impl_EqualBigInts.calls a0 a1 t161 false _ A18.out).mono ?_); rintro e w' ⟨rfl, ⟨nd, rfl⟩⟩; refine ⟨_, rfl, ?_⟩))
                    go_ret
                    exact ⟨by first | rfl | (simp [errW_none, errW_some] <;> rfl) | (simp [*, errW_none, errW_some] <;> rfl), by repeat (first | (with_reducible first | exact HB.out | apply below_alloc | apply pw_below_drewN | apply below_drew1) | exact HB.out)⟩
            · replace c13 := Bool.eq_false_iff.mpr c13
              subst c13
              have H1 : (some x9_7) = some r := by rw [if_neg (show ¬ (false = true) by decide)] at H; exact H
              clear H
              have H := H1
              clear H1
              obtain rfl := Option.some.inj H
              go_wp2_with (first | ((with_reducible refine gate_callee (f := 20) rfl ?_); refine goesL_ (some 44) rfl rfl Try.func20 (by kernel_rfl) rfl #[.string a0, .string a1] rfl (by (try simp only [List.map_toArray, List.map_cons, List.map_nil]); first | done | rfl | (simp only [List.length_drop, List.length_take]; rfl)) ?_; (with_reducible refine (spec_NumBigEqual.calls kj7 a0 a1 t159 false _ A12.out).mono ?_); rintro e w24 ⟨rfl, hb⟩; refine ⟨_, rfl, ?_⟩; have n0_ := Aside0.mk (below_step (by repeat (first | (with_reducible first | exact HB.out | apply below_alloc | apply pw_below_drewN | apply below_drew1) | exact HB.out)) hb); clear HB; have HB := n0_; clear n0_; (try clear hb); (try clear hb2); (try clear hk); (try clear hi)))
              go_ret
              exact ⟨by first | rfl | (simp [errW_none, errW_some] <;> rfl) | (simp [*, errW_none, errW_some] <;> rfl), by repeat (first | (with_reducible first | exact HB.out | apply below_alloc | apply pw_below_drewN | apply below_drew1) | exact HB.out)⟩

/-- THE ONE PURE STATEMENT of laws_FnEqualBigInts: yours. -/
def laws_FnEqualBigInts.Pure : Prop := ∀ (a0 : ByteArray) (a1 : ByteArray), a0.size ≤ 140737488351232 → a1.size ≤ 140737488351232 → ∃ k, laws_FnEqualBigInts.f k a0 a1 = some true
theorem laws_FnEqualBigInts.walk (P : laws_FnEqualBigInts.Pure) (a0 : ByteArray) (a1 : ByteArray) (w : World) (w0 : a0.size ≤ 140737488351232) (w1 : a1.size ≤ 140737488351232) :
    Calls Try.prog 6 #[.string a0, .string a1] w fun e w' => e = .returned (.bool true) ∧ Below w.heap.size w w' := by
  obtain ⟨k, h⟩ := P a0 a1 w0 w1
  refine (laws_FnEqualBigInts.calls k a0 a1 true w h).mono ?_
  rintro e w' ⟨rfl, hd⟩
  exact ⟨rfl, hd⟩

end Go.Proofs.Ytdcojgkblfobnaa.Qbig
