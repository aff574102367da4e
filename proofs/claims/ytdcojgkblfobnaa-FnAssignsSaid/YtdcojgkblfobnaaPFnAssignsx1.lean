-- PRINTED BY print.sh 35421559b90ae4d0a3588c463048766b98c2df88dd9212a6774a882060cdf62d: not written by this session
import Derived.Test.YtdcojgkblfobnaaPFnAssignsx0
namespace Go.Proofs.Ytdcojgkblfobnaa.PFnAssigns
open Go.RowKit Go.Proofs.YtdcojgkblfobnaaW.PrintWords Go.Proofs.YtdcojgkblfobnaaW.PrintLast Go.Proofs.YtdcojgkblfobnaaW.PrintMore
attribute [local go_sem] max2_int min2_int max_two min_two max_three min_three max_four min_four   -- for this text's walks alone
set_option linter.unusedVariables false
set_option linter.unusedSimpArgs false

/-! ### spec_Assigning: function 13 -/
def spec_Assigning.f  : Option (List ByteArray) := some (([(⟨#[38, 38, 61]⟩ : ByteArray), (⟨#[38, 61]⟩ : ByteArray), (⟨#[42, 42, 61]⟩ : ByteArray), (⟨#[42, 61]⟩ : ByteArray), (⟨#[124, 124, 61]⟩ : ByteArray), (⟨#[124, 61]⟩ : ByteArray), (⟨#[94, 61]⟩ : ByteArray), (⟨#[61]⟩ : ByteArray), (⟨#[62, 62, 61]⟩ : ByteArray), (⟨#[62, 62, 62, 61]⟩ : ByteArray), (⟨#[60, 60, 61]⟩ : ByteArray), (⟨#[45, 61]⟩ : ByteArray), (⟨#[37, 61]⟩ : ByteArray), (⟨#[43, 61]⟩ : ByteArray), (⟨#[63, 63, 61]⟩ : ByteArray), (⟨#[47, 61]⟩ : ByteArray)] : List ByteArray))
set_option maxHeartbeats 8000000 in
set_option maxRecDepth 100000 in
theorem spec_Assigning.calls  (r : List ByteArray) (w : World) (h : spec_Assigning.f  = some r) :
    Calls Try.prog 13 #[] w fun e w' => ∃ v0_ : Value, e = .returned (v0_) ∧ Kd.R Kd.string 9 w' w.heap.size (fun _ => True) v0_ r ∧ Below w.heap.size w w' := by
  have HB := Aside0.mk (Below.refl w.heap.size w)
  have H : (some (([(⟨#[38, 38, 61]⟩ : ByteArray), (⟨#[38, 61]⟩ : ByteArray), (⟨#[42, 42, 61]⟩ : ByteArray), (⟨#[42, 61]⟩ : ByteArray), (⟨#[124, 124, 61]⟩ : ByteArray), (⟨#[124, 61]⟩ : ByteArray), (⟨#[94, 61]⟩ : ByteArray), (⟨#[61]⟩ : ByteArray), (⟨#[62, 62, 61]⟩ : ByteArray), (⟨#[62, 62, 62, 61]⟩ : ByteArray), (⟨#[60, 60, 61]⟩ : ByteArray), (⟨#[45, 61]⟩ : ByteArray), (⟨#[37, 61]⟩ : ByteArray), (⟨#[43, 61]⟩ : ByteArray), (⟨#[63, 63, 61]⟩ : ByteArray), (⟨#[47, 61]⟩ : ByteArray)] : List ByteArray))) = some r := h
  clear h
  obtain ⟨y101, hy101⟩ : ∃ y_ : List ByteArray, y_ = (([(⟨#[38, 38, 61]⟩ : ByteArray), (⟨#[38, 61]⟩ : ByteArray), (⟨#[42, 42, 61]⟩ : ByteArray), (⟨#[42, 61]⟩ : ByteArray), (⟨#[124, 124, 61]⟩ : ByteArray), (⟨#[124, 61]⟩ : ByteArray), (⟨#[94, 61]⟩ : ByteArray), (⟨#[61]⟩ : ByteArray), (⟨#[62, 62, 61]⟩ : ByteArray), (⟨#[62, 62, 62, 61]⟩ : ByteArray), (⟨#[60, 60, 61]⟩ : ByteArray), (⟨#[45, 61]⟩ : ByteArray), (⟨#[37, 61]⟩ : ByteArray), (⟨#[43, 61]⟩ : ByteArray), (⟨#[63, 63, 61]⟩ : ByteArray), (⟨#[47, 61]⟩ : ByteArray)] : List ByteArray)) := ⟨_, rfl⟩
  replace H : (some y101) = some r := by first | (rw [hy101]; with_reducible exact H) | (have H2_ := (Option.bind_some _ _).symm.trans H; rw [hy101]; with_reducible exact H2_) | (have H2_ := (Option.bind_some _ _).symm.trans H; with_reducible exact H2_) | with_reducible exact H | (rw [hy101]; exact H) | exact H
  have Ny101 := Aside0.mk hy101
  clear hy101
  obtain rfl := Option.some.inj H
  go_enter Try.func13, Try.ntmps13
  go_wp2_with (first | ((with_reducible refine gate_dst (N := 1) rfl ?_); refine Kd.R_lit Kd.string _ 9 ?hg (N := 1) ?hd (xs := ([(⟨#[38, 38, 61]⟩ : ByteArray), (⟨#[38, 61]⟩ : ByteArray), (⟨#[42, 42, 61]⟩ : ByteArray), (⟨#[42, 61]⟩ : ByteArray), (⟨#[124, 124, 61]⟩ : ByteArray), (⟨#[124, 61]⟩ : ByteArray), (⟨#[94, 61]⟩ : ByteArray), (⟨#[61]⟩ : ByteArray), (⟨#[62, 62, 61]⟩ : ByteArray), (⟨#[62, 62, 62, 61]⟩ : ByteArray), (⟨#[60, 60, 61]⟩ : ByteArray), (⟨#[45, 61]⟩ : ByteArray), (⟨#[37, 61]⟩ : ByteArray), (⟨#[43, 61]⟩ : ByteArray), (⟨#[63, 63, 61]⟩ : ByteArray), (⟨#[47, 61]⟩ : ByteArray)] : List ByteArray)) (inner := [.string (⟨#[38, 38, 61]⟩ : ByteArray), .string (⟨#[38, 61]⟩ : ByteArray), .string (⟨#[42, 42, 61]⟩ : ByteArray), .string (⟨#[42, 61]⟩ : ByteArray), .string (⟨#[124, 124, 61]⟩ : ByteArray), .string (⟨#[124, 61]⟩ : ByteArray), .string (⟨#[94, 61]⟩ : ByteArray), .string (⟨#[61]⟩ : ByteArray), .string (⟨#[62, 62, 61]⟩ : ByteArray), .string (⟨#[62, 62, 62, 61]⟩ : ByteArray), .string (⟨#[60, 60, 61]⟩ : ByteArray), .string (⟨#[45, 61]⟩ : ByteArray), .string (⟨#[37, 61]⟩ : ByteArray), .string (⟨#[43, 61]⟩ : ByteArray), .string (⟨#[63, 63, 61]⟩ : ByteArray), .string (⟨#[47, 61]⟩ : ByteArray)]) (ok := fun _ => True) (okp := fun _ => True) ?hr ?hp (fun _ hk => hk) trivial (Below.refl _ _) (Nat.le_refl _) (by simp) ?_; (case hd => rfl); (case hg => rfl); (case hr => first | (go_simp; done) | (go_simp; rfl)); (case hp => exact (Reps.one (show Kd.M Kd.string _ _ _ (⟨#[38, 38, 61]⟩ : ByteArray) [.string (⟨#[38, 38, 61]⟩ : ByteArray)] from rfl) (Reps.one (show Kd.M Kd.string _ _ _ (⟨#[38, 61]⟩ : ByteArray) [.string (⟨#[38, 61]⟩ : ByteArray)] from rfl) (Reps.one (show Kd.M Kd.string _ _ _ (⟨#[42, 42, 61]⟩ : ByteArray) [.string (⟨#[42, 42, 61]⟩ : ByteArray)] from rfl) (Reps.one (show Kd.M Kd.string _ _ _ (⟨#[42, 61]⟩ : ByteArray) [.string (⟨#[42, 61]⟩ : ByteArray)] from rfl) (Reps.one (show Kd.M Kd.string _ _ _ (⟨#[124, 124, 61]⟩ : ByteArray) [.string (⟨#[124, 124, 61]⟩ : ByteArray)] from rfl) (Reps.one (show Kd.M Kd.string _ _ _ (⟨#[124, 61]⟩ : ByteArray) [.string (⟨#[124, 61]⟩ : ByteArray)] from rfl) (Reps.one (show Kd.M Kd.string _ _ _ (⟨#[94, 61]⟩ : ByteArray) [.string (⟨#[94, 61]⟩ : ByteArray)] from rfl) (Reps.one (show Kd.M Kd.string _ _ _ (⟨#[61]⟩ : ByteArray) [.string (⟨#[61]⟩ : ByteArray)] from rfl) (Reps.one (show Kd.M Kd.string _ _ _ (⟨#[62, 62, 61]⟩ : ByteArray) [.string (⟨#[62, 62, 61]⟩ : ByteArray)] from rfl) (Reps.one (show Kd.M Kd.string _ _ _ (⟨#[62, 62, 62, 61]⟩ : ByteArray) [.string (⟨#[62, 62, 62, 61]⟩ : ByteArray)] from rfl) (Reps.one (show Kd.M Kd.string _ _ _ (⟨#[60, 60, 61]⟩ : ByteArray) [.string (⟨#[60, 60, 61]⟩ : ByteArray)] from rfl) (Reps.one (show Kd.M Kd.string _ _ _ (⟨#[45, 61]⟩ : ByteArray) [.string (⟨#[45, 61]⟩ : ByteArray)] from rfl) (Reps.one (show Kd.M Kd.string _ _ _ (⟨#[37, 61]⟩ : ByteArray) [.string (⟨#[37, 61]⟩ : ByteArray)] from rfl) (Reps.one (show Kd.M Kd.string _ _ _ (⟨#[43, 61]⟩ : ByteArray) [.string (⟨#[43, 61]⟩ : ByteArray)] from rfl) (Reps.one (show Kd.M Kd.string _ _ _ (⟨#[63, 63, 61]⟩ : ByteArray) [.string (⟨#[63, 63, 61]⟩ : ByteArray)] from rfl) (Reps.one (show Kd.M Kd.string _ _ _ (⟨#[47, 61]⟩ : ByteArray) [.string (⟨#[47, 61]⟩ : ByteArray)] from rfl) (Reps.none _ _)))))))))))))))))); intro v102 w1 ho2 hb hg_ hnew_; clear hg_ hnew_; (first | rw [← Ny101.out] at ho2 | (simp only [Int.reduceToNat] at ho2; rw [← Ny101.out] at ho2)); have n0_ := Aside0.mk (Kd.R_lower ho2 (below_size (by repeat (first | (with_reducible first | exact HB.out | apply below_alloc | apply pw_below_drewN | apply below_drew1) | exact HB.out)))); have n1_ := Aside0.mk (below_step (by repeat (first | (with_reducible first | exact HB.out | apply below_alloc | apply pw_below_drewN | apply below_drew1) | exact HB.out)) hb); clear HB; have HO103 := n0_; have HB := n1_; clear n0_ n1_; clear hb ho2))
  go_ret
  exact ⟨_, by first | rfl | (simp [errW_none, errW_some] <;> rfl) | (simp [*, errW_none, errW_some] <;> rfl), by (with_reducible repeat (first | apply Kd.R_alloc | apply Kd.R_drewN | apply Kd.R_drew)); exact HO103.out, by repeat (first | (with_reducible first | exact HB.out | apply below_alloc | apply pw_below_drewN | apply below_drew1) | exact HB.out)⟩

/-! ### spec_placeIn: function 33 -/
def spec_placeIn.l0 : Nat → List ByteArray → ByteArray → Int → Option (Int)
  | 0, _, _, _ => none
  | k + 1, x0, x1, x5 => if x5 < (x0.length : Int) then (if 0 ≤ x5 then (if (rdOf ByteArray.empty x0 x5).toList = x1.toList then (some x5) else (spec_placeIn.l0 k x0 x1 (wrap64 (x5 + 1)))) else (none)) else (some (-1))
def spec_placeIn.f (k : Nat) (l0 : List ByteArray) (a1 : ByteArray) : Option (Int) := spec_placeIn.l0 k l0 a1 0
theorem spec_placeIn.mono_l : ∀ k, (∀ y0 y1 y2, LeO (spec_placeIn.l0 k y0 y1 y2) (spec_placeIn.l0 (k + 1) y0 y1 y2))
  | 0 => fun _ _ _ r h => by simp [spec_placeIn.l0] at h
  | k + 1 => by
    have ih0 := spec_placeIn.mono_l k
    · intro y0 y1 y2
      unfold spec_placeIn.l0
      repeat' first
      | (with_reducible exact ih0 _ _ _)
      | (with_reducible exact LeO.refl _)
      | (with_reducible exact LeO.none _)
      | (with_reducible refine LeO.ite ?_ ?_)
      | (with_reducible refine LeO.bind ?_ (fun _ => ?_))
      | exact ih0 _ _ _
      | exact LeO.none _
      | refine LeO.ite ?_ ?_
      | refine LeO.bind ?_ (fun _ => ?_)
theorem spec_placeIn.mono : ∀ a0 a1 k, LeO (spec_placeIn.f k a0 a1) (spec_placeIn.f (k + 1) a0 a1) := by
  intro a0 a1 k
  have ih0 := spec_placeIn.mono_l k
  unfold spec_placeIn.f
  repeat' first
      | (with_reducible exact ih0 _ _ _)
      | (with_reducible exact LeO.refl _)
      | (with_reducible exact LeO.none _)
      | (with_reducible refine LeO.ite ?_ ?_)
      | (with_reducible refine LeO.bind ?_ (fun _ => ?_))
      | exact ih0 _ _ _
      | exact LeO.none _
      | refine LeO.ite ?_ ?_
      | refine LeO.bind ?_ (fun _ => ?_)
set_option maxHeartbeats 8000000 in
set_option maxRecDepth 100000 in
theorem spec_placeIn.calls (k : Nat) (A0 : Option Addr) (c0 : Nat) (l0 : List ByteArray) (a1 : ByteArray) (r : Int) (w : World) (hr0 : Kd.C Kd.string w A0 l0.length l0) (hc0 : l0.length ≤ c0) (h : spec_placeIn.f k l0 a1 = some r) :
    Calls Try.prog 33 #[.slice A0 l0.length c0, .string a1] w fun e w' => e = .returned (.int .i64 r) ∧ Drawn0 w w' := by
  have HR0 := Aside0.mk hr0
  have HC0 := Aside0.mk hc0
  clear hr0 hc0
  have H : (spec_placeIn.l0 k l0 a1 0) = some r := h
  clear h
  have H' := Aside0.mk H
  clear H
  go_enter Try.func33, Try.ntmps33
  go_wp2
  go_loopg [5] k (fun kq v5 w' => ∃ (x5_1 : Int), v5 = .int .i64 x5_1 ∧ Aside0 (spec_placeIn.l0 kq l0 a1 x5_1 = some r) ∧ Aside0 (kq ≤ k) ∧ Drawn0 w w')
  case atStart => exact ⟨(0), (by first | rfl | (simp; done) | (simp [*]; done)), H', ⟨Nat.le_refl _⟩, by repeat (first | exact Drawn0.refl _ | apply Drawn0.step)⟩
  case round =>
    clear H'
    try clear p2
    obtain ⟨x5_1, rfl, HA, HK1, ⟨m1, rfl⟩⟩ := hrel
    cases gk with
    | zero => exact absurd HA.out (by simp [spec_placeIn.l0])
    | succ k1 =>
      have H := HA.out
      clear HA
      simp only [spec_placeIn.l0] at H
      by_cases c3 : x5_1 < (l0.length : Int)
      · rw [if_pos c3] at H
        have c3b0 : decide (x5_1 < (l0.length : Int)) = true := decide_eq_true c3
        clear c3
        by_cases c4 : 0 ≤ x5_1
        · rw [if_pos c4] at H
          have c4b0 : decide (0 ≤ x5_1) = true := decide_eq_true c4
          clear c4
          by_cases c5 : (rdOf ByteArray.empty l0 x5_1).toList = a1.toList
          · rw [if_pos c5] at H
            have c5b0 : ((rdOf ByteArray.empty l0 x5_1).toList == a1.toList) = true := beq_iff_eq.mpr c5
            have c5b1 : ((rdOf ByteArray.empty l0 x5_1).toList != a1.toList) = false := bne_eq_false_iff_eq.mpr c5
            clear c5
            obtain rfl := Option.some.inj H
            have p104 : 0 ≤ (x5_1 : Int) := of_decide_eq_true (by first | (with_reducible assumption) | assumption)
            have q104 : x5_1 < (l0.length : Int) := of_decide_eq_true (by first | (with_reducible assumption) | assumption)
            obtain ⟨ad104, e104, hx104_0⟩ := Kd.at_string HR0.out x5_1 p104 q104
            cases e104
            replace p104 := eq_true p104
            replace q104 := eq_true q104
            go_wp2
            go_ret
            exact ⟨by first | rfl | (simp; done) | (simp [*]; done), by repeat (first | exact Drawn0.refl _ | apply Drawn0.step)⟩
          · rw [if_neg c5] at H
            have c5b0 : ((rdOf ByteArray.empty l0 x5_1).toList == a1.toList) = false := beq_eq_false_iff_ne.mpr c5
            have c5b1 : ((rdOf ByteArray.empty l0 x5_1).toList != a1.toList) = true := bne_iff_ne.mpr c5
            have H' := Aside0.mk H
            clear H
            have p104 : 0 ≤ (x5_1 : Int) := of_decide_eq_true (by first | (with_reducible assumption) | assumption)
            have q104 : x5_1 < (l0.length : Int) := of_decide_eq_true (by first | (with_reducible assumption) | assumption)
            obtain ⟨ad104, e104, hx104_0⟩ := Kd.at_string HR0.out x5_1 p104 q104
            cases e104
            replace p104 := eq_true p104
            replace q104 := eq_true q104
            go_wp2
            go_roundg k1
            case measure => have := HK1.out; omega
            case rel => exact ⟨(wrap64 (x5_1 + 1)), (by first | rfl | (simp; done) | (simp [*]; done)), H', ⟨by have := HK1.out; omega⟩, by repeat (first | exact Drawn0.refl _ | apply Drawn0.step)⟩
        · rw [if_neg c4] at H
          exact absurd H (by simp)
      · rw [if_neg c3] at H
        have c3b0 : decide (x5_1 < (l0.length : Int)) = false := decide_eq_false c3
        clear c3
        obtain rfl := Option.some.inj H
        go_wp2
        go_ret
        exact ⟨by first | rfl | (simp; done) | (simp [*]; done), by repeat (first | exact Drawn0.refl _ | apply Drawn0.step)⟩

/-! ### spec_MarkKind: function 14 -/
def spec_MarkKind.f (k : Nat) (a0 : ByteArray) : Option (Int) := (spec_Assigning.f).bind fun t105 => ((spec_placeIn.f k t105 a0).bind fun t108 => (if t108 ≥ 0 then (some (wrap64 (52 + t108))) else ((spec_placeIn.f k (([(⟨#[38]⟩ : ByteArray), (⟨#[38, 38]⟩ : ByteArray), (⟨#[42]⟩ : ByteArray), (⟨#[42, 42]⟩ : ByteArray), (⟨#[64]⟩ : ByteArray), (⟨#[124]⟩ : ByteArray), (⟨#[124, 124]⟩ : ByteArray), (⟨#[94]⟩ : ByteArray), (⟨#[125]⟩ : ByteArray), (⟨#[93]⟩ : ByteArray), (⟨#[41]⟩ : ByteArray), (⟨#[58]⟩ : ByteArray), (⟨#[44]⟩ : ByteArray), (⟨#[46]⟩ : ByteArray), (⟨#[46, 46, 46]⟩ : ByteArray), (⟨#[61, 61]⟩ : ByteArray), (⟨#[61, 61, 61]⟩ : ByteArray), (⟨#[61, 62]⟩ : ByteArray), (⟨#[33]⟩ : ByteArray), (⟨#[33, 61]⟩ : ByteArray), (⟨#[33, 61, 61]⟩ : ByteArray), (⟨#[62]⟩ : ByteArray), (⟨#[62, 61]⟩ : ByteArray), (⟨#[62, 62]⟩ : ByteArray), (⟨#[62, 62, 62]⟩ : ByteArray), (⟨#[60]⟩ : ByteArray), (⟨#[60, 61]⟩ : ByteArray), (⟨#[60, 60]⟩ : ByteArray), (⟨#[45]⟩ : ByteArray), (⟨#[45, 45]⟩ : ByteArray), (⟨#[123]⟩ : ByteArray), (⟨#[91]⟩ : ByteArray), (⟨#[40]⟩ : ByteArray), (⟨#[37]⟩ : ByteArray), (⟨#[43]⟩ : ByteArray), (⟨#[43, 43]⟩ : ByteArray), (⟨#[63]⟩ : ByteArray), (⟨#[63, 46]⟩ : ByteArray), (⟨#[63, 63]⟩ : ByteArray), (⟨#[59]⟩ : ByteArray), (⟨#[47]⟩ : ByteArray), (⟨#[126]⟩ : ByteArray)] : List ByteArray)) a0).bind fun t112 => (some (wrap64 (10 + t112))))))
theorem spec_MarkKind.mono : ∀ a0 k, LeO (spec_MarkKind.f k a0) (spec_MarkKind.f (k + 1) a0) := by
  intro a0 k
  unfold spec_MarkKind.f
  repeat' first
      | (with_reducible exact spec_placeIn.mono _ _ _)
      | (with_reducible exact LeO.refl _)
      | (with_reducible exact LeO.none _)
      | (with_reducible refine LeO.ite ?_ ?_)
      | (with_reducible refine LeO.bind ?_ (fun _ => ?_))
      | exact spec_placeIn.mono _ _ _
      | exact LeO.none _
      | refine LeO.ite ?_ ?_
      | refine LeO.bind ?_ (fun _ => ?_)
set_option maxHeartbeats 8000000 in
set_option maxRecDepth 100000 in
theorem spec_MarkKind.calls (k : Nat) (a0 : ByteArray) (r : Int) (w : World) (h : spec_MarkKind.f k a0 = some r) :
    Calls Try.prog 14 #[.string a0] w fun e w' => e = .returned (.int .i64 r) ∧ Below w.heap.size w w' := by
  have HB := Aside0.mk (Below.refl w.heap.size w)
  have H : ((spec_Assigning.f).bind fun t105 => ((spec_placeIn.f k t105 a0).bind fun t108 => (if t108 ≥ 0 then (some (wrap64 (52 + t108))) else ((spec_placeIn.f k (([(⟨#[38]⟩ : ByteArray), (⟨#[38, 38]⟩ : ByteArray), (⟨#[42]⟩ : ByteArray), (⟨#[42, 42]⟩ : ByteArray), (⟨#[64]⟩ : ByteArray), (⟨#[124]⟩ : ByteArray), (⟨#[124, 124]⟩ : ByteArray), (⟨#[94]⟩ : ByteArray), (⟨#[125]⟩ : ByteArray), (⟨#[93]⟩ : ByteArray), (⟨#[41]⟩ : ByteArray), (⟨#[58]⟩ : ByteArray), (⟨#[44]⟩ : ByteArray), (⟨#[46]⟩ : ByteArray), (⟨#[46, 46, 46]⟩ : ByteArray), (⟨#[61, 61]⟩ : ByteArray), (⟨#[61, 61, 61]⟩ : ByteArray), (⟨#[61, 62]⟩ : ByteArray), (⟨#[33]⟩ : ByteArray), (⟨#[33, 61]⟩ : ByteArray), (⟨#[33, 61, 61]⟩ : ByteArray), (⟨#[62]⟩ : ByteArray), (⟨#[62, 61]⟩ : ByteArray), (⟨#[62, 62]⟩ : ByteArray), (⟨#[62, 62, 62]⟩ : ByteArray), (⟨#[60]⟩ : ByteArray), (⟨#[60, 61]⟩ : ByteArray), (⟨#[60, 60]⟩ : ByteArray), (⟨#[45]⟩ : ByteArray), (⟨#[45, 45]⟩ : ByteArray), (⟨#[123]⟩ : ByteArray), (⟨#[91]⟩ : ByteArray), (⟨#[40]⟩ : ByteArray), (⟨#[37]⟩ : ByteArray), (⟨#[43]⟩ : ByteArray), (⟨#[43, 43]⟩ : ByteArray), (⟨#[63]⟩ : ByteArray), (⟨#[63, 46]⟩ : ByteArray), (⟨#[63, 63]⟩ : ByteArray), (⟨#[59]⟩ : ByteArray), (⟨#[47]⟩ : ByteArray), (⟨#[126]⟩ : ByteArray)] : List ByteArray)) a0).bind fun t112 => (some (wrap64 (10 + t112))))))) = some r := h
  clear h
  replace H := Option.bind_eq_some_iff.mp H
  obtain ⟨t105, A20, H⟩ := H
  replace H : ((spec_placeIn.f k t105 a0).bind fun t108 => (if t108 ≥ 0 then (some (wrap64 (52 + t108))) else ((spec_placeIn.f k (([(⟨#[38]⟩ : ByteArray), (⟨#[38, 38]⟩ : ByteArray), (⟨#[42]⟩ : ByteArray), (⟨#[42, 42]⟩ : ByteArray), (⟨#[64]⟩ : ByteArray), (⟨#[124]⟩ : ByteArray), (⟨#[124, 124]⟩ : ByteArray), (⟨#[94]⟩ : ByteArray), (⟨#[125]⟩ : ByteArray), (⟨#[93]⟩ : ByteArray), (⟨#[41]⟩ : ByteArray), (⟨#[58]⟩ : ByteArray), (⟨#[44]⟩ : ByteArray), (⟨#[46]⟩ : ByteArray), (⟨#[46, 46, 46]⟩ : ByteArray), (⟨#[61, 61]⟩ : ByteArray), (⟨#[61, 61, 61]⟩ : ByteArray), (⟨#[61, 62]⟩ : ByteArray), (⟨#[33]⟩ : ByteArray), (⟨#[33, 61]⟩ : ByteArray), (⟨#[33, 61, 61]⟩ : ByteArray), (⟨#[62]⟩ : ByteArray), (⟨#[62, 61]⟩ : ByteArray), (⟨#[62, 62]⟩ : ByteArray), (⟨#[62, 62, 62]⟩ : ByteArray), (⟨#[60]⟩ : ByteArray), (⟨#[60, 61]⟩ : ByteArray), (⟨#[60, 60]⟩ : ByteArray), (⟨#[45]⟩ : ByteArray), (⟨#[45, 45]⟩ : ByteArray), (⟨#[123]⟩ : ByteArray), (⟨#[91]⟩ : ByteArray), (⟨#[40]⟩ : ByteArray), (⟨#[37]⟩ : ByteArray), (⟨#[43]⟩ : ByteArray), (⟨#[43, 43]⟩ : ByteArray), (⟨#[63]⟩ : ByteArray), (⟨#[63, 46]⟩ : ByteArray), (⟨#[63, 63]⟩ : ByteArray), (⟨#[59]⟩ : ByteArray), (⟨#[47]⟩ : ByteArray), (⟨#[126]⟩ : ByteArray)] : List ByteArray)) a0).bind fun t112 => (some (wrap64 (10 + t112)))))) = some r := H
  have A2 := Aside0.mk A20
  clear A20
  replace H := Option.bind_eq_some_iff.mp H
  obtain ⟨t108, A30, H⟩ := H
  replace H : (if t108 ≥ 0 then (some (wrap64 (52 + t108))) else ((spec_placeIn.f k (([(⟨#[38]⟩ : ByteArray), (⟨#[38, 38]⟩ : ByteArray), (⟨#[42]⟩ : ByteArray), (⟨#[42, 42]⟩ : ByteArray), (⟨#[64]⟩ : ByteArray), (⟨#[124]⟩ : ByteArray), (⟨#[124, 124]⟩ : ByteArray), (⟨#[94]⟩ : ByteArray), (⟨#[125]⟩ : ByteArray), (⟨#[93]⟩ : ByteArray), (⟨#[41]⟩ : ByteArray), (⟨#[58]⟩ : ByteArray), (⟨#[44]⟩ : ByteArray), (⟨#[46]⟩ : ByteArray), (⟨#[46, 46, 46]⟩ : ByteArray), (⟨#[61, 61]⟩ : ByteArray), (⟨#[61, 61, 61]⟩ : ByteArray), (⟨#[61, 62]⟩ : ByteArray), (⟨#[33]⟩ : ByteArray), (⟨#[33, 61]⟩ : ByteArray), (⟨#[33, 61, 61]⟩ : ByteArray), (⟨#[62]⟩ : ByteArray), (⟨#[62, 61]⟩ : ByteArray), (⟨#[62, 62]⟩ : ByteArray), (⟨#[62, 62, 62]⟩ : ByteArray), (⟨#[60]⟩ : ByteArray), (⟨#[60, 61]⟩ : ByteArray), (⟨#[60, 60]⟩ : ByteArray), (⟨#[45]⟩ : ByteArray), (⟨#[45, 45]⟩ : ByteArray), (⟨#[123]⟩ : ByteArray), (⟨#[91]⟩ : ByteArray), (⟨#[40]⟩ : ByteArray), (⟨#[37]⟩ : ByteArray), (⟨#[43]⟩ : ByteArray), (⟨#[43, 43]⟩ : ByteArray), (⟨#[63]⟩ : ByteArray), (⟨#[63, 46]⟩ : ByteArray), (⟨#[63, 63]⟩ : ByteArray), (⟨#[59]⟩ : ByteArray), (⟨#[47]⟩ : ByteArray), (⟨#[126]⟩ : ByteArray)] : List ByteArray)) a0).bind fun t112 => (some (wrap64 (10 + t112))))) = some r := H
  have A3 := Aside0.mk A30
  clear A30
  by_cases c4 : t108 ≥ 0
  · rw [if_pos c4] at H
    have c4b0 : decide (0 ≤ t108) = true := decide_eq_true c4
    clear c4
    obtain rfl := Option.some.inj H
    go_enter Try.func14, Try.ntmps14
    go_wp2_with (first | ((with_reducible refine gate_callee (f := 13) rfl ?_); refine goesL_ (some 4) rfl rfl Try.func13 (by kernel_rfl) rfl #[] rfl (by (try simp only [List.map_toArray, List.map_cons, List.map_nil]); first | done | rfl | (simp only [List.length_drop, List.length_take]; rfl)) ?_; (with_reducible refine (spec_Assigning.calls  t105 _ A2.out).mono ?_); rintro e w5 ⟨v106, rfl, ho0, hb⟩; refine ⟨_, rfl, ?_⟩; have n0_ := Aside0.mk (Kd.R_lower ho0 (below_size (by repeat (first | (with_reducible first | exact HB.out | apply below_alloc | apply pw_below_drewN | apply below_drew1) | exact HB.out)))); have n1_ := Aside0.mk (below_step (by repeat (first | (with_reducible first | exact HB.out | apply below_alloc | apply pw_below_drewN | apply below_drew1) | exact HB.out)) hb); clear HB; have HO107 := n0_; have HB := n1_; clear n0_ n1_; (try clear hb); (try clear hb2); (try clear hk); (try clear hi); (try clear ho0); obtain ⟨Ao6, co6, eo6⟩ := Kd.R_slice HO107.out; subst eo6) | ((with_reducible refine gate_callee (f := 33) rfl ?_); refine goesL_ (some 6) rfl rfl Try.func33 (by kernel_rfl) rfl #[.slice Ao6 t105.length co6, .string a0] rfl (by (try simp only [List.map_toArray, List.map_cons, List.map_nil]); first | done | rfl | (simp only [List.length_drop, List.length_take]; rfl)) ?_; (with_reducible refine (spec_placeIn.calls k _ _ t105 a0 t108 _ ?side1 ?side2 A3.out).mono ?_); (case side1 => repeat (first | exact (Kd.R_reads' HO107.out).2.2 | (with_reducible refine Kd.C_alloc ?_ _) | (with_reducible refine Kd.C_drewN ?_ _) | (with_reducible refine Kd.C_drew ?_))); (case side2 => exact (Kd.R_reads' HO107.out).2.1); rintro e w' ⟨rfl, ⟨nd, rfl⟩⟩; refine ⟨_, rfl, ?_⟩))
    go_ret
    exact ⟨by first | rfl | (simp [errW_none, errW_some] <;> rfl) | (simp [*, errW_none, errW_some] <;> rfl), by repeat (first | (with_reducible first | exact HB.out | apply below_alloc | apply pw_below_drewN | apply below_drew1) | exact HB.out)⟩
  · rw [if_neg c4] at H
    have c4b0 : decide (0 ≤ t108) = false := decide_eq_false c4
    clear c4
    obtain ⟨y109, hy109⟩ : ∃ y_ : List ByteArray, y_ = (([(⟨#[38]⟩ : ByteArray), (⟨#[38, 38]⟩ : ByteArray), (⟨#[42]⟩ : ByteArray), (⟨#[42, 42]⟩ : ByteArray), (⟨#[64]⟩ : ByteArray), (⟨#[124]⟩ : ByteArray), (⟨#[124, 124]⟩ : ByteArray), (⟨#[94]⟩ : ByteArray), (⟨#[125]⟩ : ByteArray), (⟨#[93]⟩ : ByteArray), (⟨#[41]⟩ : ByteArray), (⟨#[58]⟩ : ByteArray), (⟨#[44]⟩ : ByteArray), (⟨#[46]⟩ : ByteArray), (⟨#[46, 46, 46]⟩ : ByteArray), (⟨#[61, 61]⟩ : ByteArray), (⟨#[61, 61, 61]⟩ : ByteArray), (⟨#[61, 62]⟩ : ByteArray), (⟨#[33]⟩ : ByteArray), (⟨#[33, 61]⟩ : ByteArray), (⟨#[33, 61, 61]⟩ : ByteArray), (⟨#[62]⟩ : ByteArray), (⟨#[62, 61]⟩ : ByteArray), (⟨#[62, 62]⟩ : ByteArray), (⟨#[62, 62, 62]⟩ : ByteArray), (⟨#[60]⟩ : ByteArray), (⟨#[60, 61]⟩ : ByteArray), (⟨#[60, 60]⟩ : ByteArray), (⟨#[45]⟩ : ByteArray), (⟨#[45, 45]⟩ : ByteArray), (⟨#[123]⟩ : ByteArray), (⟨#[91]⟩ : ByteArray), (⟨#[40]⟩ : ByteArray), (⟨#[37]⟩ : ByteArray), (⟨#[43]⟩ : ByteArray), (⟨#[43, 43]⟩ : ByteArray), (⟨#[63]⟩ : ByteArray), (⟨#[63, 46]⟩ : ByteArray), (⟨#[63, 63]⟩ : ByteArray), (⟨#[59]⟩ : ByteArray), (⟨#[47]⟩ : ByteArray), (⟨#[126]⟩ : ByteArray)] : List ByteArray)) := ⟨_, rfl⟩
    replace H : ((spec_placeIn.f k y109 a0).bind fun t112 => (some (wrap64 (10 + t112)))) = some r := by first | (rw [hy109]; with_reducible exact H) | (have H2_ := (Option.bind_some _ _).symm.trans H; rw [hy109]; with_reducible exact H2_) | (have H2_ := (Option.bind_some _ _).symm.trans H; with_reducible exact H2_) | with_reducible exact H | (rw [hy109]; exact H) | exact H
    have Ny109 := Aside0.mk hy109
    clear hy109
    replace H := Option.bind_eq_some_iff.mp H
    obtain ⟨t112, A70, H⟩ := H
    replace H : (some (wrap64 (10 + t112))) = some r := H
    have A7 := Aside0.mk A70
    clear A70
    obtain rfl := Option.some.inj H
    go_enter Try.func14, Try.ntmps14
    go_wp2_with (first | ((with_reducible refine gate_callee (f := 13) rfl ?_); refine goesL_ (some 4) rfl rfl Try.func13 (by kernel_rfl) rfl #[] rfl (by (try simp only [List.map_toArray, List.map_cons, List.map_nil]); first | done | rfl | (simp only [List.length_drop, List.length_take]; rfl)) ?_; (with_reducible refine (spec_Assigning.calls  t105 _ A2.out).mono ?_); rintro e w8 ⟨v106, rfl, ho0, hb⟩; refine ⟨_, rfl, ?_⟩; have n0_ := Aside0.mk (Kd.R_lower ho0 (below_size (by repeat (first | (with_reducible first | exact HB.out | apply below_alloc | apply pw_below_drewN | apply below_drew1) | exact HB.out)))); have n1_ := Aside0.mk (below_step (by repeat (first | (with_reducible first | exact HB.out | apply below_alloc | apply pw_below_drewN | apply below_drew1) | exact HB.out)) hb); clear HB; have HO107 := n0_; have HB := n1_; clear n0_ n1_; (try clear hb); (try clear hb2); (try clear hk); (try clear hi); (try clear ho0); obtain ⟨Ao9, co9, eo9⟩ := Kd.R_slice HO107.out; subst eo9) | ((with_reducible refine gate_callee (f := 33) rfl ?_); refine goesL_ (some 6) rfl rfl Try.func33 (by kernel_rfl) rfl #[.slice Ao9 t105.length co9, .string a0] rfl (by (try simp only [List.map_toArray, List.map_cons, List.map_nil]); first | done | rfl | (simp only [List.length_drop, List.length_take]; rfl)) ?_; (with_reducible refine (spec_placeIn.calls k _ _ t105 a0 t108 _ ?side1 ?side2 A3.out).mono ?_); (case side1 => repeat (first | exact (Kd.R_reads' HO107.out).2.2 | (with_reducible refine Kd.C_alloc ?_ _) | (with_reducible refine Kd.C_drewN ?_ _) | (with_reducible refine Kd.C_drew ?_))); (case side2 => exact (Kd.R_reads' HO107.out).2.1); rintro e w' ⟨rfl, ⟨nd, rfl⟩⟩; refine ⟨_, rfl, ?_⟩) | ((with_reducible refine gate_dst (N := 11) rfl ?_); refine Kd.R_lit Kd.string _ 9 ?hg (N := 11) ?hd (xs := ([(⟨#[38]⟩ : ByteArray), (⟨#[38, 38]⟩ : ByteArray), (⟨#[42]⟩ : ByteArray), (⟨#[42, 42]⟩ : ByteArray), (⟨#[64]⟩ : ByteArray), (⟨#[124]⟩ : ByteArray), (⟨#[124, 124]⟩ : ByteArray), (⟨#[94]⟩ : ByteArray), (⟨#[125]⟩ : ByteArray), (⟨#[93]⟩ : ByteArray), (⟨#[41]⟩ : ByteArray), (⟨#[58]⟩ : ByteArray), (⟨#[44]⟩ : ByteArray), (⟨#[46]⟩ : ByteArray), (⟨#[46, 46, 46]⟩ : ByteArray), (⟨#[61, 61]⟩ : ByteArray), (⟨#[61, 61, 61]⟩ : ByteArray), (⟨#[61, 62]⟩ : ByteArray), (⟨#[33]⟩ : ByteArray), (⟨#[33, 61]⟩ : ByteArray), (⟨#[33, 61, 61]⟩ : ByteArray), (⟨#[62]⟩ : ByteArray), (⟨#[62, 61]⟩ : ByteArray), (⟨#[62, 62]⟩ : ByteArray), (⟨#[62, 62, 62]⟩ : ByteArray), (⟨#[60]⟩ : ByteArray), (⟨#[60, 61]⟩ : ByteArray), (⟨#[60, 60]⟩ : ByteArray), (⟨#[45]⟩ : ByteArray), (⟨#[45, 45]⟩ : ByteArray), (⟨#[123]⟩ : ByteArray), (⟨#[91]⟩ : ByteArray), (⟨#[40]⟩ : ByteArray), (⟨#[37]⟩ : ByteArray), (⟨#[43]⟩ : ByteArray), (⟨#[43, 43]⟩ : ByteArray), (⟨#[63]⟩ : ByteArray), (⟨#[63, 46]⟩ : ByteArray), (⟨#[63, 63]⟩ : ByteArray), (⟨#[59]⟩ : ByteArray), (⟨#[47]⟩ : ByteArray), (⟨#[126]⟩ : ByteArray)] : List ByteArray)) (inner := [.string (⟨#[38]⟩ : ByteArray), .string (⟨#[38, 38]⟩ : ByteArray), .string (⟨#[42]⟩ : ByteArray), .string (⟨#[42, 42]⟩ : ByteArray), .string (⟨#[64]⟩ : ByteArray), .string (⟨#[124]⟩ : ByteArray), .string (⟨#[124, 124]⟩ : ByteArray), .string (⟨#[94]⟩ : ByteArray), .string (⟨#[125]⟩ : ByteArray), .string (⟨#[93]⟩ : ByteArray), .string (⟨#[41]⟩ : ByteArray), .string (⟨#[58]⟩ : ByteArray), .string (⟨#[44]⟩ : ByteArray), .string (⟨#[46]⟩ : ByteArray), .string (⟨#[46, 46, 46]⟩ : ByteArray), .string (⟨#[61, 61]⟩ : ByteArray), .string (⟨#[61, 61, 61]⟩ : ByteArray), .string (⟨#[61, 62]⟩ : ByteArray), .string (⟨#[33]⟩ : ByteArray), .string (⟨#[33, 61]⟩ : ByteArray), .string (⟨#[33, 61, 61]⟩ : ByteArray), .string (⟨#[62]⟩ : ByteArray), .string (⟨#[62, 61]⟩ : ByteArray), .string (⟨#[62, 62]⟩ : ByteArray), .string (⟨#[62, 62, 62]⟩ : ByteArray), .string (⟨#[60]⟩ : ByteArray), .string (⟨#[60, 61]⟩ : ByteArray), .string (⟨#[60, 60]⟩ : ByteArray), .string (⟨#[45]⟩ : ByteArray), .string (⟨#[45, 45]⟩ : ByteArray), .string (⟨#[123]⟩ : ByteArray), .string (⟨#[91]⟩ : ByteArray), .string (⟨#[40]⟩ : ByteArray), .string (⟨#[37]⟩ : ByteArray), .string (⟨#[43]⟩ : ByteArray), .string (⟨#[43, 43]⟩ : ByteArray), .string (⟨#[63]⟩ : ByteArray), .string (⟨#[63, 46]⟩ : ByteArray), .string (⟨#[63, 63]⟩ : ByteArray), .string (⟨#[59]⟩ : ByteArray), .string (⟨#[47]⟩ : ByteArray), .string (⟨#[126]⟩ : ByteArray)]) (ok := fun _ => True) (okp := fun _ => True) ?hr ?hp (fun _ hk => hk) trivial (Below.refl _ _) (Nat.le_refl _) (by simp) ?_; (case hd => rfl); (case hg => rfl); (case hr => first | (go_simp; done) | (go_simp; rfl)); (case hp => exact (Reps.one (show Kd.M Kd.string _ _ _ (⟨#[38]⟩ : ByteArray) [.string (⟨#[38]⟩ : ByteArray)] from rfl) (Reps.one (show Kd.M Kd.string _ _ _ (⟨#[38, 38]⟩ : ByteArray) [.string (⟨#[38, 38]⟩ : ByteArray)] from rfl) (Reps.one (show Kd.M Kd.string _ _ _ (⟨#[42]⟩ : ByteArray) [.string (⟨#[42]⟩ : ByteArray)] from rfl) (Reps.one (show Kd.M Kd.string _ _ _ (⟨#[42, 42]⟩ : ByteArray) [.string (⟨#[42, 42]⟩ : ByteArray)] from rfl) (Reps.one (show Kd.M Kd.string _ _ _ (⟨#[64]⟩ : ByteArray) [.string (⟨#[64]⟩ : ByteArray)] from rfl) (Reps.one (show Kd.M Kd.string _ _ _ (⟨#[124]⟩ : ByteArray) [.string (⟨#[124]⟩ : ByteArray)] from rfl) (Reps.one (show Kd.M Kd.string _ _ _ (⟨#[124, 124]⟩ : ByteArray) [.string (⟨#[124, 124]⟩ : ByteArray)] from rfl) (Reps.one (show Kd.M Kd.string _ _ _ (⟨#[94]⟩ : ByteArray) [.string (⟨#[94]⟩ : ByteArray)] from rfl) (Reps.one (show Kd.M Kd.string _ _ _ (⟨#[125]⟩ : ByteArray) [.string (⟨#[125]⟩ : ByteArray)] from rfl) (Reps.one (show Kd.M Kd.string _ _ _ (⟨#[93]⟩ : ByteArray) [.string (⟨#[93]⟩ : ByteArray)] from rfl) (Reps.one (show Kd.M Kd.string _ _ _ (⟨#[41]⟩ : ByteArray) [.string (⟨#[41]⟩ : ByteArray)] from rfl) (Reps.one (show Kd.M Kd.string _ _ _ (⟨#[58]⟩ : ByteArray) [.string (⟨#[58]⟩ : ByteArray)] from rfl) (Reps.one (show Kd.M Kd.string _ _ _ (⟨#[44]⟩ : ByteArray) [.string (⟨#[44]⟩ : ByteArray)] from rfl) (Reps.one (show Kd.M Kd.string _ _ _ (⟨#[46]⟩ : ByteArray) [.string (⟨#[46]⟩ : ByteArray)] from rfl) (Reps.one (show Kd.M Kd.string _ _ _ (⟨#[46, 46, 46]⟩ : ByteArray) [.string (⟨#[46, 46, 46]⟩ : ByteArray)] from rfl) (Reps.one (show Kd.M Kd.string _ _ _ (⟨#[61, 61]⟩ : ByteArray) [.string (⟨#[61, 61]⟩ : ByteArray)] from rfl) (Reps.one (show Kd.M Kd.string _ _ _ (⟨#[61, 61, 61]⟩ : ByteArray) [.string (⟨#[61, 61, 61]⟩ : ByteArray)] from rfl) (Reps.one (show Kd.M Kd.string _ _ _ (⟨#[61, 62]⟩ : ByteArray) [.string (⟨#[61, 62]⟩ : ByteArray)] from rfl) (Reps.one (show Kd.M Kd.string _ _ _ (⟨#[33]⟩ : ByteArray) [.string (⟨#[33]⟩ : ByteArray)] from rfl) (Reps.one (show Kd.M Kd.string _ _ _ (⟨#[33, 61]⟩ : ByteArray) [.string (⟨#[33, 61]⟩ : ByteArray)] from rfl) (Reps.one (show Kd.M Kd.string _ _ _ (⟨#[33, 61, 61]⟩ : ByteArray) [.string (⟨#[33, 61, 61]⟩ : ByteArray)] from rfl) (Reps.one (show Kd.M Kd.string _ _ _ (⟨#[62]⟩ : ByteArray) [.string (⟨#[62]⟩ : ByteArray)] from rfl) (Reps.one (show Kd.M Kd.string _ _ _ (⟨#[62, 61]⟩ : ByteArray) [.string (⟨#[62, 61]⟩ : ByteArray)] from rfl) (Reps.one (show Kd.M Kd.string _ _ _ (⟨#[62, 62]⟩ : ByteArray) [.string (⟨#[62, 62]⟩ : ByteArray)] from rfl) (Reps.one (show Kd.M Kd.string _ _ _ (⟨#[62, 62, 62]⟩ : ByteArray) [.string (⟨#[62, 62, 62]⟩ : ByteArray)] from rfl) (Reps.one (show Kd.M Kd.string _ _ _ (⟨#[60]⟩ : ByteArray) [.string (⟨#[60]⟩ : ByteArray)] from rfl) (Reps.one (show Kd.M Kd.string _ _ _ (⟨#[60, 61]⟩ : ByteArray) [.string (⟨#[60, 61]⟩ : ByteArray)] from rfl) (Reps.one (show Kd.M Kd.string _ _ _ (⟨#[60, 60]⟩ : ByteArray) [.string (⟨#[60, 60]⟩ : ByteArray)] from rfl) (Reps.one (show Kd.M Kd.string _ _ _ (⟨#[45]⟩ : ByteArray) [.string (⟨#[45]⟩ : ByteArray)] from rfl) (Reps.one (show Kd.M Kd.string _ _ _ (⟨#[45, 45]⟩ : ByteArray) [.string (⟨#[45, 45]⟩ : ByteArray)] from rfl) (Reps.one (show Kd.M Kd.string _ _ _ (⟨#[123]⟩ : ByteArray) [.string (⟨#[123]⟩ : ByteArray)] from rfl) (Reps.one (show Kd.M Kd.string _ _ _ (⟨#[91]⟩ : ByteArray) [.string (⟨#[91]⟩ : ByteArray)] from rfl) (Reps.one (show Kd.M Kd.string _ _ _ (⟨#[40]⟩ : ByteArray) [.string (⟨#[40]⟩ : ByteArray)] from rfl) (Reps.one (show Kd.M Kd.string _ _ _ (⟨#[37]⟩ : ByteArray) [.string (⟨#[37]⟩ : ByteArray)] from rfl) (Reps.one (show Kd.M Kd.string _ _ _ (⟨#[43]⟩ : ByteArray) [.string (⟨#[43]⟩ : ByteArray)] from rfl) (Reps.one (show Kd.M Kd.string _ _ _ (⟨#[43, 43]⟩ : ByteArray) [.string (⟨#[43, 43]⟩ : ByteArray)] from rfl) (Reps.one (show Kd.M Kd.string _ _ _ (⟨#[63]⟩ : ByteArray) [.string (⟨#[63]⟩ : ByteArray)] from rfl) (Reps.one (show Kd.M Kd.string _ _ _ (⟨#[63, 46]⟩ : ByteArray) [.string (⟨#[63, 46]⟩ : ByteArray)] from rfl) (Reps.one (show Kd.M Kd.string _ _ _ (⟨#[63, 63]⟩ : ByteArray) [.string (⟨#[63, 63]⟩ : ByteArray)] from rfl) (Reps.one (show Kd.M Kd.string _ _ _ (⟨#[59]⟩ : ByteArray) [.string (⟨#[59]⟩ : ByteArray)] from rfl) (Reps.one (show Kd.M Kd.string _ _ _ (⟨#[47]⟩ : ByteArray) [.string (⟨#[47]⟩ : ByteArray)] from rfl) (Reps.one (show Kd.M Kd.string _ _ _ (⟨#[126]⟩ : ByteArray) [.string (⟨#[126]⟩ : ByteArray)] from rfl) (Reps.none _ _)))))))))))))))))))))))))))))))))))))))))))); intro v110 w10 ho11 hb hg_ hnew_; clear hg_ hnew_; (first | rw [← Ny109.out] at ho11 | (simp only [Int.reduceToNat] at ho11; rw [← Ny109.out] at ho11)); have n0_ := Aside0.mk (Kd.R_elder' (by (with_reducible repeat (first | apply Kd.R_alloc | apply Kd.R_drewN | apply Kd.R_drew)); exact HO107.out) (Kd.R_base ho11) hb); have n1_ := Aside0.mk (Kd.R_lower (Kd.R_new' ho11 (Kd.R_lt (by (with_reducible repeat (first | apply Kd.R_alloc | apply Kd.R_drewN | apply Kd.R_drew)); exact HO107.out))) (below_size (by repeat (first | (with_reducible first | exact HB.out | apply below_alloc | apply pw_below_drewN | apply below_drew1) | exact HB.out)))); have n2_ := Aside0.mk (below_step (by repeat (first | (with_reducible first | exact HB.out | apply below_alloc | apply pw_below_drewN | apply below_drew1) | exact HB.out)) hb); clear HO107; clear HB; have HO107 := n0_; have HO111 := n1_; have HB := n2_; clear n0_ n1_ n2_; clear hb ho11; obtain ⟨Ao12, co12, eo12⟩ := Kd.R_slice HO111.out; subst eo12) | ((with_reducible refine gate_callee (f := 33) rfl ?_); refine goesL_ (some 13) rfl rfl Try.func33 (by kernel_rfl) rfl #[.slice Ao12 y109.length co12, .string a0] rfl (by (try simp only [List.map_toArray, List.map_cons, List.map_nil]); first | done | rfl | (simp only [List.length_drop, List.length_take]; rfl)) ?_; (with_reducible refine (spec_placeIn.calls k _ _ y109 a0 t112 _ ?side1 ?side2 A7.out).mono ?_); (case side1 => repeat (first | exact (Kd.R_reads' HO111.out).2.2 | (with_reducible refine Kd.C_alloc ?_ _) | (with_reducible refine Kd.C_drewN ?_ _) | (with_reducible refine Kd.C_drew ?_))); (case side2 => exact (Kd.R_reads' HO111.out).2.1); rintro e w' ⟨rfl, ⟨nd, rfl⟩⟩; refine ⟨_, rfl, ?_⟩))
    go_ret
    exact ⟨by first | rfl | (simp [errW_none, errW_some] <;> rfl) | (simp [*, errW_none, errW_some] <;> rfl), by repeat (first | (with_reducible first | exact HB.out | apply below_alloc | apply pw_below_drewN | apply below_drew1) | exact HB.out)⟩

/-! ### js_lexer_T_IsAssign: function 34 -/
def js_lexer_T_IsAssign.f (a0 : Int) : Option (Bool) := if a0 ≥ 52 then (some (decide (a0 ≤ 67))) else (some false)
set_option maxHeartbeats 8000000 in
set_option maxRecDepth 100000 in
theorem js_lexer_T_IsAssign.calls (a0 : Int) (r : Bool) (w : World) (h : js_lexer_T_IsAssign.f a0 = some r) :
    Calls Try.prog 34 #[.int .u8 a0] w fun e w' => e = .returned (.bool r) ∧ Drawn0 w w' := by
  have H : (if a0 ≥ 52 then (some (decide (a0 ≤ 67))) else (some false)) = some r := h
  clear h
  by_cases c2 : a0 ≥ 52
  · rw [if_pos c2] at H
    have c2b0 : decide (52 ≤ a0) = true := decide_eq_true c2
    clear c2
    obtain rfl := Option.some.inj H
    go_enter Try.func34, Try.ntmps34
    go_wp2
    go_ret
    exact ⟨by first | rfl | (simp; done) | (simp [*]; done), by repeat (first | exact Drawn0.refl _ | apply Drawn0.step)⟩
  · rw [if_neg c2] at H
    have c2b0 : decide (52 ≤ a0) = false := decide_eq_false c2
    clear c2
    obtain rfl := Option.some.inj H
    go_enter Try.func34, Try.ntmps34
    go_wp2
    go_ret
    exact ⟨by first | rfl | (simp; done) | (simp [*]; done), by repeat (first | exact Drawn0.refl _ | apply Drawn0.step)⟩

/-! ### impl_Assigns: function 15 -/
def impl_Assigns.f (a0 : Int) : Option (Bool) := if a0 ≥ 0 then (if a0 ≤ 255 then ((js_lexer_T_IsAssign.f ((a0) % 256)).bind fun t113 => (some t113)) else (some false)) else (some false)
set_option maxHeartbeats 8000000 in
set_option maxRecDepth 100000 in
theorem impl_Assigns.calls (a0 : Int) (r : Bool) (w : World) (h : impl_Assigns.f a0 = some r) :
    Calls Try.prog 15 #[.int .i64 a0] w fun e w' => e = .returned (.bool r) ∧ Drawn0 w w' := by
  have H : (if a0 ≥ 0 then (if a0 ≤ 255 then ((js_lexer_T_IsAssign.f ((a0) % 256)).bind fun t113 => (some t113)) else (some false)) else (some false)) = some r := h
  clear h
  by_cases c2 : a0 ≥ 0
  · rw [if_pos c2] at H
    have c2b0 : decide (0 ≤ a0) = true := decide_eq_true c2
    clear c2
    by_cases c3 : a0 ≤ 255
    · rw [if_pos c3] at H
      have c3b0 : decide (a0 ≤ 255) = true := decide_eq_true c3
      clear c3
      replace H := Option.bind_eq_some_iff.mp H
      obtain ⟨t113, A40, H⟩ := H
      replace H : (some t113) = some r := H
      have A4 := Aside0.mk A40
      clear A40
      obtain rfl := Option.some.inj H
      go_enter Try.func15, Try.ntmps15
      go_wp2_with (first | (go_at_call 34; (with_reducible refine (js_lexer_T_IsAssign.calls ((a0) % 256) t113 _ A4.out).mono ?_); rintro e w' ⟨rfl, ⟨nd, rfl⟩⟩))
      go_ret
      exact ⟨by first | rfl | (simp; done) | (simp [*]; done), by repeat (first | exact Drawn0.refl _ | apply Drawn0.step)⟩
    · rw [if_neg c3] at H
      have c3b0 : decide (a0 ≤ 255) = false := decide_eq_false c3
      clear c3
      obtain rfl := Option.some.inj H
      go_enter Try.func15, Try.ntmps15
      go_wp2
      go_ret
      exact ⟨by first | rfl | (simp; done) | (simp [*]; done), by repeat (first | exact Drawn0.refl _ | apply Drawn0.step)⟩
  · rw [if_neg c2] at H
    have c2b0 : decide (0 ≤ a0) = false := decide_eq_false c2
    clear c2
    obtain rfl := Option.some.inj H
    go_enter Try.func15, Try.ntmps15
    go_wp2
    go_ret
    exact ⟨by first | rfl | (simp; done) | (simp [*]; done), by repeat (first | exact Drawn0.refl _ | apply Drawn0.step)⟩

/-! ### laws_FnAssigns: function 3 -/
mutual
def laws_FnAssigns.j0 : Nat → Int → Bool → Option (Bool)
  | 0, _, _ => none
  | k + 1, x0, x11 => if x11 = true then (some true) else ((spec_Assigning.f).bind fun t114 => (laws_FnAssigns.l0 k x0 false t114 (t114.length : Int) 0))
def laws_FnAssigns.l0 : Nat → Int → Bool → List ByteArray → Int → Int → Option (Bool)
  | 0, _, _, _, _, _ => none
  | k + 1, x0, x3, x12, x13, x14 => if x14 < x13 then (if 0 ≤ x14 then (if x14 < (x12.length : Int) then (if x3 = true then (laws_FnAssigns.l0 k x0 true x12 x13 (wrap64 (x14 + 1))) else ((spec_MarkKind.f k (rdOf ByteArray.empty x12 x14)).bind fun t118 => (laws_FnAssigns.l0 k x0 (t118 == x0) x12 x13 (wrap64 (x14 + 1))))) else (none)) else (none)) else ((impl_Assigns.f x0).bind fun t119 => (some (t119 == x3)))
end
def laws_FnAssigns.f (k : Nat) (a0 : Int) : Option (Bool) := if a0 < 0 then (laws_FnAssigns.j0 k a0 true) else (laws_FnAssigns.j0 k a0 (decide (a0 > 106)))
theorem laws_FnAssigns.mono_l : ∀ k, (∀ y0 y1, LeO (laws_FnAssigns.j0 k y0 y1) (laws_FnAssigns.j0 (k + 1) y0 y1)) ∧ (∀ y0 y1 y2 y3 y4, LeO (laws_FnAssigns.l0 k y0 y1 y2 y3 y4) (laws_FnAssigns.l0 (k + 1) y0 y1 y2 y3 y4))
  | 0 => ⟨fun _ _ r h => by simp [laws_FnAssigns.j0] at h, fun _ _ _ _ _ r h => by simp [laws_FnAssigns.l0] at h⟩
  | k + 1 => by
    obtain ⟨ih0, ih1⟩ := laws_FnAssigns.mono_l k
    refine ⟨?_, ?_⟩
    · intro y0 y1
      unfold laws_FnAssigns.j0
      repeat' first
      | (with_reducible exact ih0 _ _)
      | (with_reducible exact ih1 _ _ _ _ _)
      | (with_reducible exact spec_MarkKind.mono _ _)
      | (with_reducible exact LeO.refl _)
      | (with_reducible exact LeO.none _)
      | (with_reducible refine LeO.ite ?_ ?_)
      | (with_reducible refine LeO.bind ?_ (fun _ => ?_))
      | exact ih0 _ _
      | exact ih1 _ _ _ _ _
      | exact spec_MarkKind.mono _ _
      | exact LeO.none _
      | refine LeO.ite ?_ ?_
      | refine LeO.bind ?_ (fun _ => ?_)
    · intro y0 y1 y2 y3 y4
      unfold laws_FnAssigns.l0
      repeat' first
      | (with_reducible exact ih0 _ _)
      | (with_reducible exact ih1 _ _ _ _ _)
      | (with_reducible exact spec_MarkKind.mono _ _)
      | (with_reducible exact LeO.refl _)
      | (with_reducible exact LeO.none _)
      | (with_reducible refine LeO.ite ?_ ?_)
      | (with_reducible refine LeO.bind ?_ (fun _ => ?_))
      | exact ih0 _ _
      | exact ih1 _ _ _ _ _
      | exact spec_MarkKind.mono _ _
      | exact LeO.none _
      | refine LeO.ite ?_ ?_
      | refine LeO.bind ?_ (fun _ => ?_)
theorem laws_FnAssigns.mono : ∀ a0 k, LeO (laws_FnAssigns.f k a0) (laws_FnAssigns.f (k + 1) a0) := by
  intro a0 k
  obtain ⟨ih0, ih1⟩ := laws_FnAssigns.mono_l k
  unfold laws_FnAssigns.f
  repeat' first
      | (with_reducible exact ih0 _ _)
      | (with_reducible exact ih1 _ _ _ _ _)
      | (with_reducible exact spec_MarkKind.mono _ _)
      | (with_reducible exact LeO.refl _)
      | (with_reducible exact LeO.none _)
      | (with_reducible refine LeO.ite ?_ ?_)
      | (with_reducible refine LeO.bind ?_ (fun _ => ?_))
      | exact ih0 _ _
      | exact ih1 _ _ _ _ _
      | exact spec_MarkKind.mono _ _
      | exact LeO.none _
      | refine LeO.ite ?_ ?_
      | refine LeO.bind ?_ (fun _ => ?_)
set_option maxHeartbeats 8000000 in
set_option maxRecDepth 100000 in
theorem laws_FnAssigns.calls (k : Nat) (a0 : Int) (r : Bool) (w : World) (h : laws_FnAssigns.f k a0 = some r) :
    Calls Try.prog 3 #[.int .i64 a0] w fun e w' => e = .returned (.bool r) ∧ Below w.heap.size w w' := by
  have HB := Aside0.mk (Below.refl w.heap.size w)
  have H : (if a0 < 0 then (laws_FnAssigns.j0 k a0 true) else (laws_FnAssigns.j0 k a0 (decide (a0 > 106)))) = some r := h
  clear h
  have HC2 := Aside0.mk H
  clear H
  go_enter Try.func3, Try.ntmps3
  go_upto_region 1 with (fail)
  go_cut [11] (fun v11 wc => ∃ (kq : Nat) (x11_1 : Bool), v11 = .bool x11_1 ∧ Aside0 (laws_FnAssigns.j0 kq a0 x11_1 = some r) ∧ Aside0 (kq ≤ k) ∧ Aside0 (Below w.heap.size w wc))
  case first =>
    have H := HC2.out
    clear HC2
    by_cases c3 : a0 < 0
    · rw [if_pos c3] at H
      have c3b0 : decide (a0 < 0) = true := decide_eq_true c3
      clear c3
      (first | rw [c3b0] | (simp only [i64_w, i32_w]; rw [c3b0]) | skip)
      have H' := Aside0.mk H
      clear H
      go_wp2
      go_meet
      case rel => exact ⟨_, (true), (by first | rfl | (simp; done) | (simp [*]; done)), H', ⟨by first | omega | exact Nat.le_refl _⟩, ⟨by repeat (first | (with_reducible first | exact HB.out | apply below_alloc | apply pw_below_drewN | apply below_drew1) | exact HB.out)⟩⟩
    · rw [if_neg c3] at H
      have c3b0 : decide (a0 < 0) = false := decide_eq_false c3
      clear c3
      (first | rw [c3b0] | (simp only [i64_w, i32_w]; rw [c3b0]) | skip)
      have H' := Aside0.mk H
      clear H
      go_wp2
      go_meet
      case rel => exact ⟨_, (decide (a0 > 106)), (by first | rfl | (simp; done) | (simp [*]; done)), H', ⟨by first | omega | exact Nat.le_refl _⟩, ⟨by repeat (first | (with_reducible first | exact HB.out | apply below_alloc | apply pw_below_drewN | apply below_drew1) | exact HB.out)⟩⟩
  case rest =>
    clear HC2
    try clear p2
    try clear c3
    try clear c3b0
    obtain ⟨kq, x11_1, rfl, HA, HJ1, HB⟩ := hcut
    cases kq with
    | zero => exact absurd HA.out (by simp [laws_FnAssigns.j0])
    | succ kj1 =>
      have H := HA.out
      clear HA
      simp only [laws_FnAssigns.j0] at H
      by_cases c4 : x11_1 = true
      · subst c4
        have H1 : (some true) = some r := by rw [if_pos rfl] at H; exact H
        clear H
        have H := H1
        clear H1
        obtain rfl := Option.some.inj H
        go_wp2
        go_ret
        exact ⟨by first | rfl | (simp [errW_none, errW_some] <;> rfl) | (simp [*, errW_none, errW_some] <;> rfl), by repeat (first | (with_reducible first | exact HB.out | apply below_alloc | apply pw_below_drewN | apply below_drew1) | exact HB.out)⟩
      · replace c4 := Bool.eq_false_iff.mpr c4
        subst c4
        have H1 : ((spec_Assigning.f).bind fun t114 => (laws_FnAssigns.l0 kj1 a0 false t114 (t114.length : Int) 0)) = some r := by rw [if_neg (show ¬ (false = true) by decide)] at H; exact H
        clear H
        have H := H1
        clear H1
        replace H := Option.bind_eq_some_iff.mp H
        obtain ⟨t114, A50, H⟩ := H
        replace H : (laws_FnAssigns.l0 kj1 a0 false t114 (t114.length : Int) 0) = some r := H
        have A5 := Aside0.mk A50
        clear A50
        have H' := Aside0.mk H
        clear H
        go_wp2_with (first | ((with_reducible refine gate_callee (f := 13) rfl ?_); refine goesL_ (some 12) rfl rfl Try.func13 (by kernel_rfl) rfl #[] rfl (by (try simp only [List.map_toArray, List.map_cons, List.map_nil]); first | done | rfl | (simp only [List.length_drop, List.length_take]; rfl)) ?_; (with_reducible refine (spec_Assigning.calls  t114 _ A5.out).mono ?_); rintro e w6 ⟨v115, rfl, ho0, hb⟩; refine ⟨_, rfl, ?_⟩; have n0_ := Aside0.mk (Kd.R_lower ho0 (below_size (by repeat (first | (with_reducible first | exact HB.out | apply below_alloc | apply pw_below_drewN | apply below_drew1) | exact HB.out)))); have n1_ := Aside0.mk (below_step (by repeat (first | (with_reducible first | exact HB.out | apply below_alloc | apply pw_below_drewN | apply below_drew1) | exact HB.out)) hb); clear HB; have HO116 := n0_; have HB := n1_; clear n0_ n1_; (try clear hb); (try clear hb2); (try clear hk); (try clear hi); (try clear ho0); obtain ⟨Ao7, co7, eo7⟩ := Kd.R_slice HO116.out; subst eo7))
        go_loopg [3, 14] kj1 (fun kq v3 v14 w' => ∃ (x3_2 : Bool) (x14_2 : Int), v3 = .bool x3_2 ∧ v14 = .int .i64 x14_2 ∧ Aside0 (laws_FnAssigns.l0 kq a0 x3_2 t114 (t114.length : Int) x14_2 = some r) ∧ Aside0 (kq ≤ kj1) ∧ Aside0 (Kd.R Kd.string 9 w' w.heap.size (fun _ => True) (.slice Ao7 t114.length co7) t114) ∧ Aside0 (Below w.heap.size w w'))
        case atStart => exact ⟨(false), (0), (by first | rfl | (simp; done) | (simp [*]; done)), (by first | rfl | (simp; done) | (simp [*]; done)), H', ⟨Nat.le_refl _⟩, ⟨by (with_reducible repeat (first | apply Kd.R_alloc | apply Kd.R_drewN | apply Kd.R_drew)); exact HO116.out⟩, ⟨by repeat (first | (with_reducible first | exact HB.out | apply below_alloc | apply pw_below_drewN | apply below_drew1) | exact HB.out)⟩⟩
        case round =>
          clear H'
          try clear c1
          try clear p2
          try clear c3
          try clear c3b0
          try clear c4
          try clear p2
          obtain ⟨x3_2, x14_2, rfl, rfl, HA, HK2, HO_12, HB⟩ := hrel
          cases gk with
          | zero => exact absurd HA.out (by simp [laws_FnAssigns.l0])
          | succ k2 =>
            have H := HA.out
            clear HA
            simp only [laws_FnAssigns.l0] at H
            by_cases c8 : x14_2 < (t114.length : Int)
            · rw [if_pos c8] at H
              have c8b0 : decide (x14_2 < (t114.length : Int)) = true := decide_eq_true c8
              clear c8
              by_cases c9 : 0 ≤ x14_2
              · rw [if_pos c9] at H
                have c9b0 : decide (0 ≤ x14_2) = true := decide_eq_true c9
                clear c9
                by_cases c10 : x14_2 < (t114.length : Int)
                · rw [if_pos c10] at H
                  have c10b0 : decide (x14_2 < (t114.length : Int)) = true := decide_eq_true c10
                  clear c10
                  by_cases c11 : x3_2 = true
                  · subst c11
                    have H1 : (laws_FnAssigns.l0 k2 a0 true t114 (t114.length : Int) (wrap64 (x14_2 + 1))) = some r := by rw [if_pos rfl] at H; exact H
                    clear H
                    have H := H1
                    clear H1
                    have H' := Aside0.mk H
                    clear H
                    have p117 : 0 ≤ (x14_2 : Int) := of_decide_eq_true (by first | (with_reducible assumption) | assumption)
                    have q117 : x14_2 < (t114.length : Int) := of_decide_eq_true (by first | (with_reducible assumption) | assumption)
                    obtain ⟨ad117, e117, hx117_0⟩ := Kd.at_string (Kd.R_reads' HO_12.out).2.2 x14_2 p117 q117
                    cases e117
                    replace p117 := eq_true p117
                    replace q117 := eq_true q117
                    go_wp2
                    go_roundg k2
                    case measure => have := HJ1.out; have := HK2.out; omega
                    case rel => exact ⟨(true), (wrap64 (x14_2 + 1)), (by first | rfl | (simp; done) | (simp [*]; done)), (by first | rfl | (simp; done) | (simp [*]; done)), H', ⟨by have := HJ1.out; have := HK2.out; omega⟩, ⟨by (with_reducible repeat (first | apply Kd.R_alloc | apply Kd.R_drewN | apply Kd.R_drew)); exact HO_12.out⟩, ⟨by repeat (first | (with_reducible first | exact HB.out | apply below_alloc | apply pw_below_drewN | apply below_drew1) | exact HB.out)⟩⟩
                  · replace c11 := Bool.eq_false_iff.mpr c11
                    subst c11
                    have H1 : ((spec_MarkKind.f k2 (rdOf ByteArray.empty t114 x14_2)).bind fun t118 => (laws_FnAssigns.l0 k2 a0 (t118 == a0) t114 (t114.length : Int) (wrap64 (x14_2 + 1)))) = some r := by rw [if_neg (show ¬ (false = true) by decide)] at H; exact H
                    clear H
                    have H := H1
                    clear H1
                    replace H := Option.bind_eq_some_iff.mp H
                    obtain ⟨t118, A120, H⟩ := H
                    replace H : (laws_FnAssigns.l0 k2 a0 (t118 == a0) t114 (t114.length : Int) (wrap64 (x14_2 + 1))) = some r := H
                    have A12 := Aside0.mk A120
                    clear A120
                    have H' := Aside0.mk H
                    clear H
                    have p117 : 0 ≤ (x14_2 : Int) := of_decide_eq_true (by first | (with_reducible assumption) | assumption)
                    have q117 : x14_2 < (t114.length : Int) := of_decide_eq_true (by first | (with_reducible assumption) | assumption)
                    obtain ⟨ad117, e117, hx117_0⟩ := Kd.at_string (Kd.R_reads' HO_12.out).2.2 x14_2 p117 q117
                    cases e117
                    replace p117 := eq_true p117
                    replace q117 := eq_true q117
                    go_wp2_with (first | (go_at_call 14; (with_reducible refine (spec_MarkKind.calls k2 (rdOf ByteArray.empty t114 x14_2) t118 _ A12.out).mono ?_); rintro e w13 ⟨rfl, hb⟩; have n0_ := Aside0.mk (Kd.R_below (by (with_reducible repeat (first | apply Kd.R_alloc | apply Kd.R_drewN | apply Kd.R_drew)); exact HO_12.out) hb); have n1_ := Aside0.mk (below_step (by repeat (first | (with_reducible first | exact HB.out | apply below_alloc | apply pw_below_drewN | apply below_drew1) | exact HB.out)) hb); clear HO_12; clear HB; have HO_12 := n0_; have HB := n1_; clear n0_ n1_; (try clear hb); (try clear hb2); (try clear hk); (try clear hi)))
                    go_roundg k2
                    case measure => have := HJ1.out; have := HK2.out; omega
                    case rel => exact ⟨((t118 == a0)), (wrap64 (x14_2 + 1)), (by first | rfl | (simp; done) | (simp [*]; done)), (by first | rfl | (simp; done) | (simp [*]; done)), H', ⟨by have := HJ1.out; have := HK2.out; omega⟩, ⟨by (with_reducible repeat (first | apply Kd.R_alloc | apply Kd.R_drewN | apply Kd.R_drew)); exact HO_12.out⟩, ⟨by repeat (first | (with_reducible first | exact HB.out | apply below_alloc | apply pw_below_drewN | apply below_drew1) | exact HB.out)⟩⟩
                · rw [if_neg c10] at H
                  exact absurd H (by simp)
              · rw [if_neg c9] at H
                exact absurd H (by simp)
            · rw [if_neg c8] at H
              have c8b0 : decide (x14_2 < (t114.length : Int)) = false := decide_eq_false c8
              clear c8
              replace H := Option.bind_eq_some_iff.mp H
              obtain ⟨t119, A140, H⟩ := H
              replace H : (some (t119 == x3_2)) = some r := H
              have A14 := Aside0.mk A140
              clear A140
              obtain rfl := Option.some.inj H
              go_wp2_with (first | ((with_reducible refine gate_callee (f := 15) rfl ?_); refine goesL_ (some 27) rfl rfl Try.func15 (by kernel_rfl) rfl #[.int .i64 a0] rfl (by (try simp only [List.map_toArray, List.map_cons, List.map_nil]); first | done | rfl | (simp only [List.length_drop, List.length_take]; rfl)) ?_; (with_reducible refine (impl_Assigns.calls a0 t119 _ A14.out).mono ?_); rintro e w' ⟨rfl, ⟨nd, rfl⟩⟩; refine ⟨_, rfl, ?_⟩))
              go_ret
              exact ⟨by first | rfl | (simp [errW_none, errW_some] <;> rfl) | (simp [*, errW_none, errW_some] <;> rfl), by repeat (first | (with_reducible first | exact HB.out | apply below_alloc | apply pw_below_drewN | apply below_drew1) | exact HB.out)⟩

/-- THE ONE PURE STATEMENT of laws_FnAssigns: yours. -/
def laws_FnAssigns.Pure : Prop := ∀ (a0 : Int), (Lit.int .i64 a0).wf = true → ∃ k, laws_FnAssigns.f k a0 = some true
theorem laws_FnAssigns.walk (P : laws_FnAssigns.Pure) (a0 : Int) (w : World) (w0 : (Lit.int .i64 a0).wf = true) :
    Calls Try.prog 3 #[.int .i64 a0] w fun e w' => e = .returned (.bool true) ∧ Below w.heap.size w w' := by
  obtain ⟨k, h⟩ := P a0 w0
  refine (laws_FnAssigns.calls k a0 true w h).mono ?_
  rintro e w' ⟨rfl, hd⟩
  exact ⟨rfl, hd⟩

end Go.Proofs.Ytdcojgkblfobnaa.PFnAssigns
