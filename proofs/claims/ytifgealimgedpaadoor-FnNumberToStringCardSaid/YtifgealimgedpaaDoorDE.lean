/- The text of a double, at every word. The walks. -/
import Derived.Test.YtifgealimgedpaaDoorDD
namespace Go.Proofs.YtifgealimgedpaaDoor.Nats
open Go.RowKit Go.Proofs.YtifgealimgedpaaDoor.Aid Go.Proofs.YtifgealimgedpaaDoor.Runes Go.Proofs.YtifgealimgedpaaDoor.Bytes Go.Proofs.YtifgealimgedpaaDoor.Flo
attribute [local go_sem ↓] Go.wp_at_zero Go.wp_at_succ
set_option linter.unusedVariables false
def tNaN : ByteArray := ⟨#[78, 97, 78]⟩
def tInf : ByteArray := ⟨#[73, 110, 102, 105, 110, 105, 116, 121]⟩
def tMin : ByteArray := ⟨#[45]⟩
/-- The text of a double. -/
def TextAll (b : Nat) (t : ByteArray) : Prop :=
  (9218868437227405312 < rung b → t = tNaN) ∧ (rung b = 9218868437227405312 → t = if neg b then tMin ++ tInf else tInf) ∧ (rung b = 0 → t = ⟨#[48]⟩) ∧
  (0 < rung b → rung b < 9218868437227405312 → ∃ u, TextIs (rung b) u ∧ t = if neg b then tMin ++ u else u)
def AllPost (b : Nat) (w : World) (e : Ending) (w' : World) : Prop := Below w.heap.size w w' ∧ ∃ t : ByteArray, e = .returned (.string t) ∧ t.size ≤ 5001 ∧ TextAll b t
def PosPost (b : Nat) (w : World) (e : Ending) (w' : World) : Prop := Below w.heap.size w w' ∧ ∃ t : ByteArray, e = .returned (.string t) ∧ t.size ≤ 5000 ∧ TextAll b t
theorem neg_of {b : Nat} (h : b < 9223372036854775808) : neg b = false := by
  unfold neg
  rw [show b / 9223372036854775808 % 2 = 0 by omega]
  rfl
theorem neg_is {b : Nat} (h : 9223372036854775808 ≤ b) (h2 : b < 18446744073709551616) : neg b = true := by
  unfold neg
  rw [show b / 9223372036854775808 % 2 = 1 by omega]
  rfl
set_option maxRecDepth 100000 in
set_option maxHeartbeats 4000000 in
theorem text_pos (b : Nat) (w : World) (h : b < 9223372036854775808) : Calls Tryd.prog 14 #[.int .u64 b] w (PosPost b w) := by
  have hr : rung b = b := by unfold rung; omega
  have hn := neg_of h
  by_cases hf : 0 < b ∧ b < 9218868437227405312
  · refine (text_fin b w hf.1 hf.2).mono ?_
    rintro e w' ⟨hb, t, rfl, ht⟩
    refine ⟨hb, t, rfl, by have := ht.1; omega, ?_⟩
    unfold TextAll
    rw [hr, hn]
    exact ⟨fun _ => by omega, fun _ => by omega, fun _ => by omega, fun _ _ => ⟨t, ht, rfl⟩⟩
  · have hb := callFrom
    have HNN := Lib.hid (fun w => isNaN b w)
    rw [hr] at HNN
    have HTA := Lib.hid (show ∀ t, TextAll b t ↔ _ from fun t => Iff.rfl)
    by_cases h1 : 9218868437227405312 < b
    · rw [decide_eq_true h1] at HNN
      have HT := Lib.hid (show TextAll b tNaN by
        unfold TextAll
        rw [hr]
        exact ⟨fun _ => rfl, fun _ => by omega, fun _ => by omega, fun _ _ => by omega⟩)
      clear hf h1 hr hn h
      go_enter Tryd.func14, Tryd.ntmps14
      go_wp2_with fail
      refine (HNN.out _).mono ?_
      rintro e W ⟨rfl, rfl⟩
      go_wp2_with fail
      go_returns
      exact ⟨Below.refl _ _, _, rfl, by decide, HT.out⟩
    · rw [decide_eq_false h1] at HNN
      by_cases h0 : b = 0
      · have HT := Lib.hid (show TextAll b ⟨#[48]⟩ by
          unfold TextAll
          rw [hr]
          exact ⟨fun _ => by omega, fun _ => by omega, fun _ => rfl, fun _ _ => by omega⟩)
        have e1 : IntKind.u64.wrap ((b : Int) * 2) = ((b * 2 : Nat) : Int) := by rw [IntKind.wrap_u64]; omega
        have e2 : (((b * 2 : Nat) : Int) == 0) = true := by rw [h0]; rfl
        obtain ⟨R2, hR2⟩ : ∃ R2, R2 = b * 2 := ⟨_, rfl⟩
        rw [← hR2] at e1 e2
        clear hf h1 hr hn h h0 hR2
        go_enter Tryd.func14, Tryd.ntmps14
        go_wp2_with fail
        refine (HNN.out _).mono ?_
        rintro e W ⟨rfl, rfl⟩
        go_wp2_with fail
        go_returns
        exact ⟨Below.refl _ _, _, rfl, by decide, HT.out⟩
      · have hi : b = 9218868437227405312 := by omega
        have HT := Lib.hid (show TextAll b tInf by
          unfold TextAll
          rw [hr, hn]
          exact ⟨fun _ => by omega, fun _ => rfl, fun _ => by omega, fun _ _ => by omega⟩)
        have e1 : IntKind.u64.wrap ((b : Int) * 2) = ((b * 2 : Nat) : Int) := by rw [IntKind.wrap_u64]; omega
        have e2 : (((b * 2 : Nat) : Int) == 0) = false := by rw [beq_eq_false_iff_ne]; omega
        obtain ⟨R2, hR2⟩ : ∃ R2, R2 = b * 2 := ⟨_, rfl⟩
        rw [← hR2] at e1 e2
        have e3 : (b : Int) / 9223372036854775808 = 0 := by omega
        have e4 : ((b : Int) == 9218868437227405312) = true := by rw [hi]; rfl
        clear hf h1 hr hn h h0 hi hR2
        go_enter Tryd.func14, Tryd.ntmps14
        go_wp2_with fail
        refine (HNN.out _).mono ?_
        rintro e W ⟨rfl, rfl⟩
        go_wp2_with fail
        go_returns
        exact ⟨Below.refl _ _, _, rfl, by decide, HT.out⟩
set_option maxRecDepth 100000 in
set_option maxHeartbeats 4000000 in
theorem text_all (b : Nat) (w : World) (h : b < 18446744073709551616) : Calls Tryd.prog 14 #[.int .u64 b] w (AllPost b w) := by
  by_cases hp : b < 9223372036854775808
  · refine (text_pos b w hp).mono ?_
    rintro e w' ⟨hb, t, rfl, ht, hta⟩
    exact ⟨hb, t, rfl, by omega, hta⟩
  · have hn := neg_is (by omega) h
    have hb := callFrom
    have HNN := Lib.hid (fun w => isNaN b w)
    by_cases h1 : 9218868437227405312 < rung b
    · rw [decide_eq_true h1] at HNN
      have HT := Lib.hid (show TextAll b tNaN by
        unfold TextAll
        exact ⟨fun _ => rfl, fun _ => by omega, fun _ => by omega, fun _ _ => by omega⟩)
      clear h1 hn h hp
      go_enter Tryd.func14, Tryd.ntmps14
      go_wp2_with fail
      refine (HNN.out _).mono ?_
      rintro e W ⟨rfl, rfl⟩
      go_wp2_with fail
      go_returns
      exact ⟨Below.refl _ _, _, rfl, by decide, HT.out⟩
    · rw [decide_eq_false h1] at HNN
      have hrd : rung b = b - 9223372036854775808 := by unfold rung; omega
      have e1 : IntKind.u64.wrap ((b : Int) * 2) = ((rung b * 2 : Nat) : Int) := by rw [IntKind.wrap_u64, hrd]; omega
      by_cases h0 : rung b = 0
      · have e2 : (((rung b * 2 : Nat) : Int) == 0) = true := by rw [h0]; rfl
        have HT := Lib.hid (show TextAll b ⟨#[48]⟩ by
          unfold TextAll
          exact ⟨fun _ => by omega, fun _ => by omega, fun _ => rfl, fun _ _ => by omega⟩)
        obtain ⟨R2, hR2⟩ : ∃ R2, R2 = rung b * 2 := ⟨_, rfl⟩
        rw [← hR2] at e1 e2
        clear h1 hn h hp h0 hrd hR2
        go_enter Tryd.func14, Tryd.ntmps14
        go_wp2_with fail
        refine (HNN.out _).mono ?_
        rintro e W ⟨rfl, rfl⟩
        go_wp2_with fail
        go_returns
        exact ⟨Below.refl _ _, _, rfl, by decide, HT.out⟩
      · have e2 : (((rung b * 2 : Nat) : Int) == 0) = false := by rw [beq_eq_false_iff_ne]; omega
        have e3 : (b : Int) / 9223372036854775808 = 1 := by omega
        have e4 := and63 b h
        have HTP := Lib.hid (fun w => text_pos (rung b) w (by unfold rung; omega))
        have hrr : rung (rung b) = rung b := by unfold rung; omega
        have hnr : neg (rung b) = false := neg_of (by unfold rung; omega)
        have HT := Lib.hid (fun t => show TextAll (rung b) t → TextAll b (tMin ++ t) from fun ht => by
          unfold TextAll at ht ⊢
          rw [hrr, hnr] at ht
          rw [hn]
          refine ⟨fun h => by omega, fun h => ?_, fun h => by omega, fun a1 a2 => ?_⟩
          · rw [ht.2.1 h]
            rfl
          · obtain ⟨u, hu, e⟩ := ht.2.2.2 a1 a2
            exact ⟨u, hu, by rw [e]; rfl⟩)
        obtain ⟨R2, hR2⟩ : ∃ R2, R2 = rung b * 2 := ⟨_, rfl⟩
        rw [← hR2] at e1 e2
        obtain ⟨R, hR⟩ : ∃ R, R = rung b := ⟨_, rfl⟩
        rw [← hR] at e4 HTP HT
        clear h1 hn h hp h0 hrd hR2 hrr hnr hR
        go_enter Tryd.func14, Tryd.ntmps14
        go_wp2_with fail
        refine (HNN.out _).mono ?_
        rintro e W ⟨rfl, rfl⟩
        go_wp2_with fail
        refine (HTP.out _).mono ?_
        rintro e W2 ⟨hb2, t, rfl, ht, hta⟩
        have HB2 := Lib.hid hb2
        have HT2 := Lib.hid (HT.out t hta)
        have x1 : 1 + t.size ≤ 9223372036854775807 := by omega
        have HTS := Lib.hid (show t.size ≤ 5000 from ht)
        clear hb2 ht hta
        go_wp2_with fail
        go_returns
        exact ⟨HB2.out, _, rfl, by rw [ByteArray.size_append]; have := HTS.out; show 1 + t.size ≤ 5001; omega, HT2.out⟩
set_option maxRecDepth 100000 in
theorem numText (b : Nat) (w : World) (h : b < 18446744073709551616) : Calls Tryd.prog 9 #[.float .f64 b] w (AllPost b w) := by
  have hb := callBits
  have HT := Lib.hid (fun w => text_all b w h)
  clear h
  go_enter Tryd.func9, Tryd.ntmps9
  go_wp2_with fail
  refine (HT.out _).mono ?_
  rintro e W2 ⟨hb2, t, rfl, ht, hta⟩
  have HB2 := Lib.hid (And.intro hb2 (And.intro ht hta))
  clear hb2 ht hta
  go_wp2_with fail
  go_returns
  exact ⟨HB2.out.1, t, rfl, HB2.out.2⟩
end Go.Proofs.YtifgealimgedpaaDoor.Nats
