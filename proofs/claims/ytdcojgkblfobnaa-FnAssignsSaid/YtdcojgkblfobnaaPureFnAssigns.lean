/- For every whole number, the kind of a token of that number assigns in the package just if it is the kind of one of the sixteen operators that assign; no condition. -/
import Derived.Test.YtdcojgkblfobnaaPFnAssignsx1
namespace Go.Proofs.Ytdcojgkblfobnaa.Pure
open Go.RowKit Go.Proofs.Ytdcojgkblfobnaa.PFnAssigns Go.Proofs.YtdcojgkblfobnaaW.PrintWords Go.Proofs.YtdcojgkblfobnaaW.PrintLast

namespace As

theorem wrap_small (i : Int) (h0 : 0 ≤ i) (h1 : i ≤ 4611686018427387904) : wrap64 i = i := by
  unfold wrap64
  omega

/-- Where a text stands in a list, from i on. -/
def seek (s : List UInt8) : List (List UInt8) → Nat → Int
  | [], _ => -1
  | x :: t, i => if x = s then (i : Int) else seek s t (i + 1)

theorem place_l0 (xs : List ByteArray) (s : ByteArray) (hx : xs.length ≤ 1000) (d : Nat) : ∀ (i k : Nat), xs.length = i + d → d < k →
    spec_placeIn.l0 k xs s (i : Int) = some (seek s.data.toList ((xs.drop i).map fun b => b.data.toList) i) := by
  induction d with
  | zero =>
    intro i k hi hk
    obtain ⟨k, rfl⟩ : ∃ m, k = m + 1 := ⟨k - 1, by omega⟩
    simp only [spec_placeIn.l0]
    rw [if_neg (by omega), List.drop_of_length_le (by omega)]
    rfl
  | succ d ih =>
    intro i k hi hk
    obtain ⟨k, rfl⟩ : ∃ m, k = m + 1 := ⟨k - 1, by omega⟩
    have hlt : i < xs.length := by omega
    have hr : rdOf ByteArray.empty xs (i : Int) = xs[i] := by simp [rdOf, hlt]
    simp only [spec_placeIn.l0]
    rw [if_pos (by omega), if_pos (by omega), hr, List.drop_eq_getElem_cons hlt, List.map_cons, seek, ByteArray.toList_eq, ByteArray.toList_eq]
    by_cases e : xs[i].data.toList = s.data.toList
    · rw [if_pos e, if_pos e]
    · rw [if_neg e, if_neg e, wrap_small _ (by omega) (by omega), ← ih (i + 1) k (by omega) (by omega)]
      rfl

theorem place (xs : List ByteArray) (s : ByteArray) (k : Nat) (hx : xs.length ≤ 1000) (hk : xs.length < k) :
    spec_placeIn.f k xs s = some (seek s.data.toList (xs.map fun b => b.data.toList) 0) := by
  have h := place_l0 xs s hx xs.length 0 k (by omega) hk
  simpa [spec_placeIn.f] using h

/-- The operators that assign. -/
def ops : List ByteArray := [⟨#[38, 38, 61]⟩, ⟨#[38, 61]⟩, ⟨#[42, 42, 61]⟩, ⟨#[42, 61]⟩, ⟨#[124, 124, 61]⟩, ⟨#[124, 61]⟩, ⟨#[94, 61]⟩, ⟨#[61]⟩, ⟨#[62, 62, 61]⟩, ⟨#[62, 62, 62, 61]⟩, ⟨#[60, 60, 61]⟩, ⟨#[45, 61]⟩, ⟨#[37, 61]⟩, ⟨#[43, 61]⟩, ⟨#[63, 63, 61]⟩, ⟨#[47, 61]⟩]
theorem ops_f : spec_Assigning.f = some ops := rfl
theorem ops_len : ops.length = 16 := rfl

theorem ops_seek : ∀ i : Fin 16, seek (rdOf ByteArray.empty ops ((i : Nat) : Int)).data.toList (ops.map fun b => b.data.toList) 0 = ((i : Nat) : Int) := by decide +kernel

theorem mark (i k : Nat) (hi : i < 16) (hk : 16 < k) : spec_MarkKind.f k (rdOf ByteArray.empty ops (i : Int)) = some (52 + (i : Int)) := by
  unfold spec_MarkKind.f
  rw [ops_f]
  simp only [Option.bind_some]
  rw [place ops _ k (by rw [ops_len]; omega) (by rw [ops_len]; omega), ops_seek ⟨i, hi⟩]
  simp only [Option.bind_some]
  rw [if_pos (by omega), wrap_small _ (by omega) (by omega)]

theorem assigns (a : Int) (h0 : 0 ≤ a) (h1 : a ≤ 106) : impl_Assigns.f a = some (decide (52 ≤ a ∧ a ≤ 67)) := by
  unfold impl_Assigns.f js_lexer_T_IsAssign.f
  rw [if_pos (by omega), if_pos (by omega), show a % 256 = a from by omega]
  by_cases h : 52 ≤ a
  · rw [if_pos (by omega)]
    simp [h]
  · rw [if_neg (by omega)]
    simp [h]

theorem loop (a : Int) (h0 : 0 ≤ a) (h1 : a ≤ 106) (d : Nat) : ∀ (i k : Nat), 16 = i + d → d + 20 < k →
    laws_FnAssigns.l0 k a (decide (52 ≤ a ∧ a < 52 + (i : Int))) ops 16 (i : Int) = some true := by
  induction d with
  | zero =>
    intro i k hi hk
    obtain ⟨k, rfl⟩ : ∃ m, k = m + 1 := ⟨k - 1, by omega⟩
    obtain rfl : i = 16 := by omega
    simp only [laws_FnAssigns.l0]
    rw [if_neg (by omega), assigns a h0 h1]
    simp only [Option.bind_some, Option.some.injEq, beq_iff_eq, decide_eq_decide]
    omega
  | succ d ih =>
    intro i k hi hk
    obtain ⟨k, rfl⟩ : ∃ m, k = m + 1 := ⟨k - 1, by omega⟩
    have hn := ih (i + 1) k (by omega) (by omega)
    have hw : wrap64 ((i : Int) + 1) = ((i + 1 : Nat) : Int) := by rw [wrap_small _ (by omega) (by omega)]; omega
    simp only [laws_FnAssigns.l0]
    rw [if_pos (by omega), if_pos (by omega), if_pos (by rw [ops_len]; omega), hw]
    by_cases h : 52 ≤ a ∧ a < 52 + (i : Int)
    · rw [if_pos (by simpa using h)]
      rw [show decide (52 ≤ a ∧ a < 52 + ((i + 1 : Nat) : Int)) = true from by simp; omega] at hn
      exact hn
    · rw [if_neg (by simpa using h), mark i k (by omega) (by omega)]
      simp only [Option.bind_some]
      rw [show decide (52 ≤ a ∧ a < 52 + ((i + 1 : Nat) : Int)) = (52 + (i : Int) == a) from by rw [Bool.eq_iff_iff]; simp; omega] at hn
      exact hn

end As

theorem FnAssigns : laws_FnAssigns.Pure := by
  intro a _
  refine ⟨50, ?_⟩
  unfold laws_FnAssigns.f
  by_cases h0 : a < 0
  · rw [if_pos h0]
    rfl
  · rw [if_neg h0]
    by_cases h1 : a > 106
    · rw [show decide (a > 106) = true from by simpa using h1]
      rfl
    · rw [show decide (a > 106) = false from by simpa using h1]
      have h := As.loop a (by omega) (by omega) 16 0 49 (by omega) (by omega)
      rw [show decide (52 ≤ a ∧ a < 52 + ((0 : Nat) : Int)) = false from by simp] at h
      show ((spec_Assigning.f).bind fun t114 => (laws_FnAssigns.l0 49 a false t114 (t114.length : Int) 0)) = some true
      rw [As.ops_f]
      exact h

end Go.Proofs.Ytdcojgkblfobnaa.Pure
