/- For every two lists of code units, the package tells them to be equal just if the reference does, and a list to be equal to itself; no condition. -/
import Derived.Test.YtdcojgkblfobnaaPFnEqualsUTF16x1
namespace Go.Proofs.Ytdcojgkblfobnaa.Pure
open Go.RowKit Go.Proofs.Ytdcojgkblfobnaa.PFnEqualsUTF16 Go.Proofs.YtdcojgkblfobnaaW.PrintWords Go.Proofs.YtdcojgkblfobnaaW.PrintLast

namespace Eu

theorem wrap_next (i n : Nat) (h : i < n) (hn : n ≤ 140737488351232) : wrap64 ((i : Int) + 1) = ((i + 1 : Nat) : Int) := by
  unfold wrap64
  omega

theorem drop_step (a b : List Int) (i : Nat) (ha : i < a.length) (hb : i < b.length) :
    decide (a.drop i = b.drop i) = if rd a (i : Int) = rd b (i : Int) then decide (a.drop (i + 1) = b.drop (i + 1)) else false := by
  have h1 : rd a (i : Int) = a[i] := by simp [rd, ha]
  have h2 : rd b (i : Int) = b[i] := by simp [rd, hb]
  rw [h1, h2, List.drop_eq_getElem_cons ha, List.drop_eq_getElem_cons hb]
  by_cases e : a[i] = b[i]
  · simp only [e, List.cons.injEq, true_and, if_true]
  · simp only [e, List.cons.injEq, false_and, if_false, decide_false]

theorem eq_l0 (a b : List Int) (hl : a.length = b.length) (hn : a.length ≤ 140737488351232) (d : Nat) : ∀ (i k : Nat), a.length = i + d → d < k →
    helpers_UTF16EqualsUTF16.l0 k b a (a.length : Int) (i : Int) = some (decide (a.drop i = b.drop i)) := by
  induction d with
  | zero =>
    intro i k hi hk
    obtain ⟨k, rfl⟩ : ∃ m, k = m + 1 := ⟨k - 1, by omega⟩
    simp only [helpers_UTF16EqualsUTF16.l0]
    rw [if_neg (by omega), List.drop_of_length_le (by omega), List.drop_of_length_le (by omega)]
    rfl
  | succ d ih =>
    intro i k hi hk
    obtain ⟨k, rfl⟩ : ∃ m, k = m + 1 := ⟨k - 1, by omega⟩
    simp only [helpers_UTF16EqualsUTF16.l0]
    rw [if_pos (by omega), if_pos (by omega), if_pos (by omega), if_pos (by omega), wrap_next i a.length (by omega) hn, ih (i + 1) k (by omega) (by omega), drop_step a b i (by omega) (by omega)]
    split <;> rfl

theorem eq_f (a b : List Int) (hn : a.length ≤ 140737488351232) (k : Nat) (hk : a.length < k) : helpers_UTF16EqualsUTF16.f k a b = some (decide (a = b)) := by
  unfold helpers_UTF16EqualsUTF16.f
  by_cases e : a.length = b.length
  · rw [if_pos (by omega)]
    simpa using eq_l0 a b e hn a.length 0 k (by omega) hk
  · rw [if_neg (by omega)]
    have : a ≠ b := fun h => e (by rw [h])
    simp [this]

theorem wtf_l0 (a b : List Int) (hl : a.length = b.length) (hn : a.length ≤ 140737488351232) (d : Nat) : ∀ (i k : Nat), a.length = i + d → d < k →
    spec_WtfEqual.l0 k a b (i : Int) = some (decide (a.drop i = b.drop i)) := by
  induction d with
  | zero =>
    intro i k hi hk
    obtain ⟨k, rfl⟩ : ∃ m, k = m + 1 := ⟨k - 1, by omega⟩
    simp only [spec_WtfEqual.l0]
    rw [if_neg (by omega), List.drop_of_length_le (by omega), List.drop_of_length_le (by omega)]
    rfl
  | succ d ih =>
    intro i k hi hk
    obtain ⟨k, rfl⟩ : ∃ m, k = m + 1 := ⟨k - 1, by omega⟩
    simp only [spec_WtfEqual.l0]
    rw [if_pos (by omega), if_pos (by omega), if_pos (by omega), wrap_next i a.length (by omega) hn, ih (i + 1) k (by omega) (by omega), drop_step a b i (by omega) (by omega)]
    split <;> rfl

theorem wtf_f (a b : List Int) (hn : a.length ≤ 140737488351232) (k : Nat) (hk : a.length < k) : spec_WtfEqual.f k a b = some (decide (a = b)) := by
  unfold spec_WtfEqual.f
  by_cases e : a.length = b.length
  · rw [if_pos (by omega)]
    simpa using wtf_l0 a b e hn a.length 0 k (by omega) hk
  · rw [if_neg (by omega)]
    have : a ≠ b := fun h => e (by rw [h])
    simp [this]

theorem impl_f (a b : List Int) (hn : a.length ≤ 140737488351232) (k : Nat) (hk : a.length < k) : impl_EqualsUTF16.f k a b = some (decide (a = b)) := by
  unfold impl_EqualsUTF16.f
  rw [eq_f a b hn k hk]
  rfl

end Eu

theorem FnEqualsUTF16 : laws_FnEqualsUTF16.Pure := by
  intro a b _ ha _ _ _ _
  refine ⟨a.length + 2, ?_⟩
  have hj : ∀ x, laws_FnEqualsUTF16.j0 (a.length + 2) a b x = some true := by
    intro x
    show (if x = true then some true else _) = some true
    by_cases hx : x = true
    · rw [if_pos hx]
    · rw [if_neg hx, Eu.impl_f a b (by omega) _ (by omega), Eu.wtf_f a b (by omega) _ (by omega), Eu.impl_f a a (by omega) _ (by omega)]
      simp
  unfold laws_FnEqualsUTF16.f
  rw [hj, hj]
  split <;> rfl

end Go.Proofs.Ytdcojgkblfobnaa.Pure
