/- Code points of WTF-8: the reference's reading, its surrogates, digits of base 16. The walks. -/
import Derived.Test.YtkhnkemmkedfcaaRuneW
import Derived.Test.YtkhnkemmkedfcaaBytes
import Derived.Test.YtkhnkemmkedfcaaWtf
namespace Go.Proofs.Ytkhnkemmkedfcaa.Wtf
open Go.RowKit Go.Proofs.Ytkhnkemmkedfcaa.Aid Go.Proofs.Ytkhnkemmkedfcaa.Runes Go.Proofs.Ytkhnkemmkedfcaa.Bytes
attribute [local go_sem ↓] Go.wp_at_zero Go.wp_at_succ
set_option linter.unusedVariables false
theorem getD_nats (s : ByteArray) (k : Nat) : (nats s).getD k 0 = byt s k := by
  by_cases h : k < s.size
  · rw [List.getD, nats_get s k h, Option.getD_some]
  · rw [List.getD, List.getElem?_eq_none (by rw [nats_length]; omega), byt_out s k (by omega)]
    rfl
/-- The reference's code point, and surrogates beside. -/
theorem lrune_of_rune (s : ByteArray) (h : 0 < (rune s 0).2) : lrune (nats s) = rune s 0 := by
  have ho := rune_pos (s := s) (i := 0) (r := (rune s 0).1) (n := (rune s 0).2) rfl h
  have hd : Utf8.decode s 0 = rune s 0 := ho.2.1
  have hne : Utf8.decode s 0 ≠ (65533, 1) := by
    intro e
    rw [rune_bad s 0 e] at h
    exact absurd h (by simp)
  have b0 := byt_lt s 0
  rw [← hd]
  rw [decode_eq] at hne ⊢
  unfold lrune
  simp only [getD_nats, nats_length]
  have hs : ¬ s.size = 0 := by omega
  rw [if_neg hs]
  simp only [Nat.zero_add] at hne ⊢
  by_cases a : byt s 0 < 128
  · rw [if_pos a, if_pos a]
  rw [if_neg a] at hne ⊢
  rw [if_neg a]
  by_cases b : byt s 0 / 32 = 6 ∧ 1 < s.size ∧ byt s 1 / 64 = 2
  · rw [if_pos b] at hne ⊢
    by_cases c : 128 ≤ byt s 0 % 32 * 64 + byt s 1 % 64
    · rw [if_pos c, if_pos (by omega)]
    · rw [if_neg c] at hne
      exact absurd rfl hne
  rw [if_neg b] at hne ⊢
  by_cases c : byt s 0 / 16 = 14 ∧ (1 < s.size ∧ byt s 1 / 64 = 2) ∧ (2 < s.size ∧ byt s 2 / 64 = 2)
  · rw [if_pos c] at hne ⊢
    split at hne
    · rename_i d
      rw [if_pos d, if_neg (by omega), if_pos (by omega)]
    · exact absurd rfl hne
  rw [if_neg c] at hne ⊢
  by_cases d : byt s 0 / 8 = 30 ∧ (1 < s.size ∧ byt s 1 / 64 = 2) ∧ (2 < s.size ∧ byt s 2 / 64 = 2) ∧ (3 < s.size ∧ byt s 3 / 64 = 2)
  · rw [if_pos d] at hne ⊢
    split at hne
    · rename_i e
      rw [if_pos e, if_neg (by omega), if_neg (by omega), if_pos (by omega)]
    · exact absurd rfl hne
  rw [if_neg d] at hne
  exact absurd rfl hne
/-- Three bytes that are a surrogate. -/
def Sur (s : ByteArray) : Prop := 3 ≤ s.size ∧ byt s 0 = 237 ∧ 160 ≤ byt s 1 ∧ byt s 1 ≤ 191 ∧ byt s 2 / 64 = 2
theorem lrune_sur (s : ByteArray) (h : Sur s) : lrune (nats s) = (53248 + byt s 1 % 64 * 64 + byt s 2 % 64, 3) := by
  obtain ⟨h1, h2, h3, h4, h5⟩ := h
  unfold lrune
  simp only [getD_nats, nats_length]
  rw [if_neg (by omega), if_neg (by omega), if_neg (by omega), if_pos (by omega), h2]
theorem lrune_none (s : ByteArray) (h : (rune s 0).2 = 0) (hn : ¬ Sur s) : lrune (nats s) = (0, 0) := by
  rcases Nat.eq_zero_or_pos (lrune (nats s)).2 with e | e
  · unfold lrune at e ⊢
    repeat' split at e
    all_goals first
      | rfl
      | (simp only at e; omega)
      | skip
    all_goals (repeat' split)
    all_goals first | rfl | omega
  · exfalso
    have hd : rune s 0 = (0, 0) := by
      unfold rune at h ⊢
      split
      · rename_i hc
        rw [if_pos hc] at h
        rcases decode_of s 0 hc.1 with ⟨h1, h2⟩ | ⟨h1, h2⟩
        · rw [h2] at h
          omega
        · exact absurd h2 hc.2
      · rfl
    have b1 := byt_lt s 1
    unfold lrune at e
    simp only [getD_nats, nats_length] at e
    split at e
    · simp at e
    rename_i c0
    split at e
    · rename_i c1
      rw [rune_ascii s 0 (by omega) c1] at hd
      injection hd with _ hd
      omega
    rename_i c1
    split at e
    · rename_i c2
      rw [rune_two s 0 (by omega) c2.1.1 c2.1.2 c2.2.2] at hd
      injection hd with _ hd
      omega
    rename_i c2
    split at e
    · rename_i c3
      by_cases hs : byt s 0 % 16 * 4096 + byt s 1 % 64 * 64 + byt s 2 % 64 < 55296 ∨ 57344 ≤ byt s 0 % 16 * 4096 + byt s 1 % 64 * 64 + byt s 2 % 64
      · rw [rune_three s 0 (by omega) c3.1.1 c3.1.2 c3.2.2.1 c3.2.2.2.1 c3.2.2.2.2 hs] at hd
        injection hd with _ hd
        omega
      · exact hn ⟨by omega, by omega, by omega, by omega, c3.2.2.2.1⟩
    rename_i c3
    split at e
    · rename_i c4
      rw [rune_four s 0 (by omega) c4.1.1 c4.1.2 c4.2.2.1 c4.2.2.2.1 c4.2.2.2.2.1 c4.2.2.2.2.2.1 c4.2.2.2.2.2.2] at hd
      injection hd with _ hd
      omega
    · simp at e
end Go.Proofs.Ytkhnkemmkedfcaa.Wtf
