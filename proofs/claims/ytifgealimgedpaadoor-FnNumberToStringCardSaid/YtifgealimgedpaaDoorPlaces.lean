/- Places in a text: lines and columns over its code points, as the package counts and as the reference does; two texts one behind the other. No program in sight. -/
import Derived.Test.YtifgealimgedpaaDoorRunes
namespace Go.Proofs.YtifgealimgedpaaDoor.Runes
set_option linter.unusedVariables false
/-- What ends lines. -/
def lineEnd (r : Nat) : Bool := decide (r = 10) || decide (r = 13) || decide (r = 8232) || decide (r = 8233)
theorem wf_dec {s : ByteArray} {i : Nat} (h : i < s.size) (h' : 0 < (rune s i).2) : s.size - (i + (rune s i).2) < s.size - i := by omega
/-- The rest of a text is well formed. -/
def wf (s : ByteArray) (i : Nat) : Bool := if h : i < s.size then (if h' : 0 < (rune s i).2 then wf s (i + (rune s i).2) else false) else true
termination_by s.size - i
decreasing_by exact wf_dec h h'
theorem wf_end {s : ByteArray} {i : Nat} (h : ¬ i < s.size) : wf s i = true := by rw [wf, dif_neg h]
theorem wf_next {s : ByteArray} {i : Nat} (h : i < s.size) (h' : 0 < (rune s i).2) : wf s i = wf s (i + (rune s i).2) := by rw [wf, dif_pos h, dif_pos h']
theorem wf_no {s : ByteArray} {i : Nat} (h : i < s.size) (h' : (rune s i).2 = 0) : wf s i = false := by rw [wf, dif_pos h, dif_neg (by omega)]
theorem wf_pos {s : ByteArray} {i : Nat} (h : i < s.size) (h' : wf s i = true) : 0 < (rune s i).2 := by
  rcases Nat.eq_zero_or_pos (rune s i).2 with e | e
  · rw [wf_no h e] at h'
    cases h'
  · exact e
/-- A place moved on by a code point: the reference's count. -/
def stepS (s : ByteArray) (i : Nat) (x : Nat × Nat) (p : Nat × Nat) : Nat × Nat :=
  if x.1 = 13 ∧ i + x.2 < s.size ∧ byt s (i + x.2) = 10 then p else if lineEnd x.1 = true then (p.1 + 1, 0) else if 65535 < x.1 then (p.1, p.2 + 2) else (p.1, p.2 + 1)
/-- The package's count: the CR ahead of a LF has a column. -/
def stepG (s : ByteArray) (i : Nat) (x : Nat × Nat) (p : Nat × Nat) : Nat × Nat :=
  if x.1 = 13 ∧ i + x.2 < s.size ∧ byt s (i + x.2) = 10 then (p.1, p.2 + 1) else if lineEnd x.1 = true then (p.1 + 1, 0) else if 65535 < x.1 then (p.1, p.2 + 2) else (p.1, p.2 + 1)
def places (s : ByteArray) (i : Nat) (p : Nat × Nat) : Nat × Nat := if h : i < s.size ∧ 0 < (rune s i).2 then places s (i + (rune s i).2) (stepS s i (rune s i) p) else p
termination_by s.size - i
decreasing_by exact wf_dec h.1 h.2
def adv (s : ByteArray) (i : Nat) (p : Nat × Nat) : Nat × Nat := if h : i < s.size ∧ 0 < (rune s i).2 then adv s (i + (rune s i).2) (stepG s i (rune s i) p) else p
termination_by s.size - i
decreasing_by exact wf_dec h.1 h.2
theorem places_end {s : ByteArray} {i : Nat} {p : Nat × Nat} (h : ¬ i < s.size) : places s i p = p := by rw [places, dif_neg (fun k => h k.1)]
theorem adv_end {s : ByteArray} {i : Nat} {p : Nat × Nat} (h : ¬ i < s.size) : adv s i p = p := by rw [adv, dif_neg (fun k => h k.1)]
theorem places_next {s : ByteArray} {i : Nat} {p : Nat × Nat} (h : i < s.size) (h' : 0 < (rune s i).2) : places s i p = places s (i + (rune s i).2) (stepS s i (rune s i) p) := by rw [places, dif_pos ⟨h, h'⟩]
theorem adv_next {s : ByteArray} {i : Nat} {p : Nat × Nat} (h : i < s.size) (h' : 0 < (rune s i).2) : adv s i p = adv s (i + (rune s i).2) (stepG s i (rune s i) p) := by rw [adv, dif_pos ⟨h, h'⟩]
/-- The package counts as the reference does. -/
theorem adv_places (s : ByteArray) (m : Nat) : ∀ (i l c c' : Nat), s.size - i = m → wf s i = true → (c = c' ∨ (i < s.size ∧ byt s i = 10)) → adv s i (l, c) = places s i (l, c') := by
  induction m using Nat.strongRecOn with
  | _ m ih =>
    intro i l c c' hm hw hc
    by_cases h : i < s.size
    · have hp := wf_pos h hw
      have hn := wf_next h hp
      rw [adv_next h hp, places_next h hp]
      have ho := rune_pos (s := s) (i := i) (r := (rune s i).1) (n := (rune s i).2) rfl hp
      generalize hx : rune s i = x at *
      obtain ⟨r, n⟩ := x
      simp only at ho hp hn
      by_cases h1 : r = 13 ∧ i + n < s.size ∧ byt s (i + n) = 10
      · rw [stepG, stepS, if_pos h1, if_pos h1]
        exact ih (s.size - (i + n)) (by omega) _ _ _ _ rfl (by rw [← hn]; exact hw) (.inr h1.2)
      · rw [stepG, stepS, if_neg h1, if_neg h1]
        by_cases h2 : lineEnd r = true
        · rw [if_pos h2, if_pos h2]
          exact ih (s.size - (i + n)) (by omega) _ _ _ _ rfl (by rw [← hn]; exact hw) (.inl rfl)
        · have hcc : c = c' := by
            rcases hc with hc | ⟨_, hb⟩
            · exact hc
            · exfalso
              have := rune_ascii s i h (by omega)
              rw [hx, hb] at this
              injection this with e1 e2
              subst e1
              exact h2 rfl
          subst hcc
          rw [if_neg h2]
          by_cases h3 : 65535 < r
          · rw [if_pos h3]
            exact ih (s.size - (i + n)) (by omega) _ _ _ _ rfl (by rw [← hn]; exact hw) (.inl rfl)
          · rw [if_neg h3]
            exact ih (s.size - (i + n)) (by omega) _ _ _ _ rfl (by rw [← hn]; exact hw) (.inl rfl)
    · rw [adv_end h, places_end h]
      rcases hc with hc | hc
      · rw [hc]
      · exact absurd hc.1 h
/-- A place behind another one. -/
def on (a b : Nat) (p : Nat × Nat) : Nat × Nat := (a + p.1, if p.1 = 0 then b + p.2 else p.2)
theorem stepS_on (s : ByteArray) (i : Nat) (x : Nat × Nat) (a b : Nat) (p : Nat × Nat) : stepS s i x (on a b p) = on a b (stepS s i x p) := by
  unfold stepS
  split
  · rfl
  split
  · simp [on, Nat.add_assoc]
  split
  · unfold on
    by_cases h : p.1 = 0 <;> simp [h, Nat.add_assoc]
  · unfold on
    by_cases h : p.1 = 0 <;> simp [h, Nat.add_assoc]
theorem places_on (s : ByteArray) (a b m : Nat) : ∀ (i : Nat) (p : Nat × Nat), s.size - i = m → places s i (on a b p) = on a b (places s i p) := by
  induction m using Nat.strongRecOn with
  | _ m ih =>
    intro i p hm
    by_cases h : i < s.size ∧ 0 < (rune s i).2
    · rw [places_next h.1 h.2, places_next (p := p) h.1 h.2, stepS_on]
      exact ih (s.size - (i + (rune s i).2)) (by omega) _ _ rfl
    · rw [places, dif_neg h, places, dif_neg h]
/-- Bytes of two texts, one behind the other. -/
theorem byt_left (s t : ByteArray) (i : Nat) (h : i < s.size) : byt (s ++ t) i = byt s i := by
  rw [byt_eq _ _ (by rw [ByteArray.size_append]; omega), byt_eq s i h, ByteArray.getElem_append_left h]
theorem byt_out (s : ByteArray) (i : Nat) (h : s.size ≤ i) : byt s i = 0 := by
  cases s with
  | mk d =>
    show (d[i]!).toNat = 0
    rw [getElem!_neg d i (Nat.not_lt.2 h)]
    rfl
theorem byt_right (s t : ByteArray) (i : Nat) : byt (s ++ t) (s.size + i) = byt t i := by
  by_cases h : i < t.size
  · rw [byt_eq _ _ (by rw [ByteArray.size_append]; omega), byt_eq t i h, ByteArray.getElem_append_right (by omega)]
    congr 2
    omega
  · rw [byt_out _ _ (by rw [ByteArray.size_append]; omega), byt_out _ _ (by omega)]
theorem rune_right (s t : ByteArray) (i : Nat) : rune (s ++ t) (s.size + i) = rune t i := by
  have e : Utf8.decode (s ++ t) (s.size + i) = Utf8.decode t i := by
    rw [decode_eq, decode_eq]
    simp only [Nat.add_assoc, byt_right, ByteArray.size_append, Nat.add_lt_add_iff_left]
  unfold rune
  rw [e]
  simp only [ByteArray.size_append, Nat.add_lt_add_iff_left]
theorem rune_left (s t : ByteArray) (i : Nat) (h : 0 < (rune s i).2) : rune (s ++ t) i = rune s i := by
  have ho := rune_pos (s := s) (i := i) (r := (rune s i).1) (n := (rune s i).2) rfl h
  have hd : Utf8.decode s i = rune s i := ho.2.1
  have hne : Utf8.decode s i ≠ (65533, 1) := by
    intro e
    rw [rune_bad s i e] at h
    exact absurd h (by simp)
  have e0 := byt_left s t i ho.1
  have e1 : i + 1 < s.size → byt (s ++ t) (i + 1) = byt s (i + 1) := byt_left s t (i + 1)
  have e2 : i + 2 < s.size → byt (s ++ t) (i + 2) = byt s (i + 2) := byt_left s t (i + 2)
  have e3 : i + 3 < s.size → byt (s ++ t) (i + 3) = byt s (i + 3) := byt_left s t (i + 3)
  have hsz : (s ++ t).size = s.size + t.size := ByteArray.size_append
  have hi := ho.1
  have e : Utf8.decode (s ++ t) i = Utf8.decode s i := by
    rw [decode_eq s i] at hne ⊢
    rw [decode_eq (s ++ t) i, e0, hsz]
    by_cases a : byt s i < 128
    · rw [if_pos a, if_pos a]
    rw [if_neg a] at hne ⊢
    rw [if_neg a]
    by_cases b : byt s i / 32 = 6 ∧ i + 1 < s.size ∧ byt s (i + 1) / 64 = 2
    · rw [e1 b.2.1, if_pos b, if_pos (by omega)]
    rw [if_neg b] at hne ⊢
    by_cases c : byt s i / 16 = 14 ∧ (i + 1 < s.size ∧ byt s (i + 1) / 64 = 2) ∧ (i + 2 < s.size ∧ byt s (i + 2) / 64 = 2)
    · rw [e1 c.2.1.1, e2 c.2.2.1, if_pos c, if_neg (by omega), if_pos (by omega)]
    rw [if_neg c] at hne ⊢
    by_cases d : byt s i / 8 = 30 ∧ (i + 1 < s.size ∧ byt s (i + 1) / 64 = 2) ∧ (i + 2 < s.size ∧ byt s (i + 2) / 64 = 2) ∧ (i + 3 < s.size ∧ byt s (i + 3) / 64 = 2)
    · rw [e1 d.2.1.1, e2 d.2.2.1.1, e3 d.2.2.2.1, if_pos d, if_neg (by omega), if_neg (by omega), if_pos (by omega)]
    · rw [if_neg d] at hne
      exact absurd rfl hne
  unfold rune
  rw [e, hsz, if_pos ⟨by omega, hne⟩, if_pos ⟨hi, hne⟩]
theorem places_right (s t : ByteArray) (m : Nat) : ∀ (i : Nat) (p : Nat × Nat), t.size - i = m → places (s ++ t) (s.size + i) p = places t i p := by
  induction m using Nat.strongRecOn with
  | _ m ih =>
    intro i p hm
    have hr := rune_right s t i
    have hsz : (s ++ t).size = s.size + t.size := ByteArray.size_append
    by_cases h : i < t.size ∧ 0 < (rune t i).2
    · rw [places_next (by omega) (by rw [hr]; exact h.2), places_next h.1 h.2, hr, Nat.add_assoc, ih (t.size - (i + (rune t i).2)) (by omega) _ _ rfl]
      congr 1
      unfold stepS
      rw [Nat.add_assoc, byt_right, hsz]
      simp only [Nat.add_lt_add_iff_left]
    · rw [places, dif_neg (by rw [hr, hsz]; omega), places, dif_neg h]
/-- CR LF is not parted. -/
def Whole (s t : ByteArray) : Prop := ¬ (0 < s.size ∧ byt s (s.size - 1) = 13 ∧ 0 < t.size ∧ byt t 0 = 10)
theorem places_left (s t : ByteArray) (hu : Whole s t) (m : Nat) : ∀ (i : Nat) (p : Nat × Nat), s.size - i = m → i ≤ s.size → wf s i = true → places (s ++ t) i p = places (s ++ t) s.size (places s i p) := by
  induction m using Nat.strongRecOn with
  | _ m ih =>
    intro i p hm hi hw
    have hsz : (s ++ t).size = s.size + t.size := ByteArray.size_append
    by_cases h : i < s.size
    · have hp := wf_pos h hw
      have hn := wf_next h hp
      have hr := rune_left s t i hp
      have ho := rune_pos (s := s) (i := i) (r := (rune s i).1) (n := (rune s i).2) rfl hp
      rw [places_next (by omega) (by rw [hr]; exact hp), places_next (s := s) h hp, hr, ih (s.size - (i + (rune s i).2)) (by omega) _ _ rfl ho.2.2.2.1 (by rw [← hn]; exact hw)]
      congr 2
      generalize rune s i = x at *
      obtain ⟨r, n⟩ := x
      unfold stepS
      simp only at ho ⊢
      by_cases hend : i + n < s.size
      · rw [byt_left s t _ hend, hsz]
        by_cases c : r = 13 ∧ i + n < s.size ∧ byt s (i + n) = 10
        · rw [if_pos c, if_pos (by omega)]
        · rw [if_neg c, if_neg (by omega)]
      · have he : i + n = s.size := by omega
        have hb : byt (s ++ t) (i + n) = byt t 0 := by
          have := byt_right s t 0
          rw [Nat.add_zero] at this
          rw [he, this]
        rw [hb, hsz, if_neg (c := r = 13 ∧ i + n < s.size ∧ byt s (i + n) = 10) (by omega), if_neg (c := r = 13 ∧ i + n < s.size + t.size ∧ byt t 0 = 10)]
        rintro ⟨h1, h2, h3⟩
        refine hu ⟨by omega, ?_, by omega, h3⟩
        have hn1 : n = 1 := ho.2.2.2.2.1.1 (by omega)
        have := ho.2.2.2.2.2.2.1 hn1
        rw [← he, hn1, Nat.add_sub_cancel, ← this, h1]
    · have : i = s.size := by omega
      subst this
      rw [places_end (s := s) h]
/-- How far a place can be. -/
theorem places_le (s : ByteArray) (m : Nat) : ∀ (i : Nat) (p : Nat × Nat), s.size - i = m → i ≤ s.size → p.1 ≤ i → p.2 ≤ 2 * i → (places s i p).1 ≤ s.size ∧ (places s i p).2 ≤ 2 * s.size := by
  induction m using Nat.strongRecOn with
  | _ m ih =>
    intro i p hm hi h1 h2
    by_cases h : i < s.size ∧ 0 < (rune s i).2
    · have ho := rune_pos (s := s) (i := i) (r := (rune s i).1) (n := (rune s i).2) rfl h.2
      rw [places_next h.1 h.2]
      generalize rune s i = x at *
      refine ih (s.size - (i + x.2)) (by omega) _ _ rfl ho.2.2.2.1 ?_ ?_
      · unfold stepS
        repeat' split
        all_goals first | omega | (simp only; omega)
      · unfold stepS
        repeat' split
        all_goals first | omega | (simp only; omega)
    · rw [places, dif_neg h]
      omega
/-- The law. -/
theorem places_append (s t : ByteArray) (hs : wf s 0 = true) (hu : Whole s t) : places (s ++ t) 0 (0, 0) = on (places s 0 (0, 0)).1 (places s 0 (0, 0)).2 (places t 0 (0, 0)) := by
  rw [places_left s t hu s.size 0 _ rfl (Nat.zero_le _) hs]
  have h1 := places_right s t t.size 0 (places s 0 (0, 0)) rfl
  rw [Nat.add_zero] at h1
  rw [h1, ← places_on t _ _ t.size 0 (0, 0) rfl]
  rfl
end Go.Proofs.YtifgealimgedpaaDoor.Runes
