/- String literals of JavaScript as lists of bytes, what they mean, and closing tags escaped in them. No program in sight. -/
import Derived.Test.YtkhnkemmkedfcaaWtf
namespace Go.Proofs.Ytkhnkemmkedfcaa.Esc
open Go.Proofs.Ytkhnkemmkedfcaa.Wtf
set_option linter.unusedVariables false
/-- The code point that begins a list of bytes, by UTF-8. -/
def ur (l : List Nat) : Nat × Nat := if (lrune l).2 = 3 ∧ 55296 ≤ (lrune l).1 ∧ (lrune l).1 ≤ 57343 then (0, 0) else lrune l
theorem cons_of {l : List Nat} (h : 0 < l.length) : ∃ b t, l = b :: t := by
  cases l with
  | nil => simp at h
  | cons b t => exact ⟨b, t, rfl⟩
theorem ur_of {l : List Nat} {r n : Nat} (h : ur l = (r, n)) (hn : 0 < n) : lrune l = (r, n) ∧ ¬ (n = 3 ∧ 55296 ≤ r ∧ r ≤ 57343) := by
  unfold ur at h
  split at h
  · injection h with _ h2
    omega
  · rename_i hc
    rw [h] at hc
    exact ⟨h, hc⟩
theorem ur_mk {l : List Nat} {r n : Nat} (h : lrune l = (r, n)) (hs : ¬ (n = 3 ∧ 55296 ≤ r ∧ r ≤ 57343)) : ur l = (r, n) := by
  rw [ur, h, if_neg hs]
theorem ur_one (b : Nat) (t : List Nat) (h : b < 128) : ur (b :: t) = (b, 1) := by
  have : lrune (b :: t) = (b, 1) := by
    unfold lrune
    simp [h]
  exact ur_mk this (by omega)
theorem ur_prefix {l m : List Nat} {r n : Nat} (h : ur l = (r, n)) (hn : 0 < n) (hm : l.take n = m.take n) (hl : n ≤ m.length) : ur m = (r, n) := by
  obtain ⟨h1, h2⟩ := ur_of h hn
  exact ur_mk (lrune_prefix h1 hn hm hl) h2
theorem ur_take {l : List Nat} {r n : Nat} (h : ur l = (r, n)) (hn : 0 < n) (m : List Nat) : ur (l.take n ++ m) = (r, n) := by
  obtain ⟨h1, h2⟩ := ur_of h hn
  exact ur_mk (lrune_take h1 hn) h2
/-- A code point's bytes: one below 128, or none below. -/
theorem ur_bytes {l : List Nat} {r n : Nat} (h : ur l = (r, n)) (hn : 0 < n) : (n = 1 ∧ r < 128 ∧ l.getD 0 0 = r) ∨ (2 ≤ n ∧ 128 ≤ r ∧ ∀ b ∈ l.take n, 128 ≤ b) := by
  obtain ⟨h1, _⟩ := ur_of h hn
  have hp := lrune_pos h1 hn
  have hg : ∀ (k : Nat) (b : Nat), b ∈ l.take k → ∃ j, j < k ∧ j < l.length ∧ l.getD j 0 = b := by
    intro k b hb
    obtain ⟨j, hj, he⟩ := List.getElem_of_mem hb
    rw [List.length_take] at hj
    rw [List.getElem_take] at he
    exact ⟨j, by omega, by omega, by rw [List.getD, List.getElem?_eq_getElem (by omega)]; exact he⟩
  unfold lrune at h1
  repeat' split at h1
  · injection h1 with _ hb; omega
  · injection h1 with ha hb
    exact .inl ⟨by omega, by omega, by omega⟩
  · injection h1 with ha hb
    subst hb
    refine .inr ⟨by omega, by omega, fun b hb => ?_⟩
    obtain ⟨j, hj, _, he⟩ := hg 2 b hb
    rcases (by omega : j = 0 ∨ j = 1) with rfl | rfl <;> omega
  · injection h1 with ha hb
    subst hb
    refine .inr ⟨by omega, by omega, fun b hb => ?_⟩
    obtain ⟨j, hj, _, he⟩ := hg 3 b hb
    rcases (by omega : j = 0 ∨ j = 1 ∨ j = 2) with rfl | rfl | rfl <;> omega
  · injection h1 with ha hb
    subst hb
    refine .inr ⟨by omega, by omega, fun b hb => ?_⟩
    obtain ⟨j, hj, _, he⟩ := hg 4 b hb
    rcases (by omega : j = 0 ∨ j = 1 ∨ j = 2 ∨ j = 3) with rfl | rfl | rfl | rfl <;> omega
  · injection h1 with _ hb; omega
theorem head_of {b r n : Nat} {t : List Nat} (h : ur (b :: t) = (r, n)) (hn : 0 < n) (hr : r < 128) : b = r := by
  rcases ur_bytes h hn with ⟨_, _, e⟩ | ⟨_, e, _⟩
  · exact e
  · omega
theorem ur_le {l : List Nat} {r n : Nat} (h : ur l = (r, n)) (hn : 0 < n) : n ≤ l.length ∧ n ≤ 4 ∧ r ≤ 1114111 ∧ (n = 4 ↔ 65536 ≤ r) := by
  have hp := lrune_pos (ur_of h hn).1 hn
  exact ⟨hp.2.1, hp.1, hp.2.2.2.1, hp.2.2.2.2.2.1⟩
/-- So many digits of base 16. -/
def hexN : Nat → List Nat → Nat → Option Nat
  | 0, _, acc => some acc
  | k + 1, l, acc => match hexv (l.getD 0 0) with
    | some v => hexN k (l.drop 1) (16 * acc + v)
    | none => none
/-- What stands between braces. -/
def brace : List Nat → Nat → Nat → Option (Nat × Nat)
  | [], _, _ => none
  | b :: t, out, d => match hexv b with
    | some v => brace t (min (16 * out + v) 1114112) (d + 1)
    | none => if b = 125 ∧ 0 < d ∧ out ≤ 1114111 then some (out, d + 2) else none
/-- What stands behind \u: the code point, and how many bytes it has. -/
def point (l : List Nat) : Option (Nat × Nat) := if l.getD 0 0 = 123 then brace (l.drop 1) 0 0 else (hexN 4 l 0).map fun v => (v, 4)
/-- What stands behind \: code units, and how many bytes it has (no octal escape, \8 or \9). -/
def je (l : List Nat) : Option (List Nat × Nat) :=
  if (ur l).2 = 0 then none
  else if (ur l).1 = 98 then some ([8], 1) else if (ur l).1 = 116 then some ([9], 1) else if (ur l).1 = 110 then some ([10], 1) else if (ur l).1 = 118 then some ([11], 1) else if (ur l).1 = 102 then some ([12], 1) else if (ur l).1 = 114 then some ([13], 1)
  else if (ur l).1 = 120 then (hexN 2 (l.drop 1) 0).map fun v => ([v], 3)
  else if (ur l).1 = 117 then (point (l.drop 1)).map fun p => (enc16 p.1, 1 + p.2)
  else if (ur l).1 = 13 then (if l.getD 1 0 = 10 then some ([], 2) else some ([], 1))
  else if (ur l).1 = 10 ∨ (ur l).1 = 8232 ∨ (ur l).1 = 8233 then some ([], (ur l).2)
  else if ¬ (48 ≤ (ur l).1 ∧ (ur l).1 ≤ 57) then some (enc16 (ur l).1, (ur l).2)
  else if (ur l).1 = 48 ∧ ¬ (48 ≤ l.getD 1 0 ∧ l.getD 1 0 ≤ 57) then some ([0], 1)
  else none
/-- The code units of what stands behind the quote, up to the quote at the end. -/
def js (l : List Nat) : Option (List Nat) :=
  if h0 : l = [] then none
  else if l.getD 0 0 = 34 then (if l.length = 1 then some [] else none)
  else if (ur l).2 = 0 ∨ (ur l).1 = 10 ∨ (ur l).1 = 13 then none
  else if (ur l).1 ≠ 92 then (js (l.drop (max 1 (ur l).2))).map (enc16 (ur l).1 ++ ·)
  else match je (l.drop 1) with
    | some p => (js (l.drop (1 + p.2))).map (p.1 ++ ·)
    | none => none
termination_by l.length
decreasing_by
  all_goals
    have hne : 0 < l.length := List.length_pos_iff.2 h0
    rw [List.length_drop]
    omega
theorem js_end : js [34] = some [] := by rw [js, dif_neg (by simp)]; rfl
theorem js_quote {l : List Nat} (h0 : l ≠ []) (h : l.getD 0 0 = 34) : js l = if l.length = 1 then some [] else none := by rw [js, dif_neg h0, if_pos h]
theorem js_bad {l : List Nat} (h0 : l ≠ []) (h : l.getD 0 0 ≠ 34) (hb : (ur l).2 = 0 ∨ (ur l).1 = 10 ∨ (ur l).1 = 13) : js l = none := by rw [js, dif_neg h0, if_neg h, if_pos hb]
theorem js_raw {l : List Nat} {r n : Nat} (hu : ur l = (r, n)) (hn : 0 < n) (h : r ≠ 34) (h10 : r ≠ 10) (h13 : r ≠ 13) (h92 : r ≠ 92) : js l = (js (l.drop n)).map (enc16 r ++ ·) := by
  have h0 : l ≠ [] := by
    rintro rfl
    have := (ur_le hu hn).1
    simp at this
    omega
  have hq : l.getD 0 0 ≠ 34 := by
    rcases ur_bytes hu hn with ⟨_, _, h1⟩ | ⟨h1, _, h2⟩
    · omega
    · have hl := (ur_le hu hn).1
      match l, h0 with
      | b :: t, _ =>
        have := h2 b (by rw [show n = (n - 1) + 1 by omega, List.take_succ_cons]; exact List.mem_cons_self)
        simp only [List.getD_cons_zero]
        omega
  rw [js, dif_neg h0, if_neg hq, hu, if_neg (by simp only; omega), if_pos h92]
  simp only
  rw [show max 1 n = n by omega]
theorem js_esc {l : List Nat} {us : List Nat} {k : Nat} (hj : je l = some (us, k)) : js (92 :: l) = (js (l.drop k)).map (us ++ ·) := by
  rw [js, dif_neg (by simp), if_neg (by simp), ur_one 92 l (by omega), if_neg (by simp), if_neg (by simp), List.drop_one, List.tail_cons, hj]
  simp only
  rw [show 1 + k = k + 1 by omega, List.drop_succ_cons]
theorem js_esc_none {l : List Nat} (hj : je l = none) : js (92 :: l) = none := by
  rw [js, dif_neg (by simp), if_neg (by simp), ur_one 92 l (by omega), if_neg (by simp), if_neg (by simp), List.drop_one, List.tail_cons, hj]
/-- How much of it there is, and that its units are such. -/
theorem hexN_lt (k : Nat) : ∀ (l : List Nat) (acc v : Nat), hexN k l acc = some v → v < 16 ^ k * (acc + 1) := by
  induction k with
  | zero => intro l acc v h; injection h with h; omega
  | succ k ih =>
    intro l acc v h
    rw [hexN] at h
    split at h
    · rename_i x hx
      have h1 := hexv_lt hx
      have h2 := ih _ _ _ h
      have h3 : 16 ^ k * (16 * acc + x + 1) ≤ 16 ^ k * (16 * (acc + 1)) := Nat.mul_le_mul_left _ (by omega)
      rw [Nat.pow_succ, Nat.mul_assoc]
      omega
    · cases h
/-- The digits that are read lie in the text, and are none of <. -/
theorem hexN_keep (k : Nat) : ∀ (l : List Nat) (acc v : Nat), hexN k l acc = some v → k ≤ l.length ∧ (∀ b ∈ l.take k, b ≠ 60) ∧ ∀ x, hexN k (l.take k ++ x) acc = some v := by
  induction k with
  | zero => intro l acc v h; exact ⟨Nat.zero_le _, by simp, fun x => h⟩
  | succ k ih =>
    intro l acc v h
    match l with
    | [] =>
      rw [hexN] at h
      simp [hexv] at h
    | b :: t =>
      rw [hexN] at h
      simp only [List.getD_cons_zero, List.drop_one, List.tail_cons] at h
      split at h
      · rename_i x hx
        obtain ⟨h1, h2, h3⟩ := ih _ _ _ h
        refine ⟨by simp; omega, ?_, ?_⟩
        · intro c hc
          rw [List.take_succ_cons] at hc
          rcases List.mem_cons.1 hc with rfl | hc
          · rintro rfl; simp [hexv] at hx
          · exact h2 c hc
        · intro y
          rw [List.take_succ_cons, List.cons_append, hexN]
          simp only [List.getD_cons_zero, List.drop_one, List.tail_cons, hx]
          exact h3 y
      · cases h
theorem brace_keep : ∀ (l : List Nat) (out d p n : Nat), brace l out d = some (p, n) → d + 2 ≤ n ∧ n - d - 1 ≤ l.length ∧ p ≤ 1114111 ∧ (∀ b ∈ l.take (n - d - 1), b ≠ 60) ∧ ∀ x, brace (l.take (n - d - 1) ++ x) out d = some (p, n) := by
  intro l
  induction l with
  | nil => intro out d p n h; cases h
  | cons b t ih =>
    intro out d p n h
    rw [brace] at h
    split at h
    · rename_i v hv
      obtain ⟨h1, h2, h3, h4, h5⟩ := ih _ _ _ _ h
      have e : n - d - 1 = (n - (d + 1) - 1) + 1 := by omega
      refine ⟨by omega, by simp; omega, h3, ?_, ?_⟩
      · intro c hc
        rw [e, List.take_succ_cons] at hc
        rcases List.mem_cons.1 hc with rfl | hc
        · rintro rfl; simp [hexv] at hv
        · exact h4 c hc
      · intro x
        rw [e, List.take_succ_cons, List.cons_append, brace, hv]
        exact h5 x
    · rename_i hv
      split at h
      · rename_i hc
        injection h with h
        injection h with ha hb
        subst ha hb
        have e : d + 2 - d - 1 = 1 := by omega
        rw [e]
        refine ⟨by omega, by simp, hc.2.2, ?_, ?_⟩
        · intro c hcm
          simp at hcm
          omega
        · intro x
          rw [List.take_succ_cons, List.take_zero, List.cons_append, brace, hv]
          simp only
          rw [if_pos hc]
      · cases h
theorem point_keep {l : List Nat} {p n : Nat} (h : point l = some (p, n)) : 0 < n ∧ n ≤ l.length ∧ p ≤ 1114111 ∧ (∀ b ∈ l.take n, b ≠ 60) ∧ (∀ x, point (l.take n ++ x) = some (p, n)) ∧ (65536 ≤ p → 2 ≤ n) := by
  unfold point at h
  split at h
  · rename_i h0
    match l with
    | [] => simp at h0
    | b :: t =>
      simp only [List.getD_cons_zero] at h0
      simp only [List.drop_one, List.tail_cons] at h
      obtain ⟨h1, h2, h3, h4, h5⟩ := brace_keep _ _ _ _ _ h
      have e : n = (n - 0 - 1) + 1 := by omega
      refine ⟨by omega, by simp; omega, h3, ?_, ?_, fun _ => h1⟩
      · intro c hc
        rw [e, List.take_succ_cons] at hc
        rcases List.mem_cons.1 hc with rfl | hc
        · omega
        · exact h4 c hc
      · intro x
        have : (b :: t).take n = b :: t.take (n - 0 - 1) := by rw [e, List.take_succ_cons]; rfl
        rw [this, List.cons_append, point, if_pos (by simpa using h0)]
        simp only [List.drop_one, List.tail_cons]
        exact h5 x
  · rename_i h0
    obtain ⟨v, hv, he⟩ := Option.map_eq_some_iff.1 h
    injection he with ha hb
    subst ha hb
    obtain ⟨h1, h2, h3⟩ := hexN_keep _ _ _ _ hv
    have h4 := hexN_lt _ _ _ _ hv
    refine ⟨by omega, h1, by omega, h2, ?_, fun _ => by omega⟩
    intro x
    have hg : (l.take 4 ++ x).getD 0 0 = l.getD 0 0 := by
      match l, h1 with
      | b :: t, _ => simp
    rw [point, hg, if_neg h0, h3 x]
    rfl
theorem enc_lt (r : Nat) (h : r ≤ 1114111) : ∀ u ∈ enc16 r, u < 65536 := by
  intro u hu
  unfold enc16 at hu
  split at hu
  · simp only [List.mem_cons, List.not_mem_nil, or_false] at hu
    omega
  · simp only [List.mem_cons, List.not_mem_nil, or_false] at hu
    omega
theorem enc_len (r : Nat) : (enc16 r).length ≤ 2 ∧ (r < 65536 → (enc16 r).length = 1) := by
  unfold enc16
  split
  · exact ⟨by simp, fun h => by omega⟩
  · exact ⟨by simp, fun _ => rfl⟩
/-- What an escape is, and what it is where something else stands behind it. -/
theorem je_keep {l : List Nat} {us : List Nat} {k : Nat} (h : je l = some (us, k)) : 0 < k ∧ k ≤ l.length ∧ us.length ≤ k ∧ (∀ u ∈ us, u < 65536) ∧ (l.getD 0 0 ≠ 60 → (∀ b ∈ l.take k, b ≠ 60) ∧ ∀ x, x.getD 0 0 = (l.drop k).getD 0 0 → je (l.take k ++ x) = some (us, k)) := by
  obtain ⟨r, n, hu⟩ : ∃ r n, ur l = (r, n) := ⟨_, _, rfl⟩
  have hne : 0 < n := by
    rcases Nat.eq_zero_or_pos n with h0 | h0
    · rw [je, hu, if_pos h0] at h
      cases h
    · exact h0
  have hb := ur_bytes hu hne
  have hl := ur_le hu hne
  -- one byte and nothing behind it is read
  have one : ∀ (us : List Nat), n = 1 → us.length ≤ 1 → (∀ u ∈ us, u < 65536) → (∀ m, ur m = (r, n) → je m = some (us, 1)) → 0 < 1 ∧ 1 ≤ l.length ∧ us.length ≤ 1 ∧ (∀ u ∈ us, u < 65536) ∧ (l.getD 0 0 ≠ 60 → (∀ b ∈ l.take 1, b ≠ 60) ∧ ∀ x, x.getD 0 0 = (l.drop 1).getD 0 0 → je (l.take 1 ++ x) = some (us, 1)) := by
    intro us h1 h2 h3 h4
    subst h1
    refine ⟨by omega, by omega, h2, h3, fun h60 => ⟨?_, fun x _ => h4 _ (ur_take hu (by omega) x)⟩⟩
    match l with
    | [] => simp
    | b :: t => intro c hc; simp at hc h60; omega
  unfold je at h
  rw [hu] at h
  simp only at h
  rw [if_neg (by omega)] at h
  have small : ∀ (c : Nat) (us : List Nat), c < 128 → r = c → us.length ≤ 1 → (∀ u ∈ us, u < 65536) → (∀ m, ur m = (r, n) → je m = some (us, 1)) → some (us, 1) = some (us, k) → 0 < k ∧ k ≤ l.length ∧ us.length ≤ k ∧ (∀ u ∈ us, u < 65536) ∧ (l.getD 0 0 ≠ 60 → (∀ b ∈ l.take k, b ≠ 60) ∧ ∀ x, x.getD 0 0 = (l.drop k).getD 0 0 → je (l.take k ++ x) = some (us, k)) := by
    intro c us hc hrc h2 h3 h4 h5
    injection h5 with h5
    injection h5 with _ h5
    subst h5
    exact one us (by omega) h2 h3 h4
  by_cases c1 : r = 98
  · rw [if_pos c1] at h
    have : us = [8] := by injection h with h; injection h with h _; exact h.symm
    subst this
    exact small 98 [8] (by omega) c1 (by simp) (by simp) (fun m hm => by unfold je; rw [hm]; simp only; rw [if_neg (by omega), if_pos c1]) h
  rw [if_neg c1] at h
  by_cases c2 : r = 116
  · rw [if_pos c2] at h
    have : us = [9] := by injection h with h; injection h with h _; exact h.symm
    subst this
    exact small 116 [9] (by omega) c2 (by simp) (by simp) (fun m hm => by unfold je; rw [hm]; simp only; rw [if_neg (by omega), if_neg c1, if_pos c2]) h
  rw [if_neg c2] at h
  by_cases c3 : r = 110
  · rw [if_pos c3] at h
    have : us = [10] := by injection h with h; injection h with h _; exact h.symm
    subst this
    exact small 110 [10] (by omega) c3 (by simp) (by simp) (fun m hm => by unfold je; rw [hm]; simp only; rw [if_neg (by omega), if_neg c1, if_neg c2, if_pos c3]) h
  rw [if_neg c3] at h
  by_cases c4 : r = 118
  · rw [if_pos c4] at h
    have : us = [11] := by injection h with h; injection h with h _; exact h.symm
    subst this
    exact small 118 [11] (by omega) c4 (by simp) (by simp) (fun m hm => by unfold je; rw [hm]; simp only; rw [if_neg (by omega), if_neg c1, if_neg c2, if_neg c3, if_pos c4]) h
  rw [if_neg c4] at h
  by_cases c5 : r = 102
  · rw [if_pos c5] at h
    have : us = [12] := by injection h with h; injection h with h _; exact h.symm
    subst this
    exact small 102 [12] (by omega) c5 (by simp) (by simp) (fun m hm => by unfold je; rw [hm]; simp only; rw [if_neg (by omega), if_neg c1, if_neg c2, if_neg c3, if_neg c4, if_pos c5]) h
  rw [if_neg c5] at h
  by_cases c6 : r = 114
  · rw [if_pos c6] at h
    have : us = [13] := by injection h with h; injection h with h _; exact h.symm
    subst this
    exact small 114 [13] (by omega) c6 (by simp) (by simp) (fun m hm => by unfold je; rw [hm]; simp only; rw [if_neg (by omega), if_neg c1, if_neg c2, if_neg c3, if_neg c4, if_neg c5, if_pos c6]) h
  rw [if_neg c6] at h
  by_cases c7 : r = 120
  · rw [if_pos c7] at h
    obtain ⟨v, hv, he⟩ := Option.map_eq_some_iff.1 h
    injection he with ha hk
    subst ha hk
    obtain ⟨b, t, rfl⟩ := cons_of (l := l) (by omega)
    · simp only [List.drop_one, List.tail_cons] at hv
      obtain ⟨h1, h2, h3⟩ := hexN_keep _ _ _ _ hv
      have h4 := hexN_lt _ _ _ _ hv
      have hbr : b = 120 := (head_of hu hne (by omega)).trans c7
      subst hbr
      refine ⟨by omega, by simp; omega, by simp, by simp; omega, fun _ => ⟨?_, fun x _ => ?_⟩⟩
      · intro c hc
        rw [List.take_succ_cons] at hc
        rcases List.mem_cons.1 hc with rfl | hc
        · omega
        · exact h2 c hc
      · rw [List.take_succ_cons, List.cons_append]
        unfold je
        rw [ur_one 120 _ (by omega)]
        simp only [List.drop_one, List.tail_cons]
        rw [h3 x]
        rfl
  rw [if_neg c7] at h
  by_cases c8 : r = 117
  · rw [if_pos c8] at h
    obtain ⟨⟨p, m⟩, hv, he⟩ := Option.map_eq_some_iff.1 h
    injection he with ha hk
    simp only at ha hk
    subst ha hk
    obtain ⟨b, t, rfl⟩ := cons_of (l := l) (by omega)
    · simp only [List.drop_one, List.tail_cons] at hv
      obtain ⟨h0, h1, h2, h3, h4, h5⟩ := point_keep hv
      have hbr : b = 117 := (head_of hu hne (by omega)).trans c8
      subst hbr
      have hel := enc_len p
      refine ⟨by omega, by simp; omega, by omega, enc_lt p h2, fun _ => ⟨?_, fun x _ => ?_⟩⟩
      · intro c hc
        rw [show 1 + m = m + 1 by omega, List.take_succ_cons] at hc
        rcases List.mem_cons.1 hc with rfl | hc
        · omega
        · exact h3 c hc
      · rw [show 1 + m = m + 1 by omega, List.take_succ_cons, List.cons_append]
        unfold je
        rw [ur_one 117 _ (by omega)]
        simp only [List.drop_one, List.tail_cons]
        rw [h4 x]
        simp
        omega
  rw [if_neg c8] at h
  by_cases c9 : r = 13
  · rw [if_pos c9] at h
    obtain ⟨b, t, rfl⟩ := cons_of (l := l) (by omega)
    · have hbr : b = 13 := (head_of hu hne (by omega)).trans c9
      subst hbr
      simp only [List.getD_cons_succ] at h
      by_cases d : t.getD 0 0 = 10
      · rw [if_pos d] at h
        injection h with h
        injection h with ha hk
        subst ha hk
        have hc : ∃ t', t = 10 :: t' := by
          cases t with
          | nil => simp at d
          | cons c t => simp only [List.getD_cons_zero] at d; exact ⟨t, by rw [d]⟩
        obtain ⟨t, rfl⟩ := hc
        · skip
          refine ⟨by omega, by simp, by simp, by simp, fun _ => ⟨by simp, fun x _ => ?_⟩⟩
          show je (13 :: 10 :: x) = _
          unfold je
          rw [ur_one 13 _ (by omega)]
          rfl
      · rw [if_neg d] at h
        injection h with h
        injection h with ha hk
        subst ha hk
        refine ⟨by omega, by simp, by simp, by simp, fun _ => ⟨by simp, fun x hx => ?_⟩⟩
        simp only [List.drop_succ_cons, List.drop_zero] at hx
        show je (13 :: x) = _
        unfold je
        rw [ur_one 13 _ (by omega)]
        simp only [List.getD_cons_succ]
        rw [hx, if_neg d]
        rfl
  rw [if_neg c9] at h
  have wide : ∀ (us' : List Nat), us' = us → n = k → us.length ≤ n → (∀ u ∈ us, u < 65536) → (∀ m, ur m = (r, n) → je m = some (us, n)) → 0 < k ∧ k ≤ l.length ∧ us.length ≤ k ∧ (∀ u ∈ us, u < 65536) ∧ (l.getD 0 0 ≠ 60 → (∀ b ∈ l.take k, b ≠ 60) ∧ ∀ x, x.getD 0 0 = (l.drop k).getD 0 0 → je (l.take k ++ x) = some (us, k)) := by
    intro us' _ hk h2 h3 h4
    subst hk
    refine ⟨hne, hl.1, h2, h3, fun h60 => ⟨?_, fun x _ => h4 _ (ur_take hu hne x)⟩⟩
    rcases hb with ⟨h1, _, e⟩ | ⟨_, _, e⟩
    · subst h1
      obtain ⟨b, t, rfl⟩ := cons_of (l := l) (by omega)
      intro c hc; simp at hc h60; omega
    · intro c hc; have := e c hc; omega
  by_cases c10 : r = 10 ∨ r = 8232 ∨ r = 8233
  · rw [if_pos c10] at h
    injection h with h
    injection h with ha hk
    subst ha
    exact wide [] rfl hk (by simp) (by simp) (fun m hm => by unfold je; rw [hm]; simp only; rw [if_neg (by omega), if_neg c1, if_neg c2, if_neg c3, if_neg c4, if_neg c5, if_neg c6, if_neg c7, if_neg c8, if_neg c9, if_pos c10])
  rw [if_neg c10] at h
  by_cases c11 : ¬ (48 ≤ r ∧ r ≤ 57)
  · rw [if_pos c11] at h
    injection h with h
    injection h with ha hk
    subst ha
    have hel := enc_len r
    exact wide _ rfl hk (by omega) (enc_lt r hl.2.2.1) (fun m hm => by unfold je; rw [hm]; simp only; rw [if_neg (by omega), if_neg c1, if_neg c2, if_neg c3, if_neg c4, if_neg c5, if_neg c6, if_neg c7, if_neg c8, if_neg c9, if_neg c10, if_pos c11])
  rw [if_neg c11] at h
  split at h
  · rename_i c12
    injection h with h
    injection h with ha hk
    subst ha hk
    obtain ⟨b, t, rfl⟩ := cons_of (l := l) (by omega)
    · have hbr : b = 48 := (head_of hu hne (by omega)).trans c12.1
      subst hbr
      refine ⟨by omega, by simp, by simp, by simp, fun _ => ⟨by simp, fun x hx => ?_⟩⟩
      simp only [List.drop_succ_cons, List.drop_zero] at hx
      show je (48 :: x) = _
      unfold je
      rw [ur_one 48 _ (by omega)]
      simp only [List.getD_cons_succ]
      have hd := c12.2
      simp only [List.getD_cons_succ] at hd
      rw [hx]
      simp
      intro h1
      simp only [List.getD_eq_getElem?_getD] at hd
      omega
  · cases h
theorem js_bound (k : Nat) : ∀ (l us : List Nat), l.length = k → js l = some us → us.length ≤ l.length ∧ ∀ u ∈ us, u < 65536 := by
  induction k using Nat.strongRecOn with
  | _ k ih =>
    intro l us hk h
    by_cases h0 : l = []
    · subst h0; rw [js, dif_pos rfl] at h; cases h
    by_cases hq : l.getD 0 0 = 34
    · rw [js_quote h0 hq] at h
      split at h
      · injection h with h; subst h; simp
      · cases h
    obtain ⟨r, n, hu⟩ : ∃ r n, ur l = (r, n) := ⟨_, _, rfl⟩
    by_cases hbad : n = 0 ∨ r = 10 ∨ r = 13
    · rw [js_bad h0 hq (by rw [hu]; exact hbad)] at h; cases h
    have hn : 0 < n := by omega
    have hl := ur_le hu hn
    by_cases h92 : r = 92
    · match l, h0 with
      | b :: t, _ =>
        have hbr : b = 92 := (head_of hu hn (by omega)).trans h92
        subst hbr
        cases hj : je t with
        | none => rw [js_esc_none hj] at h; cases h
        | some p =>
          obtain ⟨vs, m⟩ := p
          rw [js_esc hj] at h
          obtain ⟨ws, hw, he⟩ := Option.map_eq_some_iff.1 h
          have hkp := je_keep hj
          have := ih _ (by rw [← hk]; simp; omega) (t.drop m) ws rfl hw
          rw [List.length_drop] at this
          subst he
          refine ⟨by simp; omega, fun u hu => ?_⟩
          rcases List.mem_append.1 hu with hu | hu
          · exact hkp.2.2.2.1 u hu
          · exact this.2 u hu
    · rw [js_raw hu hn (by intro e; subst e; rcases ur_bytes hu hn with ⟨_, _, e⟩ | ⟨_, e, _⟩ <;> omega) (by omega) (by omega) h92] at h
      obtain ⟨ws, hw, he⟩ := Option.map_eq_some_iff.1 h
      have := ih _ (by rw [← hk, List.length_drop]; omega) (l.drop n) ws rfl hw
      rw [List.length_drop] at this
      have hel := enc_len r
      subst he
      refine ⟨by simp; omega, fun u hu => ?_⟩
      rcases List.mem_append.1 hu with hu | hu
      · exact enc_lt r hl.2.2.1 u hu
      · exact this.2 u hu
/-- A text in which a \ is put between < and /, where h says so of what stands behind the <. -/
def et (h : List Nat → Bool) : List Nat → List Nat
  | [] => []
  | b :: t => if b = 60 ∧ t.getD 0 0 = 47 ∧ h t = true then 60 :: 92 :: et h t else b :: et h t
theorem et_other (h : List Nat → Bool) (b : Nat) (t : List Nat) (hb : b ≠ 60) : et h (b :: t) = b :: et h t := by rw [et, if_neg (fun c => hb c.1)]
theorem et_head (h : List Nat → Bool) (l : List Nat) : (et h l).getD 0 0 = l.getD 0 0 := by
  match l with
  | [] => rfl
  | b :: t =>
    rw [et]
    split
    · rename_i c; simp [c.1]
    · simp
theorem et_take (h : List Nat → Bool) (n : Nat) : ∀ (l : List Nat), n ≤ l.length → (∀ b ∈ l.take n, b ≠ 60) → et h l = l.take n ++ et h (l.drop n) := by
  induction n with
  | zero => intro l _ _; simp
  | succ n ih =>
    intro l hl hb
    match l with
    | [] => simp at hl
    | b :: t =>
      rw [List.take_succ_cons, List.drop_succ_cons, List.cons_append, et_other h b t (hb b (by simp)), ih t (by simpa using hl) (fun c hc => hb c (by rw [List.take_succ_cons]; exact List.mem_cons_of_mem _ hc))]
theorem et_len (h : List Nat → Bool) (l : List Nat) : l.length ≤ (et h l).length ∧ (et h l).length ≤ 2 * l.length := by
  induction l with
  | nil => simp [et]
  | cons b t ih =>
    rw [et]
    split <;> simp <;> omega
theorem et_lt (h : List Nat → Bool) (l : List Nat) (hl : ∀ b ∈ l, b < 256) : ∀ b ∈ et h l, b < 256 := by
  induction l with
  | nil => simp [et]
  | cons b t ih =>
    have h1 := ih (fun c hc => hl c (List.mem_cons_of_mem _ hc))
    have h2 := hl b List.mem_cons_self
    rw [et]
    split
    · intro c hc
      simp only [List.mem_cons] at hc
      rcases hc with rfl | rfl | hc
      · omega
      · omega
      · exact h1 c hc
    · intro c hc
      simp only [List.mem_cons] at hc
      rcases hc with rfl | hc
      · exact h2
      · exact h1 c hc
theorem je_slash (x : List Nat) : je (47 :: x) = some ([47], 1) := by
  unfold je
  rw [ur_one 47 x (by omega)]
  rfl
theorem js_slash (x : List Nat) : js (47 :: x) = (js x).map ([47] ++ ·) := by
  rw [js_raw (ur_one 47 x (by omega)) (by omega) (by omega) (by omega) (by omega) (by omega)]
  rfl
theorem js_bslash (x : List Nat) : js (92 :: 47 :: x) = (js x).map ([47] ++ ·) := by
  rw [js_esc (je_slash x)]
  rfl
/-- What stands behind a < means the same, escaped or not. -/
theorem js_lt (h : List Nat → Bool) (t : List Nat) (X : List Nat) (hX : X = (et h (60 :: t)).drop 1) : js X = js (et h t) := by
  rw [et] at hX
  split at hX
  · rename_i c
    match t with
    | [] => simp at c
    | b :: t =>
      have hb : b = 47 := by simpa using c.2.1
      subst hb
      rw [et_other h 47 t (by omega)] at hX ⊢
      subst hX
      simp only [List.drop_succ_cons, List.drop_zero]
      rw [js_bslash, js_slash]
  · subst hX
    simp
/-- An escaped text means what the text means. -/
theorem js_et (h : List Nat → Bool) (k : Nat) : ∀ (l us : List Nat), l.length = k → js l = some us → js (et h l) = some us := by
  induction k using Nat.strongRecOn with
  | _ k ih =>
    intro l us hk hj
    by_cases h0 : l = []
    · subst h0; rw [js, dif_pos rfl] at hj; cases hj
    by_cases hq : l.getD 0 0 = 34
    · rw [js_quote h0 hq] at hj
      split at hj
      · rename_i h1
        match l, h0 with
        | [b], _ =>
          have hb : b = 34 := by simpa using hq
          subst hb
          rw [et_other h 34 [] (by omega), et, js_end]
          exact hj
        | b :: c :: t, _ => simp at h1
      · cases hj
    obtain ⟨r, n, hu⟩ : ∃ r n, ur l = (r, n) := ⟨_, _, rfl⟩
    by_cases hbad : n = 0 ∨ r = 10 ∨ r = 13
    · rw [js_bad h0 hq (by rw [hu]; exact hbad)] at hj; cases hj
    have hn : 0 < n := by omega
    have hl := ur_le hu hn
    have hby := ur_bytes hu hn
    by_cases h92 : r = 92
    · match l, h0 with
      | b :: t, _ =>
        have hbr : b = 92 := (head_of hu hn (by omega)).trans h92
        subst hbr
        rw [et_other h 92 t (by omega)]
        cases hje : je t with
        | none => rw [js_esc_none hje] at hj; cases hj
        | some p =>
          obtain ⟨vs, m⟩ := p
          rw [js_esc hje] at hj
          obtain ⟨ws, hw, he⟩ := Option.map_eq_some_iff.1 hj
          have hkp := je_keep hje
          have hrec := ih _ (by rw [← hk]; simp; omega) (t.drop m) ws rfl hw
          by_cases h60 : t.getD 0 0 = 60
          · match t with
            | [] => simp at h60
            | c :: t =>
              have hc : c = 60 := by simpa using h60
              subst hc
              have h1 : je (60 :: t) = some ([60], 1) := by
                unfold je
                rw [ur_one 60 t (by omega)]
                rfl
              rw [h1] at hje
              injection hje with hje
              injection hje with e1 e2
              subst e1 e2
              obtain ⟨X, hX⟩ : ∃ X, et h (60 :: t) = 60 :: X := by
                rw [et]
                split
                · exact ⟨_, rfl⟩
                · exact ⟨_, rfl⟩
              have h2 : je (60 :: X) = some ([60], 1) := by
                unfold je
                rw [ur_one 60 X (by omega)]
                rfl
              rw [hX, js_esc h2, List.drop_succ_cons, List.drop_zero, js_lt h t X (by rw [hX]; rfl)]
              simp only [List.drop_succ_cons, List.drop_zero] at hrec
              rw [hrec]
              simpa using he
          · obtain ⟨k1, k2⟩ := hkp.2.2.2.2 h60
            rw [et_take h m t hkp.2.1 k1]
            have h2 := k2 (et h (t.drop m)) (et_head h _)
            have hlen : (t.take m).length = m := by rw [List.length_take]; omega
            rw [js_esc h2, List.drop_left' hlen, hrec]
            simpa using he
    · have h34 : r ≠ 34 := by
        intro e
        subst e
        rcases hby with ⟨_, _, e⟩ | ⟨_, e, _⟩ <;> omega
      rw [js_raw hu hn h34 (by omega) (by omega) h92] at hj
      obtain ⟨ws, hw, he⟩ := Option.map_eq_some_iff.1 hj
      have hrec := ih _ (by rw [← hk, List.length_drop]; omega) (l.drop n) ws rfl hw
      by_cases h60 : r = 60
      · match l, h0 with
        | b :: t, _ =>
          have hb : b = 60 ∧ n = 1 := ⟨(head_of hu hn (by omega)).trans h60, by omega⟩
          obtain ⟨rfl, rfl⟩ := hb
          subst h60
          obtain ⟨X, hX⟩ : ∃ X, et h (60 :: t) = 60 :: X := by
            rw [et]
            split
            · exact ⟨_, rfl⟩
            · exact ⟨_, rfl⟩
          rw [hX, js_raw (ur_one 60 X (by omega)) (by omega) (by omega) (by omega) (by omega) (by omega), List.drop_succ_cons, List.drop_zero, js_lt h t X (by rw [hX]; rfl)]
          simp only [List.drop_succ_cons, List.drop_zero] at hrec
          rw [hrec]
          simpa using he
      · have hnb : ∀ b ∈ l.take n, b ≠ 60 := by
          rcases hby with ⟨h1, _, e⟩ | ⟨_, _, e⟩
          · subst h1
            obtain ⟨b, t, rfl⟩ := cons_of (l := l) (by omega)
            intro c hc; simp at hc e; omega
          · intro c hc; have := e c hc; omega
        rw [et_take h n l hl.1 hnb]
        have hlen : (l.take n).length = n := by rw [List.length_take]; omega
        rw [js_raw (ur_take hu hn _) hn h34 (by omega) (by omega) h92, List.drop_left' hlen, hrec]
        simpa using he
end Go.Proofs.Ytkhnkemmkedfcaa.Esc
