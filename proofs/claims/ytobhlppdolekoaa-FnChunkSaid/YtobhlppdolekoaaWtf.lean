/- Texts of WTF-8, JSON strings and what they mean, as lists of bytes. No program in sight. -/
import Derived.Below
namespace Go.Proofs.Ytobhlppdolekoaa.Wtf
set_option linter.unusedVariables false
/-- The code point that begins a list of bytes, by generalized UTF-8, and how many bytes it has; 0 bytes: there is none. -/
def lrune (l : List Nat) : Nat × Nat :=
  if l.length = 0 then (0, 0)
  else if l.getD 0 0 < 128 then (l.getD 0 0, 1)
  else if (194 ≤ l.getD 0 0 ∧ l.getD 0 0 ≤ 223) ∧ 2 ≤ l.length ∧ l.getD 1 0 / 64 = 2 then (l.getD 0 0 % 32 * 64 + l.getD 1 0 % 64, 2)
  else if (224 ≤ l.getD 0 0 ∧ l.getD 0 0 ≤ 239) ∧ 3 ≤ l.length ∧ l.getD 1 0 / 64 = 2 ∧ l.getD 2 0 / 64 = 2 ∧ 2048 ≤ l.getD 0 0 % 16 * 4096 + l.getD 1 0 % 64 * 64 + l.getD 2 0 % 64 then (l.getD 0 0 % 16 * 4096 + l.getD 1 0 % 64 * 64 + l.getD 2 0 % 64, 3)
  else if (240 ≤ l.getD 0 0 ∧ l.getD 0 0 ≤ 244) ∧ 4 ≤ l.length ∧ l.getD 1 0 / 64 = 2 ∧ l.getD 2 0 / 64 = 2 ∧ l.getD 3 0 / 64 = 2 ∧ 65536 ≤ l.getD 0 0 % 8 * 262144 + l.getD 1 0 % 64 * 4096 + l.getD 2 0 % 64 * 64 + l.getD 3 0 % 64 ∧ l.getD 0 0 % 8 * 262144 + l.getD 1 0 % 64 * 4096 + l.getD 2 0 % 64 * 64 + l.getD 3 0 % 64 ≤ 1114111 then (l.getD 0 0 % 8 * 262144 + l.getD 1 0 % 64 * 4096 + l.getD 2 0 % 64 * 64 + l.getD 3 0 % 64, 4)
  else (0, 0)
theorem lrune_nil : lrune [] = (0, 0) := rfl
/-- What its reading says of a code point. -/
theorem lrune_pos {l : List Nat} {r n : Nat} (h : lrune l = (r, n)) (hn : 0 < n) : n ≤ 4 ∧ n ≤ l.length ∧ (r < 128 ↔ n = 1) ∧ r ≤ 1114111 ∧ (n = 1 → r = l.getD 0 0) ∧ (n = 4 ↔ 65536 ≤ r) ∧ (r < 2048 ↔ n ≤ 2) := by
  unfold lrune at h
  repeat' split at h
  all_goals
    injection h with ha hb
    omega
theorem lrune_lt {l : List Nat} (h : 0 < (lrune l).2) : (l.drop (lrune l).2).length < l.length := by
  have := lrune_pos (l := l) (r := (lrune l).1) (n := (lrune l).2) rfl h
  rw [List.length_drop]
  omega
/-- Only the code point's own bytes are looked at. -/
theorem lrune_prefix {l m : List Nat} {r n : Nat} (h : lrune l = (r, n)) (hn : 0 < n) (hm : l.take n = m.take n) (hl : n ≤ m.length) : lrune m = (r, n) := by
  have e : ∀ k, k < n → m.getD k 0 = l.getD k 0 := by
    intro k hk
    have h1 : (l.take n)[k]? = (m.take n)[k]? := by rw [hm]
    rw [List.getElem?_take_of_lt hk, List.getElem?_take_of_lt hk] at h1
    rw [List.getD, List.getD, h1]
  have hp := lrune_pos h hn
  unfold lrune at h ⊢
  have e0 := e 0 hn
  have hml : ¬ m.length = 0 := by omega
  rw [if_neg hml, e0]
  by_cases c1 : l.length = 0
  · rw [if_pos c1] at h; injection h with _ hb; omega
  rw [if_neg c1] at h
  by_cases c2 : l.getD 0 0 < 128
  · rw [if_pos c2] at h ⊢
    exact h
  rw [if_neg c2] at h ⊢
  by_cases c3 : (194 ≤ l.getD 0 0 ∧ l.getD 0 0 ≤ 223) ∧ 2 ≤ l.length ∧ l.getD 1 0 / 64 = 2
  · rw [if_pos c3] at h
    have hn2 : n = 2 := by injection h with _ hb; omega
    rw [e 1 (by omega), if_pos ⟨c3.1, by omega, c3.2.2⟩]
    exact h
  rw [if_neg c3] at h
  by_cases c4 : (224 ≤ l.getD 0 0 ∧ l.getD 0 0 ≤ 239) ∧ 3 ≤ l.length ∧ l.getD 1 0 / 64 = 2 ∧ l.getD 2 0 / 64 = 2 ∧ 2048 ≤ l.getD 0 0 % 16 * 4096 + l.getD 1 0 % 64 * 64 + l.getD 2 0 % 64
  · rw [if_pos c4] at h
    have hn3 : n = 3 := by injection h with _ hb; omega
    rw [e 1 (by omega), e 2 (by omega), if_neg (by omega), if_pos ⟨c4.1, by omega, c4.2.2⟩]
    exact h
  rw [if_neg c4] at h
  by_cases c5 : (240 ≤ l.getD 0 0 ∧ l.getD 0 0 ≤ 244) ∧ 4 ≤ l.length ∧ l.getD 1 0 / 64 = 2 ∧ l.getD 2 0 / 64 = 2 ∧ l.getD 3 0 / 64 = 2 ∧ 65536 ≤ l.getD 0 0 % 8 * 262144 + l.getD 1 0 % 64 * 4096 + l.getD 2 0 % 64 * 64 + l.getD 3 0 % 64 ∧ l.getD 0 0 % 8 * 262144 + l.getD 1 0 % 64 * 4096 + l.getD 2 0 % 64 * 64 + l.getD 3 0 % 64 ≤ 1114111
  · rw [if_pos c5] at h
    have hn4 : n = 4 := by injection h with _ hb; omega
    rw [e 1 (by omega), e 2 (by omega), e 3 (by omega), if_neg (by omega), if_neg (by omega), if_pos ⟨c5.1, by omega, c5.2.2⟩]
    exact h
  rw [if_neg c5] at h
  injection h with _ hb
  omega
theorem lrune_take {l m : List Nat} {r n : Nat} (h : lrune l = (r, n)) (hn : 0 < n) : lrune (l.take n ++ m) = (r, n) := by
  have hp := lrune_pos h hn
  have hlen : (l.take n).length = n := by rw [List.length_take]; omega
  refine lrune_prefix h hn ?_ (by rw [List.length_append]; omega)
  rw [List.take_left' hlen]
/-- Surrogates: the leading one of a pair, the one that ends it. -/
def lead (r : Nat) : Bool := decide (55296 ≤ r) && decide (r ≤ 56319)
def trail (r : Nat) : Bool := decide (56320 ≤ r) && decide (r ≤ 57343)
/-- A code point's code units. -/
def enc16 (r : Nat) : List Nat := if 65536 ≤ r then [55296 + (r - 65536) / 1024, 56320 + (r - 65536) % 1024] else [r]
/-- The code units of a text of WTF-8. -/
def units (last : Nat) (l : List Nat) : Option (List Nat) :=
  if l = [] then some []
  else if h : 0 < (lrune l).2 then
    if (lrune l).2 = 3 ∧ trail (lrune l).1 = true ∧ lead last = true then none
    else (units (lrune l).1 (l.drop (lrune l).2)).map (enc16 (lrune l).1 ++ ·)
  else none
termination_by l.length
decreasing_by exact lrune_lt h
theorem units_nil (last : Nat) : units last [] = some [] := by rw [units, if_pos rfl]
theorem units_none {last : Nat} {l : List Nat} (hl : l ≠ []) (h : (lrune l).2 = 0) : units last l = none := by rw [units, if_neg hl, dif_neg (by omega)]
theorem units_pair {last : Nat} {l : List Nat} (hl : l ≠ []) (h : 0 < (lrune l).2) (hp : (lrune l).2 = 3 ∧ trail (lrune l).1 = true ∧ lead last = true) : units last l = none := by rw [units, if_neg hl, dif_pos h, if_pos hp]
theorem units_next {last : Nat} {l : List Nat} (hl : l ≠ []) (h : 0 < (lrune l).2) (hp : ¬ ((lrune l).2 = 3 ∧ trail (lrune l).1 = true ∧ lead last = true)) : units last l = (units (lrune l).1 (l.drop (lrune l).2)).map (enc16 (lrune l).1 ++ ·) := by rw [units, if_neg hl, dif_pos h, if_neg hp]
/-- The value of a digit of base 16; the digit that is worth so much. -/
def hexv (n : Nat) : Option Nat := if 48 ≤ n ∧ n ≤ 57 then some (n - 48) else if 97 ≤ n ∧ n ≤ 102 then some (n - 87) else if 65 ≤ n ∧ n ≤ 70 then some (n - 55) else none
def hx (v : Nat) : Nat := if v < 10 then 48 + v else 55 + v
theorem hexv_lt {n v : Nat} (h : hexv n = some v) : v < 16 := by
  unfold hexv at h
  repeat' split at h
  all_goals first | (injection h with h; omega) | cases h
theorem hexv_hx (v : Nat) (h : v < 16) : hexv (hx v) = some v := by
  have : ∀ k : Fin 16, hexv (hx k.val) = some k.val := by decide
  exact this ⟨v, h⟩
theorem hx_bd (v : Nat) (h : v < 16) : 48 ≤ hx v ∧ hx v ≤ 70 := by unfold hx; split <;> omega
/-- A code unit as an escape. -/
def u4 (x : Nat) : List Nat := [92, 117, hx (x / 4096), hx (x / 256 % 16), hx (x / 16 % 16), hx (x % 16)]
/-- A code point that needs no escape. -/
def can (r : Nat) (ascii : Bool) : Bool := if r ≤ 126 then decide (32 ≤ r) && decide (r ≠ 92) && decide (r ≠ 34) else !ascii && decide (r ≠ 65279) && (decide (r < 55296) || decide (57343 < r))
def esc (r : Nat) : List Nat :=
  if r = 8 then [92, 98] else if r = 12 then [92, 102] else if r = 10 then [92, 110] else if r = 13 then [92, 114] else if r = 9 then [92, 116] else if r = 92 then [92, 92] else if r = 34 then [92, 34]
  else if r ≤ 65535 then u4 r else u4 (55296 + (r - 65536) / 1024) ++ u4 (56320 + (r - 65536) % 1024)
/-- A text quoted (without the quotes). -/
def quote (ascii : Bool) (l : List Nat) : List Nat :=
  if l = [] then []
  else if h : 0 < (lrune l).2 then (if can (lrune l).1 ascii = true then l.take (lrune l).2 else esc (lrune l).1) ++ quote ascii (l.drop (lrune l).2)
  else []
termination_by l.length
decreasing_by exact lrune_lt h
theorem quote_nil (ascii : Bool) : quote ascii [] = [] := by rw [quote, if_pos rfl]
theorem quote_next {ascii : Bool} {l : List Nat} (hl : l ≠ []) (h : 0 < (lrune l).2) : quote ascii l = (if can (lrune l).1 ascii = true then l.take (lrune l).2 else esc (lrune l).1) ++ quote ascii (l.drop (lrune l).2) := by
  rw [quote, if_neg hl, dif_pos h]
/-- What an escape means, behind its \. -/
def hex4 (l : List Nat) : Option Nat :=
  match hexv (l.getD 0 0), hexv (l.getD 1 0), hexv (l.getD 2 0), hexv (l.getD 3 0) with
  | some a, some b, some c, some d => if 4 ≤ l.length then some (a * 4096 + b * 256 + c * 16 + d) else none
  | _, _, _, _ => none
def jesc (l : List Nat) : Nat × Nat :=
  if l.length = 0 then (0, 0)
  else if l.getD 0 0 = 34 ∨ l.getD 0 0 = 92 ∨ l.getD 0 0 = 47 then (l.getD 0 0, 1)
  else if l.getD 0 0 = 98 then (8, 1) else if l.getD 0 0 = 102 then (12, 1) else if l.getD 0 0 = 110 then (10, 1) else if l.getD 0 0 = 114 then (13, 1) else if l.getD 0 0 = 116 then (9, 1)
  else if l.getD 0 0 = 117 then (match hex4 (l.drop 1) with | some v => (v, 5) | none => (0, 0))
  else (0, 0)
theorem jesc_le (l : List Nat) : (jesc l).2 ≤ l.length ∧ (jesc l).2 ≤ 5 := by
  unfold jesc
  repeat' split
  all_goals simp only
  all_goals first
    | omega
    | (rename_i hx4
       unfold hex4 at hx4
       split at hx4
       · split at hx4
         · rename_i h4
           rw [List.length_drop] at h4
           omega
         · cases hx4
       · cases hx4)
/-- The code units that a JSON string's inside means. -/
def parse (l : List Nat) : Option (List Nat) :=
  if h0 : l = [] then some []
  else if l.getD 0 0 = 92 then
    (if h : 0 < (jesc (l.drop 1)).2 then (parse (l.drop (1 + (jesc (l.drop 1)).2))).map ((jesc (l.drop 1)).1 :: ·) else none)
  else if h : 0 < (lrune l).2 ∧ 32 ≤ (lrune l).1 ∧ (lrune l).1 ≠ 34 then (parse (l.drop (lrune l).2)).map (enc16 (lrune l).1 ++ ·)
  else none
termination_by l.length
decreasing_by
  · have hne : 0 < l.length := List.length_pos_iff.2 h0
    rw [List.length_drop]
    omega
  · exact lrune_lt h.1
theorem parse_nil : parse [] = some [] := by rw [parse, dif_pos rfl]
theorem parse_esc {l : List Nat} (hl : l ≠ []) (h0 : l.getD 0 0 = 92) (h : 0 < (jesc (l.drop 1)).2) : parse l = (parse (l.drop (1 + (jesc (l.drop 1)).2))).map ((jesc (l.drop 1)).1 :: ·) := by
  rw [parse, dif_neg hl, if_pos h0, dif_pos h]
theorem parse_bad {l : List Nat} (hl : l ≠ []) (h0 : l.getD 0 0 = 92) (h : (jesc (l.drop 1)).2 = 0) : parse l = none := by
  rw [parse, dif_neg hl, if_pos h0, dif_neg (by omega)]
theorem parse_raw {l : List Nat} (hl : l ≠ []) (h0 : l.getD 0 0 ≠ 92) (h : 0 < (lrune l).2 ∧ 32 ≤ (lrune l).1 ∧ (lrune l).1 ≠ 34) : parse l = (parse (l.drop (lrune l).2)).map (enc16 (lrune l).1 ++ ·) := by
  rw [parse, dif_neg hl, if_neg h0, dif_pos h]
theorem parse_no {l : List Nat} (hl : l ≠ []) (h0 : l.getD 0 0 ≠ 92) (h : ¬ (0 < (lrune l).2 ∧ 32 ≤ (lrune l).1 ∧ (lrune l).1 ≠ 34)) : parse l = none := by
  rw [parse, dif_neg hl, if_neg h0, dif_neg h]
/-- A simple escape, read back. -/
theorem parse_two (c u : Nat) (m : List Nat) (h : jesc (c :: m) = (u, 1)) : parse (92 :: c :: m) = (parse m).map (u :: ·) := by
  rw [parse_esc (by simp) rfl (by rw [List.drop_one, List.tail_cons, h]; exact Nat.zero_lt_one)]
  simp only [h, List.drop_succ_cons, List.drop_zero]
theorem jesc_u4 (x : Nat) (hx65 : x < 65536) (m : List Nat) : jesc (117 :: hx (x / 4096) :: hx (x / 256 % 16) :: hx (x / 16 % 16) :: hx (x % 16) :: m) = (x, 5) := by
  have h4 : hex4 (hx (x / 4096) :: hx (x / 256 % 16) :: hx (x / 16 % 16) :: hx (x % 16) :: m) = some x := by
    unfold hex4
    simp only [List.getD_cons_zero, List.getD_cons_succ]
    rw [hexv_hx _ (by omega), hexv_hx _ (by omega), hexv_hx _ (by omega), hexv_hx _ (by omega)]
    simp only [List.length_cons]
    rw [if_pos (by omega)]
    congr 1
    omega
  unfold jesc
  simp only [List.getD_cons_zero, List.length_cons]
  rw [if_neg (by omega), if_neg (by omega), if_neg (by omega), if_neg (by omega), if_neg (by omega), if_neg (by omega), if_neg (by omega), if_pos trivial]
  simp only [List.drop_succ_cons, List.drop_zero, h4]
theorem parse_u4 (x : Nat) (hx65 : x < 65536) (m : List Nat) : parse (u4 x ++ m) = (parse m).map (x :: ·) := by
  have e := jesc_u4 x hx65 m
  show parse (92 :: 117 :: hx (x / 4096) :: hx (x / 256 % 16) :: hx (x / 16 % 16) :: hx (x % 16) :: m) = _
  rw [parse_esc (by simp) rfl (by simp only [List.drop_succ_cons, List.drop_zero, e]; omega)]
  simp only [List.drop_succ_cons, List.drop_zero, e]
/-- An escaped code point, read back. -/
theorem parse_escaped (r : Nat) (hr : r ≤ 1114111) (m : List Nat) : parse (esc r ++ m) = (parse m).map (enc16 r ++ ·) := by
  have e1 : r < 65536 → enc16 r = [r] := fun h => by rw [enc16, if_neg (by omega)]
  unfold esc
  split
  · rename_i h; subst h; rw [e1 (by omega)]; exact parse_two 98 8 m rfl
  split
  · rename_i h; subst h; rw [e1 (by omega)]; exact parse_two 102 12 m rfl
  split
  · rename_i h; subst h; rw [e1 (by omega)]; exact parse_two 110 10 m rfl
  split
  · rename_i h; subst h; rw [e1 (by omega)]; exact parse_two 114 13 m rfl
  split
  · rename_i h; subst h; rw [e1 (by omega)]; exact parse_two 116 9 m rfl
  split
  · rename_i h; subst h; rw [e1 (by omega)]; exact parse_two 92 92 m rfl
  split
  · rename_i h; subst h; rw [e1 (by omega)]; exact parse_two 34 34 m rfl
  split
  · rw [e1 (by omega)]
    exact parse_u4 r (by omega) m
  · rw [List.append_assoc, parse_u4 _ (by omega), parse_u4 _ (by omega), enc16, if_pos (by omega)]
    cases parse m <;> rfl
/-- What was quoted is read back. -/
theorem parse_quote (ascii : Bool) (k : Nat) : ∀ (l : List Nat) (last : Nat) (us : List Nat), l.length = k → units last l = some us → parse (quote ascii l) = some us := by
  induction k using Nat.strongRecOn with
  | _ k ih =>
    intro l last us hk hu
    by_cases hl : l = []
    · subst hl
      rw [units_nil] at hu
      rw [quote_nil, parse_nil, hu]
    by_cases hn : 0 < (lrune l).2
    · by_cases hp : (lrune l).2 = 3 ∧ trail (lrune l).1 = true ∧ lead last = true
      · rw [units_pair hl hn hp] at hu
        cases hu
      · rw [units_next hl hn hp] at hu
        obtain ⟨vs, hv, rfl⟩ := Option.map_eq_some_iff.1 hu
        have hrec := ih _ (by rw [← hk]; exact lrune_lt hn) _ _ vs rfl hv
        have ho := lrune_pos (l := l) (r := (lrune l).1) (n := (lrune l).2) rfl hn
        rw [quote_next hl hn]
        by_cases hc : can (lrune l).1 ascii = true
        · rw [if_pos hc]
          have ht := lrune_take (l := l) (m := quote ascii (l.drop (lrune l).2)) (r := (lrune l).1) (n := (lrune l).2) rfl hn
          have hlen : (l.take (lrune l).2).length = (lrune l).2 := by rw [List.length_take]; omega
          have hc' : 32 ≤ (lrune l).1 ∧ (lrune l).1 ≠ 34 ∧ (lrune l).1 ≠ 92 := by
            unfold can at hc
            split at hc
            · simp only [Bool.and_eq_true, decide_eq_true_eq] at hc
              omega
            · omega
          have hne : l.take (lrune l).2 ++ quote ascii (l.drop (lrune l).2) ≠ [] := by
            intro h
            have := congrArg List.length h
            rw [List.length_append, hlen, List.length_nil] at this
            omega
          have h0 : (l.take (lrune l).2 ++ quote ascii (l.drop (lrune l).2)).getD 0 0 ≠ 92 := by
            intro h
            have h1 : (l.take (lrune l).2 ++ quote ascii (l.drop (lrune l).2)).getD 0 0 = l.getD 0 0 := by
              rw [List.getD, List.getD, List.getElem?_append_left (by omega), List.getElem?_take_of_lt hn]
            rw [h1] at h
            by_cases h128 : (lrune l).1 < 128
            · have := ho.2.2.2.2.1 (ho.2.2.1.1 h128)
              omega
            · have h2 : lrune l = (92, 1) := by
                have hll : ¬ l.length = 0 := by omega
                rw [lrune, if_neg hll, h, if_pos (by omega)]
              rw [h2] at h128
              omega
          rw [parse_raw hne h0 (by rw [ht]; exact ⟨hn, hc'.1, hc'.2.1⟩), ht]
          simp only
          rw [List.drop_left' hlen, hrec]
          rfl
        · rw [if_neg hc, parse_escaped _ ho.2.2.2.1, hrec]
          rfl
    · rw [units_none hl (by omega)] at hu
      cases hu
theorem esc_len (r : Nat) : (esc r).length ≤ 12 := by
  unfold esc u4
  repeat' split
  all_goals simp
theorem u4_lt (x : Nat) (hx65 : x < 65536) : ∀ b ∈ u4 x, b < 128 := by
  intro b hb
  have h1 := hx_bd (x / 4096) (by omega)
  have h2 := hx_bd (x / 256 % 16) (by omega)
  have h3 := hx_bd (x / 16 % 16) (by omega)
  have h4 := hx_bd (x % 16) (by omega)
  simp only [u4, List.mem_cons, List.not_mem_nil, or_false] at hb
  rcases hb with rfl | rfl | rfl | rfl | rfl | rfl <;> omega
theorem esc_lt (r : Nat) (hr : r ≤ 1114111) : ∀ b ∈ esc r, b < 128 := by
  unfold esc
  repeat' split
  all_goals first
    | (intro b hb; simp only [List.mem_cons, List.not_mem_nil, or_false] at hb; omega)
    | exact u4_lt r (by omega)
    | (intro b hb
       rw [List.mem_append] at hb
       rcases hb with hb | hb
       · exact u4_lt _ (by omega) b hb
       · exact u4_lt _ (by omega) b hb)
/-- The quoted text has bytes, of ASCII alone if that is asked; and is at most twelve times as long. -/
theorem quote_lt (ascii : Bool) (k : Nat) : ∀ (l : List Nat), l.length = k → (∀ b ∈ l, b < 256) → ∀ b ∈ quote ascii l, b < 256 ∧ (ascii = true → b < 128) := by
  induction k using Nat.strongRecOn with
  | _ k ih =>
    intro l hk hb b hm
    by_cases hl : l = []
    · subst hl
      rw [quote_nil] at hm
      cases hm
    by_cases hn : 0 < (lrune l).2
    · have ho := lrune_pos (l := l) (r := (lrune l).1) (n := (lrune l).2) rfl hn
      rw [quote_next hl hn, List.mem_append] at hm
      rcases hm with hm | hm
      · split at hm
        · rename_i hc
          refine ⟨hb b (List.mem_of_mem_take hm), fun ha => ?_⟩
          subst ha
          have hr : (lrune l).1 ≤ 126 := by
            unfold can at hc
            split at hc
            · assumption
            · simp at hc
          have hn1 := ho.2.2.1.1 (by omega)
          have hv := ho.2.2.2.2.1 hn1
          rw [hn1] at hm
          match l, hl with
          | a :: l', _ =>
            simp only [List.take_succ_cons, List.take_zero, List.mem_cons, List.not_mem_nil, or_false] at hm
            simp only [List.getD_cons_zero] at hv
            omega
        · have := esc_lt _ ho.2.2.2.1 b hm
          exact ⟨by omega, fun _ => this⟩
      · exact ih _ (by rw [← hk]; exact lrune_lt hn) _ rfl (fun x hx => hb x (List.mem_of_mem_drop hx)) b hm
    · rw [quote, if_neg hl, dif_neg hn] at hm
      cases hm
theorem quote_len (ascii : Bool) (k : Nat) : ∀ (l : List Nat), l.length = k → (quote ascii l).length ≤ 12 * l.length := by
  induction k using Nat.strongRecOn with
  | _ k ih =>
    intro l hk
    by_cases hl : l = []
    · subst hl
      rw [quote_nil]
      simp
    by_cases hn : 0 < (lrune l).2
    · have ho := lrune_pos (l := l) (r := (lrune l).1) (n := (lrune l).2) rfl hn
      have hrec := ih _ (by rw [← hk]; exact lrune_lt hn) (l.drop (lrune l).2) rfl
      rw [List.length_drop] at hrec
      rw [quote_next hl hn, List.length_append]
      have h1 := esc_len (lrune l).1
      split
      · rw [List.length_take]
        omega
      · omega
    · rw [quote, if_neg hl, dif_neg hn]
      simp
end Go.Proofs.Ytobhlppdolekoaa.Wtf
