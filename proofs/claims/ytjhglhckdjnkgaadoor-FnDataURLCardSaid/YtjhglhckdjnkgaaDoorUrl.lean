/- A text percent-escaped, and fetched again: as lists of bytes. No program in sight. -/
import Derived.Below
namespace Go.Proofs.YtjhglhckdjnkgaaDoor.Url
/-- The value of a digit of base 16. -/
def hexv (n : Nat) : Option Nat := if 48 ≤ n ∧ n ≤ 57 then some (n - 48) else if 97 ≤ n ∧ n ≤ 102 then some (n - 87) else if 65 ≤ n ∧ n ≤ 70 then some (n - 55) else none
theorem hexv_lt {n v : Nat} (h : hexv n = some v) : v < 16 := by
  unfold hexv at h
  repeat' split at h
  all_goals first | (injection h with h; omega) | cases h
/-- The digit that is worth so much. -/
def hx (v : Nat) : Nat := if v < 10 then 48 + v else 55 + v
theorem hexv_hx (v : Nat) (h : v < 16) : hexv (hx v) = some v := by
  have : ∀ k : Fin 16, hexv (hx k.val) = some k.val := by decide
  exact this ⟨v, h⟩
theorem hx_bd (v : Nat) (h : v < 16) : 48 ≤ hx v ∧ hx v ≤ 70 := by unfold hx; split <;> omega
/-- A byte that is escaped where only such ones follow. -/
def trailB (b : Nat) : Bool := decide (b ≤ 32) && decide (b ≠ 9) && decide (b ≠ 10) && decide (b ≠ 13)
def isHex (b : Nat) : Bool := (hexv b).isSome
def two (r : List Nat) : Bool := match r with | x :: y :: _ => isHex x && isHex y | _ => false
def ctl (b : Nat) : Bool := decide (b = 9) || decide (b = 10) || decide (b = 13)
/-- The first byte of what is left is escaped. -/
def escB (b : Nat) (r : List Nat) : Bool := ctl b || decide (b = 35) || (b :: r).all trailB || (decide (b = 37) && two r)
/-- The text escaped. -/
def encL : List Nat → List Nat
  | [] => []
  | b :: r => (if escB b r = true then [37, hx (b / 16), hx (b % 16)] else [b]) ++ encL r
/-- What is fetched. -/
def dec : List Nat → List Nat
  | [] => []
  | b :: r => if b = 35 then [] else if b = 37 ∧ two r = true then (16 * (hexv (r.getD 0 0)).getD 0 + (hexv (r.getD 1 0)).getD 0) :: dec (r.drop 2) else b :: dec r
termination_by l => l.length
decreasing_by
  · simp only [List.length_cons, List.length_drop]
    omega
  · simp only [List.length_cons]
    omega
theorem dec_hash (r : List Nat) : dec (35 :: r) = [] := by rw [dec, if_pos rfl]
theorem dec_plain (b : Nat) (r : List Nat) (h1 : b ≠ 35) (h2 : b ≠ 37) : dec (b :: r) = b :: dec r := by rw [dec, if_neg h1, if_neg (fun h => h2 h.1)]
theorem dec_two (r : List Nat) (h : two r = true) : dec (37 :: r) = (16 * (hexv (r.getD 0 0)).getD 0 + (hexv (r.getD 1 0)).getD 0) :: dec (r.drop 2) := by rw [dec, if_neg (by decide), if_pos ⟨rfl, h⟩]
theorem dec_hex (x y u v : Nat) (r : List Nat) (hx : hexv x = some u) (hy : hexv y = some v) : dec (37 :: x :: y :: r) = (16 * u + v) :: dec r := by
  rw [dec_two _ (by simp [two, isHex, hx, hy])]
  simp [hx, hy]
theorem dec_not (r : List Nat) (h : two r = false) : dec (37 :: r) = 37 :: dec r := by rw [dec, if_neg (by decide), if_neg (fun k => by rw [h] at k; exact absurd k.2 (by decide))]
theorem two_enc (r : List Nat) (hb : two r = false) : two (encL r) = false := by
  match r, hb with
  | [], _ => rfl
  | [c], _ =>
    simp only [encL, List.append_nil]
    split
    · simp [two, isHex, hexv]
    · rfl
  | c :: d :: r', hb =>
    rw [encL]
    split
    · simp [two, isHex, hexv]
    · rw [encL]
      split
      · simp [two, isHex, hexv]
      · simpa [two] using hb
/-- What was escaped is fetched. -/
theorem dec_enc (l : List Nat) (h : ∀ b ∈ l, b < 256) : dec (encL l) = l := by
  induction l with
  | nil => rw [encL, dec]
  | cons b r ih =>
    have hb := h b (by simp)
    have ih' := ih (fun x hx => h x (by simp [hx]))
    rw [encL]
    by_cases e : escB b r = true
    · rw [if_pos e]
      simp only [List.cons_append, List.nil_append]
      rw [dec_hex _ _ _ _ _ (hexv_hx _ (by omega)) (hexv_hx _ (by omega)), ih']
      congr 1
      omega
    · rw [if_neg e]
      simp only [List.cons_append, List.nil_append]
      simp only [escB, Bool.or_eq_true, not_or, decide_eq_true_eq, Bool.and_eq_true, not_and, Bool.not_eq_true] at e
      by_cases e2 : b = 37
      · subst e2
        rw [dec_not _ (two_enc r (e.2 rfl)), ih']
      · rw [dec_plain b _ e.1.1.2 e2, ih']
/-- No tab, no line end in it; and its last byte is no blank. -/
theorem enc_ctl (l : List Nat) (h : ∀ b ∈ l, b < 256) : ∀ b ∈ encL l, ctl b = false := by
  induction l with
  | nil => intro b hb; simp [encL] at hb
  | cons b r ih =>
    have hb := h b (by simp)
    intro c hc
    rw [encL, List.mem_append] at hc
    rcases hc with hc | hc
    · split at hc
      · have h1 := hx_bd (b / 16) (by omega)
        have h2 := hx_bd (b % 16) (by omega)
        simp only [List.mem_cons, List.not_mem_nil, or_false] at hc
        rcases hc with rfl | rfl | rfl
        · rfl
        · simp [ctl]; omega
        · simp [ctl]; omega
      · rename_i e
        simp only [List.mem_cons, List.not_mem_nil, or_false] at hc
        subst hc
        simp only [escB, Bool.or_eq_true, not_or, Bool.not_eq_true] at e
        exact e.1.1.1
    · exact ih (fun x hx => h x (by simp [hx])) c hc
theorem enc_last (l : List Nat) (h : ∀ b ∈ l, b < 256) : ∀ c, (encL l).getLast? = some c → 32 < c := by
  induction l with
  | nil => intro c hc; simp [encL] at hc
  | cons b r ih =>
    have hb := h b (by simp)
    intro c hc
    rw [encL] at hc
    by_cases hr : encL r = []
    · have hr0 : r = [] := by
        match r, hr with
        | [], _ => rfl
        | x :: y, hr =>
          rw [encL] at hr
          split at hr <;> simp at hr
      subst hr0
      rw [hr, List.append_nil] at hc
      by_cases e : escB b [] = true
      · rw [if_pos e] at hc
        have h2 := hx_bd (b % 16) (by omega)
        simp at hc
        omega
      · rw [if_neg e] at hc
        simp only [List.getLast?_singleton, Option.some.injEq] at hc
        subst hc
        simp [escB, trailB, ctl] at e
        omega
    · have hl : ((if escB b r = true then [37, hx (b / 16), hx (b % 16)] else [b]) ++ encL r).getLast? = (encL r).getLast? := by
        rw [List.getLast?_append]
        cases he : (encL r).getLast? with
        | none => exact absurd (List.getLast?_eq_none_iff.1 he) hr
        | some x => rfl
      rw [hl] at hc
      exact ih (fun x hx => h x (by simp [hx])) c hc
end Go.Proofs.YtjhglhckdjnkgaaDoor.Url
