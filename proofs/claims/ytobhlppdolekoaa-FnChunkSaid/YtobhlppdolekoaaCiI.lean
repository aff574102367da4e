/- The code points of a text, one by one, with the package's places. No walk in sight. -/
import Derived.Test.YtobhlppdolekoaaChO
import Derived.Test.YtobhlppdolekoaaChW
namespace Go.Proofs.Ytobhlppdolekoaa.Ch
open Go.RowKit Go.Proofs.Ytobhlppdolekoaa.Aid Go.Proofs.Ytobhlppdolekoaa.Bytes Go.Proofs.Ytobhlppdolekoaa.Runes
set_option linter.unusedVariables false
/-- Where the n-th code point begins, and the package's place there. -/
def st (s : ByteArray) : Nat → Nat × (Nat × Nat)
  | 0 => (0, (0, 0))
  | n + 1 => if (st s n).1 < s.size ∧ 0 < (rune s (st s n).1).2 then ((st s n).1 + (rune s (st s n).1).2, Runes.stepG s (st s n).1 (rune s (st s n).1) (st s n).2) else st s n
/-- The table behind n code points. -/
def tb (s : ByteArray) : Nat → Tb
  | 0 => Tb.new
  | n + 1 => if (st s n).1 < s.size ∧ 0 < (rune s (st s n).1).2 then (tb s n).step s (st s n).1 (rune s (st s n).1) else tb s n
def lt2 (a b : Nat × Nat) : Prop := a.1 < b.1 ∨ (a.1 = b.1 ∧ a.2 < b.2)
theorem lt2.trans {a b c : Nat × Nat} (h : lt2 a b) (k : lt2 b c) : lt2 a c := by unfold lt2 at *; omega
theorem stepG_lt (s : ByteArray) (i : Nat) (x p : Nat × Nat) : lt2 p (Runes.stepG s i x p) := by
  unfold Runes.stepG lt2
  repeat' split
  all_goals first | (left; simp; done) | (right; simp; done)
theorem st_next (s : ByteArray) (n : Nat) : (st s n).1 ≤ (st s (n + 1)).1 ∧ ((st s n).1 < (st s (n + 1)).1 → lt2 (st s n).2 (st s (n + 1)).2) ∧ ((st s n).1 = (st s (n + 1)).1 → (st s n) = (st s (n + 1))) := by
  have e : st s (n + 1) = if (st s n).1 < s.size ∧ 0 < (rune s (st s n).1).2 then ((st s n).1 + (rune s (st s n).1).2, Runes.stepG s (st s n).1 (rune s (st s n).1) (st s n).2) else st s n := rfl
  rw [e]
  split
  · rename_i h
    exact ⟨Nat.le_add_right _ _, fun _ => stepG_lt _ _ _ _, fun h' => by have h2 : (st s n).1 = (st s n).1 + (rune s (st s n).1).2 := h'; omega⟩
  · exact ⟨Nat.le_refl _, fun h => absurd h (Nat.lt_irrefl _), fun _ => rfl⟩
theorem st_mono (s : ByteArray) (m n : Nat) (h : m ≤ n) : (st s m).1 ≤ (st s n).1 ∧ ((st s m).1 < (st s n).1 → lt2 (st s m).2 (st s n).2) ∧ ((st s m).1 = (st s n).1 → st s m = st s n) := by
  induction n with
  | zero =>
    have : m = 0 := by omega
    subst this
    exact ⟨Nat.le_refl _, fun h => absurd h (Nat.lt_irrefl _), fun _ => rfl⟩
  | succ n ih =>
    rcases Nat.lt_or_ge n m with h' | h'
    · have : m = n + 1 := by omega
      subst this
      exact ⟨Nat.le_refl _, fun h => absurd h (Nat.lt_irrefl _), fun _ => rfl⟩
    · obtain ⟨a1, a2, a3⟩ := ih h'
      obtain ⟨b1, b2, b3⟩ := st_next s n
      refine ⟨Nat.le_trans a1 b1, fun hlt => ?_, fun he => ?_⟩
      · rcases Nat.lt_or_ge (st s m).1 (st s n).1 with c | c
        · have k := a2 c
          rcases Nat.lt_or_ge (st s n).1 (st s (n + 1)).1 with d | d
          · exact k.trans (b2 d)
          · rw [← b3 (by omega)]; exact k
        · have k := a3 (by omega)
          rw [k]
          exact b2 (by omega)
      · have k := a3 (by omega)
        rw [k]
        exact b3 (by omega)
/-- Two points: the one that lies ahead has the place ahead. -/
theorem st_lt (s : ByteArray) (m n : Nat) (h : (st s m).1 < (st s n).1) : lt2 (st s m).2 (st s n).2 := by
  rcases Nat.lt_or_ge n m with h' | h'
  · have := (st_mono s n m (by omega)).1
    omega
  · exact (st_mono s m n h').2.1 h
theorem st_eq (s : ByteArray) (m n : Nat) (h : (st s m).1 = (st s n).1) : st s m = st s n := by
  rcases Nat.lt_or_ge n m with h' | h'
  · exact ((st_mono s n m (by omega)).2.2 h.symm).symm
  · exact (st_mono s m n h').2.2 h
/-- A line that begins at a point is not behind another point just where its number is not above that point's. -/
theorem st_find (s : ByteArray) (m n j : Nat) (h : (st s m).2 = (j, 0)) : (st s m).1 ≤ (st s n).1 ↔ j ≤ (st s n).2.1 := by
  constructor
  · intro hle
    rcases Nat.lt_or_ge (st s m).1 (st s n).1 with c | c
    · have := st_lt s m n c
      rw [h] at this
      unfold lt2 at this
      simp only at this
      omega
    · have := st_eq s m n (by omega)
      rw [← this, h]
      exact Nat.le_refl _
  · intro hle
    rcases Nat.lt_or_ge (st s n).1 (st s m).1 with c | c
    · have := st_lt s n m c
      rw [h] at this
      unfold lt2 at this
      simp only at this
      omega
    · exact c
/-- The whole run. -/
theorem run_tb (s : ByteArray) (hw : wf s 0 = true) (k : Nat) : ∀ n, s.size - (st s n).1 = k → wf s (st s n).1 = true → ∃ N, n ≤ N ∧ s.size ≤ (st s N).1 ∧ Tb.run s (st s n).1 (tb s n) = tb s N := by
  induction k using Nat.strongRecOn with
  | _ k ih =>
    intro n hk hwn
    by_cases hlt : (st s n).1 < s.size
    · have hp := wf_pos hlt hwn
      have e1 : st s (n + 1) = ((st s n).1 + (rune s (st s n).1).2, Runes.stepG s (st s n).1 (rune s (st s n).1) (st s n).2) := by rw [st, if_pos ⟨hlt, hp⟩]
      have e2 : tb s (n + 1) = (tb s n).step s (st s n).1 (rune s (st s n).1) := by rw [tb, if_pos ⟨hlt, hp⟩]
      have e3 : (st s (n + 1)).1 = (st s n).1 + (rune s (st s n).1).2 := by rw [e1]
      obtain ⟨N, h1, h2, h3⟩ := ih (s.size - (st s (n + 1)).1) (by omega) (n + 1) rfl (by rw [e3, ← wf_next hlt hp]; exact hwn)
      refine ⟨N, by omega, h2, ?_⟩
      rw [Tb.run_next hlt hp, ← e3, ← e2]
      exact h3
    · exact ⟨n, Nat.le_refl _, by omega, Tb.run_end hlt⟩
end Go.Proofs.Ytobhlppdolekoaa.Ch
/- The table of lines tells each point's line and column. No walk in sight. -/
namespace Go.Proofs.Ytobhlppdolekoaa.Ch
open Go.RowKit Go.Proofs.Ytobhlppdolekoaa.Aid Go.Proofs.Ytobhlppdolekoaa.Bytes Go.Proofs.Ytobhlppdolekoaa.Runes
set_option linter.unusedVariables false
/-- What the table under way knows behind n code points. -/
structure TInv (s : ByteArray) (n : Nat) : Prop where
  D : (tb s n).D.length = (st s n).2.1
  c : (tb s n).c = (st s n).2.2
  zero : (tb s n).c = 0 → (tb s n).cols = none
  cur : 0 < (tb s n).c → ∃ m, m ≤ n ∧ st s m = ((tb s n).lb, ((st s n).2.1, 0))
  lines : ∀ (j : Nat) a, (tb s n).D[j]? = some a → (∃ m, m ≤ n ∧ st s m = (a.start, (j, 0))) ∧ ∀ m, m ≤ n → (st s m).2.1 = j → ColAt a (st s m).1 (st s m).2.2
  here : ∀ m, (st s m).1 < (st s n).1 → (st s m).2.1 = (st s n).2.1 → ColAt (tb s n).ln (st s m).1 (st s m).2.2
  none_ : (tb s n).cols = none → 0 < (tb s n).c → (tb s n).c = (st s n).1 - (tb s n).lb
  some_ : ∀ L, (tb s n).cols = some L → (tb s n).f + L.length = (tb s n).cb ∧ (tb s n).cb ≤ (st s n).1 - (tb s n).lb
/-- Behind the filling: every point of the line up to here is told. -/
theorem TInv.fill {s : ByteArray} {n : Nat} (h : TInv s n) (r : Nat) (t3 : Tb) (ht : t3 = (((tb s n).start (st s n).1).wide (st s n).1 r).fill (st s n).1) :
    t3.D = (tb s n).D ∧ t3.c = (tb s n).c ∧ t3.lb ≤ (st s n).1 ∧ (∃ m, m ≤ n ∧ st s m = (t3.lb, ((st s n).2.1, 0))) ∧ (∀ m, (st s m).1 ≤ (st s n).1 → (st s m).2.1 = (st s n).2.1 → ColAt t3.ln (st s m).1 (st s m).2.2) ∧
    (t3.cols = none → r ≤ 127 ∧ t3.c = (st s n).1 - t3.lb) ∧ (∀ L, t3.cols = some L → t3.f + L.length = t3.cb ∧ t3.cb = (st s n).1 - t3.lb + 1) := by
  obtain ⟨i, hi⟩ : ∃ i, i = (st s n).1 := ⟨_, rfl⟩
  obtain ⟨l, hl⟩ : ∃ l, l = (st s n).2.1 := ⟨_, rfl⟩
  have hc := h.c
  have hsn : st s n = (i, (l, (st s n).2.2)) := by rw [hi, hl]
  -- the line's begin
  have hb : ((tb s n).start i).lb ≤ i ∧ (∃ m, m ≤ n ∧ st s m = (((tb s n).start i).lb, (l, 0))) ∧ (0 < (tb s n).c → ((tb s n).start i).lb = (tb s n).lb ∧ (tb s n).lb < i) := by
    by_cases hz : (tb s n).c = 0
    · have e : ((tb s n).start i).lb = i := by rw [Tb.start, if_pos hz]
      rw [e]
      exact ⟨Nat.le_refl _, ⟨n, Nat.le_refl _, by rw [hsn, ← hc, hz]⟩, fun h => by omega⟩
    · have e : ((tb s n).start i).lb = (tb s n).lb := by rw [Tb.start, if_neg hz]
      obtain ⟨m, hm, em⟩ := h.cur (by omega)
      have h1 := (st_mono s m n hm).1
      rw [em, ← hi] at h1
      have h2 : (tb s n).lb ≠ i := by
        intro e2
        have := st_eq s m n (by rw [em, ← hi]; exact e2)
        rw [em, hsn] at this
        injection this with _ this
        injection this with _ this
        omega
      rw [e]
      have h1' : (tb s n).lb ≤ i := h1
      exact ⟨h1', ⟨m, hm, by rw [em, ← hl]⟩, fun _ => ⟨rfl, by omega⟩⟩
  have hS : ((tb s n).start i).D = (tb s n).D ∧ ((tb s n).start i).c = (tb s n).c ∧ ((tb s n).start i).cols = (tb s n).cols ∧ ((tb s n).start i).f = (tb s n).f ∧ ((tb s n).start i).cb = (tb s n).cb := by
    unfold Tb.start
    split <;> exact ⟨rfl, rfl, rfl, rfl, rfl⟩
  obtain ⟨t1, ht1⟩ : ∃ t1, t1 = (tb s n).start i := ⟨_, rfl⟩
  rw [← hi, ← ht1] at ht
  rw [← ht1] at hb hS
  obtain ⟨hb1, hb2, hb3⟩ := hb
  obtain ⟨s1, s2, s3, s4, s5⟩ := hS
  -- a point of this line that lies ahead
  have hpt : ∀ m, (st s m).1 < i → (st s m).2.1 = l → 0 < (tb s n).c ∧ (tb s n).lb ≤ (st s m).1 := by
    intro m h1 h2
    have h3 := st_lt s m n (by rw [← hi]; exact h1)
    unfold lt2 at h3
    rw [← hl, h2, ← hc] at h3
    have h4 : 0 < (tb s n).c := by omega
    obtain ⟨m0, _, e0⟩ := h.cur h4
    have h5 := (st_find s m0 m (st s n).2.1 (by rw [e0])).2 (by rw [h2, hl]; exact Nat.le_refl _)
    rw [e0] at h5
    exact ⟨h4, h5⟩
  -- this very point
  have hme : ∀ m, (st s m).1 = i → (st s m).2.2 = (tb s n).c := by
    intro m h1
    rw [st_eq s m n (by rw [h1, hi]), hc]
  have hall : ∀ m, (st s m).1 ≤ i → (st s m).2.1 = l → (st s m).1 = i ∨ (st s m).1 < i := by intro m h1 _; omega
  rw [← hi, ← hl]
  cases hcols : (tb s n).cols with
  | some L =>
    have hcp : 0 < (tb s n).c := by
      rcases Nat.eq_zero_or_pos (tb s n).c with h0 | h0
      · have := h.zero h0; rw [hcols] at this; cases this
      · exact h0
    obtain ⟨e1, e2⟩ := hb3 hcp
    obtain ⟨f1, f2⟩ := h.some_ L hcols
    rw [← hi] at f2
    have hw : t1.wide i r = t1 := by rw [Tb.wide, if_neg (by rw [s3, hcols]; simp)]
    have ht' : t3 = { t1 with cols := some (L ++ List.replicate (i - t1.lb + 1 - t1.cb) t1.c), cb := max t1.cb (i - t1.lb + 1) } := by
      rw [ht, hw, Tb.fill, s3, hcols]
    rw [ht']
    refine ⟨s1, s2, hb1, hb2, fun m h1 h2 => ?_, (fun h0 => by cases h0), fun L' hL' => ?_⟩
    · show ColAt ⟨t1.lb, t1.f, some (L ++ List.replicate (i - t1.lb + 1 - t1.cb) t1.c)⟩ _ _
      unfold ColAt
      simp only
      rw [s4, s5, s2, e1]
      rcases hall m h1 h2 with h3 | h3
      · rw [h3, if_pos (by omega), List.getElem?_append_right (by omega), List.getElem?_replicate, if_pos (by omega), hme m h3]
      · have h4 := h.here m (by rw [← hi]; exact h3) (by rw [← hl]; exact h2)
        unfold ColAt Tb.ln at h4
        rw [hcols] at h4
        simp only at h4
        split at h4
        · rename_i hle
          rw [if_pos hle]
          rw [List.getElem?_append_left ?_]
          · exact h4
          · rcases Nat.lt_or_ge ((st s m).1 - (tb s n).lb - (tb s n).f) L.length with h5 | h5
            · exact h5
            · rw [List.getElem?_eq_none h5] at h4; cases h4
        · rename_i hle
          rw [if_neg hle]
          exact h4
    · injection hL' with hL'
      rw [← hL', List.length_append, List.length_replicate]
      show t1.f + _ = max t1.cb (i - t1.lb + 1) ∧ max t1.cb (i - t1.lb + 1) = i - t1.lb + 1
      rw [s4, s5, e1]
      omega
  | none =>
    have hcn : (tb s n).c = i - t1.lb := by
      rcases Nat.eq_zero_or_pos (tb s n).c with h0 | h0
      · have e : t1.lb = i := by rw [ht1, Tb.start, if_pos h0]
        rw [h0, e]; omega
      · have := h.none_ hcols h0
        rw [← hi] at this
        rw [(hb3 h0).1]; exact this
    have hahead : ∀ m, (st s m).1 < i → (st s m).2.1 = l → (st s m).2.2 = (st s m).1 - t1.lb ∧ (st s m).1 - t1.lb < i - t1.lb := by
      intro m h1 h2
      obtain ⟨h3, h4⟩ := hpt m h1 h2
      have h5 := h.here m (by rw [← hi]; exact h1) (by rw [← hl]; exact h2)
      unfold ColAt Tb.ln at h5
      rw [hcols] at h5
      simp only at h5
      rw [(hb3 h3).1]
      exact ⟨h5, by omega⟩
    by_cases hr : 127 < r
    · have hw : t1.wide i r = { t1 with cb := i - t1.lb, f := i - t1.lb, cols := some [] } := by rw [Tb.wide, if_pos ⟨hr, by rw [s3, hcols]⟩]
      have ht' : t3 = { t1 with cb := i - t1.lb + 1, f := i - t1.lb, cols := some [t1.c] } := by
        rw [ht, hw, Tb.fill]
        simp only [List.nil_append]
        rw [show i - t1.lb + 1 - (i - t1.lb) = 1 by omega, show max (i - t1.lb) (i - t1.lb + 1) = i - t1.lb + 1 by omega]
        rfl
      rw [ht']
      refine ⟨s1, s2, hb1, hb2, fun m h1 h2 => ?_, (fun h0 => by cases h0), fun L' hL' => ?_⟩
      · show ColAt ⟨t1.lb, i - t1.lb, some [t1.c]⟩ _ _
        unfold ColAt
        simp only
        rcases hall m h1 h2 with h3 | h3
        · rw [h3, if_pos (Nat.le_refl _), Nat.sub_self, hme m h3, s2]; rfl
        · obtain ⟨h4, h5⟩ := hahead m h3 h2
          rw [if_neg (by omega)]
          exact h4
      · injection hL' with hL'
        rw [← hL']
        exact ⟨rfl, rfl⟩
    · have hw : t1.wide i r = t1 := by rw [Tb.wide, if_neg (fun h => hr h.1)]
      have ht' : t3 = t1 := by rw [ht, hw, Tb.fill, s3, hcols]
      rw [ht']
      refine ⟨s1, s2, hb1, hb2, fun m h1 h2 => ?_, fun _ => ⟨by omega, by rw [s2]; exact hcn⟩, fun L' hL' => by rw [s3, hcols] at hL'; cases hL'⟩
      unfold ColAt Tb.ln
      rw [s3, hcols]
      simp only
      rcases hall m h1 h2 with h3 | h3
      · rw [h3, hme m h3]; exact hcn
      · exact (hahead m h3 h2).1
theorem TInv.zero_ (s : ByteArray) : TInv s 0 :=
  ⟨rfl, rfl, fun _ => rfl, (fun h => absurd h (Nat.lt_irrefl 0)), (fun j a h => by simp [tb, Tb.new] at h), (fun m h _ => absurd h (Nat.not_lt_zero _)), (fun _ h => absurd h (Nat.lt_irrefl 0)), (fun L h => by cases h)⟩
theorem TInv.next {s : ByteArray} {n : Nat} (h : TInv s n) : TInv s (n + 1) := by
  by_cases hp : (st s n).1 < s.size ∧ 0 < (rune s (st s n).1).2
  · have e1 : st s (n + 1) = ((st s n).1 + (rune s (st s n).1).2, Runes.stepG s (st s n).1 (rune s (st s n).1) (st s n).2) := by rw [st, if_pos hp]
    have e2 : tb s (n + 1) = (tb s n).step s (st s n).1 (rune s (st s n).1) := by rw [tb, if_pos hp]
    obtain ⟨r, k, hx⟩ : ∃ r k, rune s (st s n).1 = (r, k) := ⟨_, _, rfl⟩
    have hro := rune_pos hx (by rw [hx] at hp; exact hp.2)
    rw [hx] at e1 e2
    obtain ⟨t3, ht3⟩ : ∃ t3, t3 = (((tb s n).start (st s n).1).wide (st s n).1 r).fill (st s n).1 := ⟨_, rfl⟩
    obtain ⟨g1, g2, g3, ⟨m0, gm, g4⟩, g5, g6, g7⟩ := h.fill r t3 ht3
    have e3 : tb s (n + 1) = t3.count s (st s n).1 (r, k) := by rw [e2, ht3]; rfl
    have hk : 0 < k := by rw [hx] at hp; exact hp.2
    have e4 : (st s (n + 1)).1 = (st s n).1 + k := by rw [e1]
    have hle : ∀ m, (st s m).1 < (st s (n + 1)).1 → (st s m).1 ≤ (st s n).1 := by
      intro m hm
      rcases Nat.lt_or_ge n m with c | c
      · have := (st_mono s (n + 1) m c).1
        omega
      · exact (st_mono s m n c).1
    have hln : ∀ m, m ≤ n + 1 → m ≤ n ∨ m = n + 1 := by intro m hm; omega
    have hD := h.D
    have hc := h.c
    obtain ⟨i, hi⟩ : ∃ i, i = (st s n).1 := ⟨_, rfl⟩
    obtain ⟨l, hl⟩ : ∃ l, l = (st s n).2.1 := ⟨_, rfl⟩
    obtain ⟨c, hcc⟩ : ∃ c, c = (st s n).2.2 := ⟨_, rfl⟩
    have hst : (st s n).2 = (l, c) := by rw [hl, hcc]
    rw [hst, ← hi] at e1
    rw [← hi] at e3 e4 g3 g6 g7 hle g5
    rw [← hl] at hD g4 g5
    rw [← hcc] at hc
    -- a point of the same line: the line is not ended
    have same : ∀ t4 : Tb, tb s (n + 1) = t4 → (st s (n + 1)).2.1 = l → t4.D = t3.D → t4.lb = t3.lb → t4.f = t3.f → t4.cols = t3.cols → t4.cb = t3.cb → t4.c = (st s (n + 1)).2.2 → 0 < t4.c → (t3.cols = none → t4.c = i + k - t3.lb) → TInv s (n + 1) := by
      intro t4 h1 h2 h3 h4 h5 h6 h7 h8 h9 h10
      have hln4 : t4.ln = t3.ln := by unfold Tb.ln; rw [h4, h5, h6]
      refine ⟨by rw [h1, h3, g1, hD, h2], by rw [h1, h8], fun h0 => by rw [h1] at h0; omega, fun _ => ⟨m0, by omega, by rw [h1, h4, h2]; exact g4⟩, fun j a ha => ?_, fun m hm1 hm2 => ?_, fun hn _ => ?_, fun L hL => ?_⟩
      · rw [h1, h3, g1] at ha
        obtain ⟨⟨m, hm, em⟩, hcol⟩ := h.lines j a ha
        refine ⟨⟨m, by omega, em⟩, fun m' hm' hj => ?_⟩
        rcases hln m' hm' with c' | c'
        · exact hcol m' c' hj
        · exfalso
          rw [c', h2] at hj
          have : j < (tb s n).D.length := by
            rcases Nat.lt_or_ge j (tb s n).D.length with c2 | c2
            · exact c2
            · rw [List.getElem?_eq_none c2] at ha; cases ha
          omega
      · rw [h1, hln4]
        rw [h2] at hm2
        exact g5 m (hle m hm1) hm2
      · rw [h1] at hn ⊢
        rw [h6] at hn
        rw [h10 hn, h4, e4]
      · rw [h1] at hL ⊢
        rw [h6] at hL
        obtain ⟨a1, a2⟩ := g7 L hL
        rw [h5, h7, h4, e4, a1, a2]
        exact ⟨rfl, by omega⟩
    unfold Tb.count at e3
    unfold Runes.stepG at e1
    simp only at e1 e3
    by_cases hcr : r = 13 ∧ i + k < s.size ∧ byt s (i + k) = 10
    · rw [if_pos hcr] at e1 e3
      refine same _ e3 (by rw [e1]) rfl rfl rfl rfl rfl (by rw [e1, g2, hc]) (Nat.succ_pos _) (fun hn => ?_)
      have h1 := (g6 hn).2
      have h2 : k = 1 := hro.2.2.2.2.1.1 (by omega)
      show t3.c + 1 = _
      omega
    · rw [if_neg hcr] at e1 e3
      by_cases hle' : lineEnd r = true
      · rw [if_pos hle'] at e1 e3
        have h2 : (st s (n + 1)).2 = (l + 1, 0) := by rw [e1]
        refine ⟨by rw [e3, h2, g1]; simp [hD], by rw [e3, h2], fun _ => by rw [e3], fun h0 => by rw [e3] at h0; exact absurd h0 (Nat.lt_irrefl 0), fun j a ha => ?_, fun m hm1 hm2 => ?_, fun _ h0 => by rw [e3] at h0; exact absurd h0 (Nat.lt_irrefl 0), fun L hL => by rw [e3] at hL; cases hL⟩
        · rw [e3] at ha
          have ha' : (t3.D ++ [t3.ln])[j]? = some a := ha
          rw [g1] at ha'
          rcases Nat.lt_or_ge j (tb s n).D.length with c2 | c2
          · rw [List.getElem?_append_left c2] at ha'
            obtain ⟨⟨m, hm, em⟩, hcol⟩ := h.lines j a ha'
            refine ⟨⟨m, by omega, em⟩, fun m' hm' hj => ?_⟩
            rcases hln m' hm' with c' | c'
            · exact hcol m' c' hj
            · rw [c', h2] at hj
              simp only at hj
              omega
          · rw [List.getElem?_append_right c2] at ha'
            have hz : j - (tb s n).D.length = 0 := by
              rcases Nat.eq_zero_or_pos (j - (tb s n).D.length) with h' | h'
              · exact h'
              · rw [List.getElem?_eq_none (by simp; omega)] at ha'; cases ha'
            rw [hz] at ha'
            simp at ha'
            have hjl : j = l := by omega
            subst ha'
            refine ⟨⟨m0, by omega, by rw [hjl]; exact g4⟩, fun m' hm' hj => ?_⟩
            rcases hln m' hm' with c' | c'
            · have := (st_mono s m' n c').1
              exact g5 m' (by rw [hi]; exact this) (by rw [hj, hjl])
            · rw [c', h2] at hj
              simp only at hj
              omega
        · exfalso
          rw [h2] at hm2
          have h3 := st_lt s m (n + 1) hm1
          rw [h2] at h3
          unfold lt2 at h3
          simp only at h3 hm2
          omega
      · rw [if_neg hle'] at e1 e3
        by_cases hb : 65535 < r
        · rw [if_pos hb] at e1 e3
          refine same _ e3 (by rw [e1]) rfl rfl rfl rfl rfl (by rw [e1, g2, hc]) (Nat.succ_pos _) (fun hn => ?_)
          have h1 := (g6 hn).1
          omega
        · rw [if_neg hb] at e1 e3
          refine same _ e3 (by rw [e1]) rfl rfl rfl rfl rfl (by rw [e1, g2, hc]) (Nat.succ_pos _) (fun hn => ?_)
          obtain ⟨h0, h1⟩ := g6 hn
          have h2 : k = 1 := hro.2.2.2.2.1.1 (by omega)
          show t3.c + 1 = _
          omega
  · have e1 : st s (n + 1) = st s n := by rw [st, if_neg hp]
    have e2 : tb s (n + 1) = tb s n := by rw [tb, if_neg hp]
    obtain ⟨h1, h2, h3, h4, h5, h6, h7, h8⟩ := h
    refine ⟨by rw [e1, e2]; exact h1, by rw [e1, e2]; exact h2, by rw [e2]; exact h3, by rw [e1, e2]; exact fun h0 => (h4 h0).elim fun m hm => ⟨m, by omega, hm.2⟩, fun j a ha => ?_, by rw [e1, e2]; exact h6, by rw [e1, e2]; exact h7, by rw [e1, e2]; exact h8⟩
    rw [e2] at ha
    obtain ⟨⟨m, hm, em⟩, hcol⟩ := h5 j a ha
    refine ⟨⟨m, by omega, em⟩, fun m' hm' hj => ?_⟩
    rcases Nat.lt_or_ge n m' with c | c
    · have : m' = n + 1 := by omega
      subst this
      rw [e1] at hj ⊢
      exact hcol n (Nat.le_refl _) hj
    · exact hcol m' c hj
theorem tinv (s : ByteArray) (n : Nat) : TInv s n := by
  induction n with
  | zero => exact TInv.zero_ s
  | succ n ih => exact ih.next
end Go.Proofs.Ytobhlppdolekoaa.Ch
/- The table of lines, whole: Lies2 at every point. No walk in sight. -/
namespace Go.Proofs.Ytobhlppdolekoaa.Ch
open Go.RowKit Go.Proofs.Ytobhlppdolekoaa.Aid Go.Proofs.Ytobhlppdolekoaa.Bytes Go.Proofs.Ytobhlppdolekoaa.Runes
set_option linter.unusedVariables false
theorem st_le (s : ByteArray) (n : Nat) : (st s n).1 ≤ s.size := by
  induction n with
  | zero => exact Nat.zero_le _
  | succ n ih =>
    by_cases hp : (st s n).1 < s.size ∧ 0 < (rune s (st s n).1).2
    · rw [st, if_pos hp]
      exact (rune_pos (s := s) (i := (st s n).1) (r := (rune s (st s n).1).1) (n := (rune s (st s n).1).2) rfl hp.2).2.2.2.1
    · rw [st, if_neg hp]; exact ih
theorem tb_lim (s : ByteArray) (n : Nat) : (tb s n).Lim (st s n).1 ∧ ∀ (j : Nat) a, (tb s n).D[j]? = some a → a.first ≤ s.size := by
  induction n with
  | zero => exact ⟨Tb.Lim.new, fun j a h => by simp [tb, Tb.new] at h⟩
  | succ n ih =>
    by_cases hp : (st s n).1 < s.size ∧ 0 < (rune s (st s n).1).2
    · have e1 : (st s (n + 1)).1 = (st s n).1 + (rune s (st s n).1).2 := by rw [st, if_pos hp]
      have e2 : tb s (n + 1) = (tb s n).step s (st s n).1 (rune s (st s n).1) := by rw [tb, if_pos hp]
      rw [e1, e2]
      refine ⟨ih.1.step s _ hp.2, fun j a ha => ?_⟩
      obtain ⟨t3, ht3⟩ : ∃ t3, t3 = (((tb s n).start (st s n).1).wide (st s n).1 (rune s (st s n).1).1).fill (st s n).1 := ⟨_, rfl⟩
      have hf : t3.f ≤ (st s n).1 := by rw [ht3]; exact ((ih.1.start.wide _).fill).f
      have hD : t3.D = (tb s n).D := ((tinv s n).fill _ t3 ht3).1
      have hs := st_le s n
      unfold Tb.step at ha
      rw [← ht3] at ha
      unfold Tb.count at ha
      split at ha
      · exact ih.2 j a (by rw [← hD]; exact ha)
      split at ha
      · have ha' : (t3.D ++ [t3.ln])[j]? = some a := ha
        rcases Nat.lt_or_ge j t3.D.length with c | c
        · rw [List.getElem?_append_left c] at ha'
          exact ih.2 j a (by rw [← hD]; exact ha')
        · rw [List.getElem?_append_right c] at ha'
          have : a ∈ [t3.ln] := List.mem_of_getElem? ha'
          simp at this
          rw [this]
          show t3.f ≤ _
          omega
      split at ha
      · exact ih.2 j a (by rw [← hD]; exact ha)
      · exact ih.2 j a (by rw [← hD]; exact ha)
    · have e1 : st s (n + 1) = st s n := by rw [st, if_neg hp]
      have e2 : tb s (n + 1) = tb s n := by rw [tb, if_neg hp]
      rw [e1, e2]
      exact ih
/-- Every point of a well-formed text lies where the package counts it. -/
theorem table_lies (s : ByteArray) (hw : wf s 0 = true) (hs : s.size ≤ 100000) (n : Nat) : Lies2 (table s) (st s n).1 (st s n).2.1 (st s n).2.2 := by
  obtain ⟨N, _, hN, hrun⟩ := run_tb s hw (s.size - (st s 0).1) 0 rfl hw
  have hNs : (st s N).1 = s.size := by have := st_le s N; omega
  obtain ⟨t3, ht3⟩ : ∃ t3, t3 = (((tb s N).start (st s N).1).wide (st s N).1 0).fill (st s N).1 := ⟨_, rfl⟩
  have hI := tinv s N
  obtain ⟨g1, g2, g3, ⟨m0, gm, g4⟩, g5, g6, g7⟩ := hI.fill 0 t3 ht3
  have ht : table s = t3.D ++ [t3.ln] := by
    have e0 : Tb.run s 0 Tb.new = tb s N := hrun
    have e1 : ∀ t : Tb, t.wide s.size 0 = t := by intro t; rw [Tb.wide, if_neg (by omega)]
    rw [table, e0, Tb.last, ht3, hNs, e1]
  have hlim := tb_lim s N
  have hf3 : t3.f ≤ s.size := by
    have : t3.f ≤ (st s N).1 := by rw [ht3]; exact ((hlim.1.start.wide _).fill).f
    omega
  have hD := hI.D
  -- each line's begin is a point
  have hbeg : ∀ (j : Nat) a, (table s)[j]? = some a → (∃ m, st s m = (a.start, (j, 0))) ∧ a.first ≤ s.size := by
    intro j a ha
    rw [ht, g1] at ha
    rcases Nat.lt_or_ge j (tb s N).D.length with c | c
    · rw [List.getElem?_append_left c] at ha
      obtain ⟨⟨m, _, em⟩, _⟩ := hI.lines j a ha
      exact ⟨⟨m, em⟩, hlim.2 j a ha⟩
    · rw [List.getElem?_append_right c] at ha
      have hz : j - (tb s N).D.length = 0 := by
        rcases Nat.eq_zero_or_pos (j - (tb s N).D.length) with h' | h'
        · exact h'
        · rw [List.getElem?_eq_none (by simp; omega)] at ha; cases ha
      rw [hz] at ha
      simp at ha
      subst ha
      exact ⟨⟨m0, by rw [show j = (st s N).2.1 by omega]; exact g4⟩, hf3⟩
  -- the point, not behind the last
  obtain ⟨n', hn', en⟩ : ∃ n', n' ≤ N ∧ st s n' = st s n := by
    rcases Nat.lt_or_ge N n with c | c
    · refine ⟨N, Nat.le_refl _, st_eq s N n ?_⟩
      have := (st_mono s N n (by omega)).1
      have := st_le s n
      omega
    · exact ⟨n, c, rfl⟩
  rw [← en]
  have hl : (st s n').2.1 ≤ (st s N).2.1 := by
    rcases Nat.lt_or_ge (st s n').1 (st s N).1 with c | c
    · have := st_lt s n' N c
      unfold lt2 at this
      omega
    · rw [st_eq s n' N (by have := st_le s n'; omega)]
      exact Nat.le_refl _
  refine ⟨fun j a ha => ?_, ?_, fun j a ha => Nat.le_trans (hbeg j a ha).2 hs⟩
  · obtain ⟨⟨m, em⟩, _⟩ := hbeg j a ha
    have := st_find s m n' j (by rw [em])
    rw [em] at this
    exact this
  · rw [ht, g1]
    rcases Nat.lt_or_ge (st s n').2.1 (tb s N).D.length with c | c
    · obtain ⟨a, ha⟩ : ∃ a, (tb s N).D[(st s n').2.1]? = some a := ⟨_, List.getElem?_eq_getElem c⟩
      exact ⟨a, by rw [List.getElem?_append_left c]; exact ha, (hI.lines _ a ha).2 n' hn' rfl⟩
    · have e : (st s n').2.1 = (st s N).2.1 := by omega
      refine ⟨t3.ln, by rw [List.getElem?_append_right c, show (st s n').2.1 - (tb s N).D.length = 0 by omega]; rfl, g5 n' (st_mono s n' N hn').1 e⟩
theorem table_len (s : ByteArray) (hw : wf s 0 = true) : 0 < (table s).length ∧ (table s).length ≤ s.size + 1 := by
  obtain ⟨N, _, hN, hrun⟩ := run_tb s hw (s.size - (st s 0).1) 0 rfl hw
  have e0 : Tb.run s 0 Tb.new = tb s N := hrun
  have hl := ((tb_lim s N).1).D
  have hs := st_le s N
  have hfd : ∀ (t : Tb) (i : Nat), (t.fill i).D = t.D := by intro t i; unfold Tb.fill; split <;> rfl
  have hsd : ∀ (t : Tb) (i : Nat), (t.start i).D = t.D := by intro t i; unfold Tb.start; split <;> rfl
  rw [table, e0, Tb.last, hfd, hsd, List.length_append, List.length_singleton]
  omega
end Go.Proofs.Ytobhlppdolekoaa.Ch
/- A rounded place is a point, and the reference counts there as the package does. No walk in sight. -/
namespace Go.Proofs.Ytobhlppdolekoaa.Ch
open Go.RowKit Go.Proofs.Ytobhlppdolekoaa.Aid Go.Proofs.Ytobhlppdolekoaa.Bytes Go.Proofs.Ytobhlppdolekoaa.Runes
set_option linter.unusedVariables false
theorem rune_good {s : ByteArray} {i r k : Nat} (h : rune s i = (r, k)) (hk : 0 < k) : Utf8.decode s i ≠ (65533, 1) := by
  intro e
  rw [rune_bad s i e] at h
  injection h with _ h
  omega
/-- The bytes behind a code point's first one. -/
theorem rune_cont {s : ByteArray} {i r k : Nat} (h : rune s i = (r, k)) (hk : 0 < k) (j : Nat) (h0 : 0 < j) (hj : j < k) : byt s (i + j) / 64 = 2 := by
  have hd := (rune_pos h hk).2.1
  rw [decode_eq] at hd
  split at hd
  · injection hd with _ hd; omega
  split at hd
  · rename_i c
    split at hd
    · injection hd with _ hd
      have : j = 1 := by omega
      subst this
      exact c.2.2
    · injection hd with _ hd; omega
  split at hd
  · rename_i c
    split at hd
    · injection hd with _ hd
      rcases (by omega : j = 1 ∨ j = 2) with rfl | rfl
      · exact c.2.1.2
      · exact c.2.2.2
    · injection hd with _ hd; omega
  split at hd
  · rename_i c
    split at hd
    · injection hd with _ hd
      rcases (by omega : j = 1 ∨ j = 2 ∨ j = 3) with rfl | rfl | rfl
      · exact c.2.1.2
      · exact c.2.2.1.2
      · exact c.2.2.2.2
    · injection hd with _ hd; omega
  · injection hd with _ hd; omega
/-- A code point within a prefix. -/
theorem rune_pre (P T : ByteArray) (i r k : Nat) (h : rune (P ++ T) i = (r, k)) (hk : 0 < k) (hi : i + k ≤ P.size) : rune P i = (r, k) := by
  have hg := rune_good h hk
  have hd := (rune_pos h hk).2.1
  have hsz : (P ++ T).size = P.size + T.size := ByteArray.size_append
  have e0 := byt_left P T i (by omega)
  have e1 : i + 1 < P.size → byt (P ++ T) (i + 1) = byt P (i + 1) := byt_left P T (i + 1)
  have e2 : i + 2 < P.size → byt (P ++ T) (i + 2) = byt P (i + 2) := byt_left P T (i + 2)
  have e3 : i + 3 < P.size → byt (P ++ T) (i + 3) = byt P (i + 3) := byt_left P T (i + 3)
  have hgd : (r, k) ≠ (65533, 1) := by rw [← hd]; exact hg
  have e : Utf8.decode P i = (r, k) := by
    rw [decode_eq (P ++ T) i, e0, hsz] at hd
    rw [decode_eq P i]
    by_cases a : byt P i < 128
    · rw [if_pos a] at hd ⊢; exact hd
    rw [if_neg a] at hd ⊢
    by_cases b : byt P i / 32 = 6 ∧ i + 1 < P.size + T.size ∧ byt (P ++ T) (i + 1) / 64 = 2
    · rw [if_pos b] at hd
      have hk2 : k = 2 := by
        split at hd
        · injection hd with _ hd; exact hd.symm
        · exact absurd hd.symm hgd
      have l1 : i + 1 < P.size := by omega
      rw [e1 l1] at hd b
      rw [if_pos ⟨b.1, l1, b.2.2⟩]
      exact hd
    have b' : ¬ (byt P i / 32 = 6 ∧ i + 1 < P.size ∧ byt P (i + 1) / 64 = 2) := fun x => b ⟨x.1, by omega, by rw [e1 x.2.1]; exact x.2.2⟩
    rw [if_neg b] at hd
    rw [if_neg b']
    by_cases c : byt P i / 16 = 14 ∧ (i + 1 < P.size + T.size ∧ byt (P ++ T) (i + 1) / 64 = 2) ∧ (i + 2 < P.size + T.size ∧ byt (P ++ T) (i + 2) / 64 = 2)
    · rw [if_pos c] at hd
      have hk3 : k = 3 := by
        split at hd
        · injection hd with _ hd; exact hd.symm
        · exact absurd hd.symm hgd
      have l1 : i + 1 < P.size := by omega
      have l2 : i + 2 < P.size := by omega
      rw [e1 l1, e2 l2] at hd c
      rw [if_pos ⟨c.1, ⟨l1, c.2.1.2⟩, l2, c.2.2.2⟩]
      exact hd
    have c' : ¬ (byt P i / 16 = 14 ∧ (i + 1 < P.size ∧ byt P (i + 1) / 64 = 2) ∧ (i + 2 < P.size ∧ byt P (i + 2) / 64 = 2)) := fun x => c ⟨x.1, ⟨by omega, by rw [e1 x.2.1.1]; exact x.2.1.2⟩, by omega, by rw [e2 x.2.2.1]; exact x.2.2.2⟩
    rw [if_neg c] at hd
    rw [if_neg c']
    by_cases d : byt P i / 8 = 30 ∧ (i + 1 < P.size + T.size ∧ byt (P ++ T) (i + 1) / 64 = 2) ∧ (i + 2 < P.size + T.size ∧ byt (P ++ T) (i + 2) / 64 = 2) ∧ (i + 3 < P.size + T.size ∧ byt (P ++ T) (i + 3) / 64 = 2)
    · rw [if_pos d] at hd
      have hk4 : k = 4 := by
        split at hd
        · injection hd with _ hd; exact hd.symm
        · exact absurd hd.symm hgd
      have l1 : i + 1 < P.size := by omega
      have l2 : i + 2 < P.size := by omega
      have l3 : i + 3 < P.size := by omega
      rw [e1 l1, e2 l2, e3 l3] at hd d
      rw [if_pos ⟨d.1, ⟨l1, d.2.1.2⟩, ⟨l2, d.2.2.1.2⟩, l3, d.2.2.2.2⟩]
      exact hd
    · rw [if_neg d] at hd
      exact absurd hd.symm hgd
  unfold rune
  rw [e, if_pos ⟨by omega, hgd⟩]
/-- A place that is no byte within a code point is a point. -/
theorem point (s : ByteArray) (hw : wf s 0 = true) (loc : Nat) (hl : loc ≤ s.size) (hb : ¬ (loc < s.size ∧ byt s loc / 64 = 2)) : ∃ n, (st s n).1 = loc := by
  obtain ⟨N, _, hN, _⟩ := run_tb s hw (s.size - (st s 0).1) 0 rfl hw
  have key : ∀ n, loc ≤ (st s n).1 → ∃ m, (st s m).1 = loc := by
    intro n
    induction n with
    | zero =>
      intro h
      exact ⟨0, by have : (st s 0).1 = 0 := rfl; omega⟩
    | succ n ih =>
      intro h
      rcases Nat.lt_or_ge (st s n).1 loc with c | c
      · by_cases hp : (st s n).1 < s.size ∧ 0 < (rune s (st s n).1).2
        · have e : (st s (n + 1)).1 = (st s n).1 + (rune s (st s n).1).2 := by rw [st, if_pos hp]
          rcases Nat.lt_or_ge loc (st s (n + 1)).1 with d | d
          · exfalso
            have := rune_cont (s := s) (i := (st s n).1) (r := (rune s (st s n).1).1) (k := (rune s (st s n).1).2) rfl hp.2 (loc - (st s n).1) (by omega) (by omega)
            rw [show (st s n).1 + (loc - (st s n).1) = loc by omega] at this
            have := st_le s (n + 1)
            exact hb ⟨by omega, by assumption⟩
          · exact ⟨n + 1, by omega⟩
        · rw [st, if_neg hp] at h
          omega
      · exact ih c
  exact key N (by omega)
/-- The reference counts on a prefix as the package does on the whole. -/
theorem place_point (s : ByteArray) (hw : wf s 0 = true) (n : Nat) (hr : rounded s (st s n).1 = true) : placeOf s (st s n).1 = (st s n).2 := by
  obtain ⟨loc, hloc⟩ : ∃ loc, loc = (st s n).1 := ⟨_, rfl⟩
  rw [← hloc] at hr ⊢
  have hls : loc ≤ s.size := by rw [hloc]; exact st_le s n
  obtain ⟨P, hP⟩ : ∃ P, P = s.extract 0 loc := ⟨_, rfl⟩
  obtain ⟨T, hT⟩ : ∃ T, T = s.extract loc s.size := ⟨_, rfl⟩
  have hPs : P.size = loc := by rw [hP, ByteArray.size_extract]; omega
  have hPT : s = P ++ T := by
    rw [hP, hT]
    apply ByteArray.ext
    rw [ByteArray.data_append, ByteArray.data_extract, ByteArray.data_extract, Array.extract_append_extract]
    have h1 : min 0 loc = 0 := by omega
    have h2 : max loc s.size = s.size := by omega
    rw [h1, h2]
    exact (Array.extract_eq_self_of_le (Nat.le_refl _)).symm
  have hby : ∀ j, j < P.size → byt s j = byt P j := by
    intro j hj
    have := byt_left P T j hj
    rw [← hPT] at this
    exact this
  have key : ∀ d m, loc - (st s m).1 = d → m ≤ n → wf P (st s m).1 = true ∧ adv P (st s m).1 (st s m).2 = (st s n).2 := by
    intro d
    induction d using Nat.strongRecOn with
    | _ d ih =>
      intro m hd hm
      rcases Nat.lt_or_ge (st s m).1 loc with c | c
      · have hmn : m < n := by
          rcases Nat.lt_or_ge m n with x | x
          · exact x
          · have : m = n := by omega
            rw [this, ← hloc] at c; omega
        have hws : wf s (st s m).1 = true := by
          have : ∀ k, wf s (st s k).1 = true := by
            intro k
            induction k with
            | zero => exact hw
            | succ k ihk =>
              by_cases hp : (st s k).1 < s.size ∧ 0 < (rune s (st s k).1).2
              · have e : (st s (k + 1)).1 = (st s k).1 + (rune s (st s k).1).2 := by rw [st, if_pos hp]
                rw [e, ← wf_next hp.1 hp.2]; exact ihk
              · rw [st, if_neg hp]; exact ihk
          exact this m
        have hp := wf_pos (by omega) hws
        have hlt : (st s m).1 < s.size := by omega
        obtain ⟨r, k, hx⟩ : ∃ r k, rune s (st s m).1 = (r, k) := ⟨_, _, rfl⟩
        have e1 : st s (m + 1) = ((st s m).1 + k, Runes.stepG s (st s m).1 (r, k) (st s m).2) := by rw [st, if_pos ⟨hlt, hp⟩, hx]
        rw [hx] at hp
        have hk : 0 < k := hp
        have hle : (st s m).1 + k ≤ loc := by
          have := (st_mono s (m + 1) n (by omega)).1
          rw [e1, ← hloc] at this
          exact this
        have hrp : rune P (st s m).1 = (r, k) := rune_pre P T _ r k (by rw [← hPT]; exact hx) hk (by omega)
        have ih1 := ih (loc - (st s (m + 1)).1) (by rw [e1]; simp only; omega) (m + 1) rfl (by omega)
        rw [e1] at ih1
        simp only at ih1
        have hstep : Runes.stepG P (st s m).1 (r, k) (st s m).2 = Runes.stepG s (st s m).1 (r, k) (st s m).2 := by
          unfold Runes.stepG
          simp only
          have hiff : (r = 13 ∧ (st s m).1 + k < P.size ∧ byt P ((st s m).1 + k) = 10) ↔ (r = 13 ∧ (st s m).1 + k < s.size ∧ byt s ((st s m).1 + k) = 10) := by
            constructor
            · rintro ⟨h1, h2, h3⟩
              refine ⟨h1, by omega, ?_⟩
              rw [hby _ h2]; exact h3
            · rintro ⟨h1, h2, h3⟩
              rcases Nat.lt_or_ge ((st s m).1 + k) loc with y | y
              · refine ⟨h1, by omega, ?_⟩
                rw [hby _ (by omega)] at h3; exact h3
              · exfalso
                have hro := rune_pos hx hk
                have hk1 : k = 1 := hro.2.2.2.2.1.1 (by omega)
                have hb := hro.2.2.2.2.2.2.1 hk1
                have hre : (st s m).1 + k = loc := by omega
                unfold rounded at hr
                have hr' := of_decide_eq_true hr
                rw [hre] at h2 h3
                rcases hr'.2 with z | z | z | z
                · omega
                · omega
                · exact z (by rw [← hre, hk1, Nat.add_sub_cancel, ← hb]; exact h1)
                · exact z h3
          by_cases q : r = 13 ∧ (st s m).1 + k < s.size ∧ byt s ((st s m).1 + k) = 10
          · rw [if_pos q, if_pos (hiff.2 q)]
          · rw [if_neg q, if_neg (fun h => q (hiff.1 h))]
        refine ⟨?_, ?_⟩
        · rw [wf_next (by omega) (by rw [hrp]; exact hk), hrp]; exact ih1.1
        · rw [adv_next (by omega) (by rw [hrp]; exact hk), hrp, hstep]; exact ih1.2
      · have hme : (st s m).1 = (st s n).1 := by
          have := (st_mono s m n hm).1
          omega
        refine ⟨wf_end (by omega), ?_⟩
        rw [adv_end (by omega), st_eq s m n hme]
  obtain ⟨k1, k2⟩ := key (loc - (st s 0).1) 0 rfl (Nat.zero_le _)
  have k2' : adv P 0 (0, 0) = (st s n).2 := k2
  have hap := adv_places P P.size 0 0 0 0 rfl k1 (.inl rfl)
  rw [placeOf, ← hP, ← hap]
  exact k2'
/-- A mark's place in its source. -/
theorem place_lies (s : ByteArray) (hw : wf s 0 = true) (hs : s.size ≤ 100000) (loc : Nat) (hl : loc ≤ s.size) (hr : rounded s loc = true) : Lies2 (table s) loc (placeOf s loc).1 (placeOf s loc).2 := by
  have hr' := of_decide_eq_true (show decide _ = true from hr)
  obtain ⟨n, hn⟩ := point s hw loc hl hr'.1
  have := table_lies s hw hs n
  have hp := place_point s hw n (by rw [hn]; exact hr)
  rw [hn] at this hp
  rw [hp]
  exact this
end Go.Proofs.Ytobhlppdolekoaa.Ch
/- The output's line and column in the builder are the reference's. No walk in sight. -/
namespace Go.Proofs.Ytobhlppdolekoaa.Ch
open Go.RowKit Go.Proofs.Ytobhlppdolekoaa.Aid Go.Proofs.Ytobhlppdolekoaa.Bytes Go.Proofs.Ytobhlppdolekoaa.Runes
set_option linter.unusedVariables false
theorem cover_keeps (a : Ab) : a.cover.st.gl = a.st.gl ∧ a.cover.gcol = a.gcol := by
  unfold Ab.cover
  split
  · exact ⟨rfl, rfl⟩
  · exact ⟨rfl, rfl⟩
theorem cov0_keeps (a : Ab) : a.cov0.st.gl = a.st.gl ∧ a.cov0.gcol = a.gcol := by
  unfold Ab.cov0
  split
  · exact ⟨rfl, rfl⟩
  · exact ⟨rfl, rfl⟩
theorem upd_place (s : ByteArray) (m : Nat) : ∀ (i : Nat) (a : Ab) (l c : Nat), s.size - i = m → a.st.gl = (l : Int) → a.gcol = (c : Int) →
    (Ab.upd s i a).st.gl = ((places s i (l, c)).1 : Int) ∧ (Ab.upd s i a).gcol = ((places s i (l, c)).2 : Int) := by
  induction m using Nat.strongRecOn with
  | _ m ih =>
    intro i a l c hm h1 h2
    by_cases hp : i < s.size ∧ 0 < (rune s i).2
    · rw [upd_next hp.1 hp.2, places_next hp.1 hp.2]
      generalize hx : rune s i = x at *
      obtain ⟨r, n⟩ := x
      have hlt : s.size - (i + n) < m := by have := hp.1; have := hp.2; simp only at *; omega
      unfold Ab.step stepS
      simp only
      by_cases hcr : r = 13 ∧ i + n < s.size ∧ byt s (i + n) = 10
      · rw [if_pos hcr, if_pos hcr]
        exact ih _ hlt (i + n) a l c rfl h1 h2
      · rw [if_neg hcr, if_neg hcr]
        by_cases hl : lineEnd r = true
        · rw [if_pos hl, if_pos hl]
          refine ih _ hlt (i + n) a.cover.line (l + 1) 0 rfl ?_ rfl
          show a.cover.st.gl + 1 = _
          rw [(cover_keeps a).1, h1]
          rfl
        · rw [if_neg hl, if_neg hl]
          by_cases hb : 65535 < r
          · rw [if_pos hb, if_pos hb]
            refine ih _ hlt (i + n) { a with gcol := a.gcol + 2 } l (c + 2) rfl h1 ?_
            show a.gcol + 2 = _
            rw [h2]; rfl
          · rw [if_neg hb, if_neg hb]
            refine ih _ hlt (i + n) { a with gcol := a.gcol + 1 } l (c + 1) rfl h1 ?_
            show a.gcol + 1 = _
            rw [h2]; rfl
    · rw [Ab.upd, dif_neg hp, places, dif_neg hp]
      exact ⟨h1, h2⟩
/-- Behind a text's next piece the place is the whole's. -/
theorem places_two (S Z : ByteArray) (hs : wf S 0 = true) (hu : Whole S Z) : places (S ++ Z) 0 (0, 0) = places Z 0 (places S 0 (0, 0)) := by
  rw [places_left S Z hu S.size 0 _ rfl (Nat.zero_le _) hs]
  have h1 := places_right S Z Z.size 0 (places S 0 (0, 0)) rfl
  rw [Nat.add_zero] at h1
  exact h1
end Go.Proofs.Ytobhlppdolekoaa.Ch
/- Pieces of a text between rounded places. No walk in sight. -/
namespace Go.Proofs.Ytobhlppdolekoaa.Ch
open Go.RowKit Go.Proofs.Ytobhlppdolekoaa.Aid Go.Proofs.Ytobhlppdolekoaa.Bytes Go.Proofs.Ytobhlppdolekoaa.Runes
set_option linter.unusedVariables false
theorem wf_right (s t : ByteArray) (m : Nat) : ∀ i, t.size - i = m → wf (s ++ t) (s.size + i) = wf t i := by
  induction m using Nat.strongRecOn with
  | _ m ih =>
    intro i hm
    have hsz : (s ++ t).size = s.size + t.size := ByteArray.size_append
    by_cases h : i < t.size
    · by_cases h' : 0 < (rune t i).2
      · rw [wf_next h h', wf_next (by omega) (by rw [rune_right]; exact h'), rune_right, Nat.add_assoc]
        exact ih (t.size - (i + (rune t i).2)) (by omega) _ rfl
      · rw [wf_no h (by omega), wf_no (by omega) (by rw [rune_right]; omega)]
    · rw [wf_end h, wf_end (by omega)]
/-- A place where a code point begins, not within CR LF. -/
def Pt (s : ByteArray) (i : Nat) : Prop := (∃ n, (st s n).1 = i) ∧ (i = 0 ∨ i = s.size ∨ byt s (i - 1) ≠ 13 ∨ byt s i ≠ 10)
theorem Pt.zero (s : ByteArray) : Pt s 0 := ⟨⟨0, rfl⟩, .inl rfl⟩
theorem Pt.of {s : ByteArray} {i : Nat} (hw : wf s 0 = true) (hi : i ≤ s.size) (hr : rounded s i = true) : Pt s i := by
  have hr' := of_decide_eq_true (show decide _ = true from hr)
  exact ⟨point s hw i hi hr'.1, hr'.2⟩
theorem rounded_end (s : ByteArray) : rounded s s.size = true := by
  unfold rounded
  exact decide_eq_true ⟨fun h => absurd h.1 (Nat.lt_irrefl _), .inr (.inl rfl)⟩
theorem rounded_zero (s : ByteArray) (hw : wf s 0 = true) : rounded s 0 = true := by
  unfold rounded
  refine decide_eq_true ⟨fun h => ?_, .inl rfl⟩
  have hp := wf_pos h.1 hw
  have hg := rune_good (s := s) (i := 0) (r := (rune s 0).1) (k := (rune s 0).2) rfl hp
  rw [decode_eq] at hg
  have h2 := h.2
  rw [if_neg (by omega), if_neg (by omega), if_neg (by omega), if_neg (by omega)] at hg
  exact hg rfl
theorem pieces (s : ByteArray) (i j : Nat) (h : i ≤ j) (hj : j ≤ s.size) : s.extract 0 i ++ s.extract i j = s.extract 0 j := by
  apply ByteArray.ext
  rw [ByteArray.data_append, ByteArray.data_extract, ByteArray.data_extract, ByteArray.data_extract, Array.extract_append_extract]
  have h1 : min 0 i = 0 := by omega
  have h2 : max i j = j := by omega
  rw [h1, h2]
theorem wf_st (s : ByteArray) (hw : wf s 0 = true) : ∀ k, wf s (st s k).1 = true := by
  intro k
  induction k with
  | zero => exact hw
  | succ k ihk =>
    by_cases hp : (st s k).1 < s.size ∧ 0 < (rune s (st s k).1).2
    · have e : (st s (k + 1)).1 = (st s k).1 + (rune s (st s k).1).2 := by rw [st, if_pos hp]
      rw [e, ← wf_next hp.1 hp.2]; exact ihk
    · rw [st, if_neg hp]; exact ihk
/-- A prefix up to a point is well formed behind each point. -/
theorem wf_pre (s : ByteArray) (hw : wf s 0 = true) (n : Nat) : ∀ d m, (st s n).1 - (st s m).1 = d → wf (s.extract 0 (st s n).1) (st s m).1 = true := by
  obtain ⟨j, hj⟩ : ∃ j, j = (st s n).1 := ⟨_, rfl⟩
  rw [← hj]
  have hjs : j ≤ s.size := by rw [hj]; exact st_le s n
  have hPs : (s.extract 0 j).size = j := by rw [ByteArray.size_extract]; omega
  have hPT : s.extract 0 j ++ s.extract j s.size = s := by rw [pieces s j s.size hjs (Nat.le_refl _), extract_all]
  intro d
  induction d using Nat.strongRecOn with
  | _ d ih =>
    intro m hd
    rcases Nat.lt_or_ge (st s m).1 j with c | c
    · have hp := wf_pos (by omega) (wf_st s hw m)
      have hlt : (st s m).1 < s.size := by omega
      obtain ⟨r, k, hx⟩ : ∃ r k, rune s (st s m).1 = (r, k) := ⟨_, _, rfl⟩
      have e1 : (st s (m + 1)).1 = (st s m).1 + k := by rw [st, if_pos ⟨hlt, hp⟩, hx]
      rw [hx] at hp
      have hk : 0 < k := hp
      have hle : (st s m).1 + k ≤ j := by
        rw [← e1]
        rcases Nat.lt_or_ge m n with y | y
        · rw [hj]; exact (st_mono s (m + 1) n y).1
        · have := (st_mono s n m y).1
          omega
      have hrp : rune (s.extract 0 j) (st s m).1 = (r, k) := rune_pre _ (s.extract j s.size) _ r k (by rw [hPT]; exact hx) hk (by omega)
      rw [wf_next (by omega) (by rw [hrp]; exact hk), hrp]
      have := ih (j - (st s (m + 1)).1) (by rw [e1]; omega) (m + 1) rfl
      rw [e1] at this
      exact this
    · exact wf_end (by omega)
structure Piece (s : ByteArray) (i j : Nat) : Prop where
  cat : s.extract 0 i ++ s.extract i j = s.extract 0 j
  left : (s.extract 0 i).size = i
  right : (s.extract i j).size = j - i
  wf : Runes.wf (s.extract i j) 0 = true
  whole : Whole (s.extract 0 i) (s.extract i j)
  place : placeOf s j = places (s.extract i j) 0 (placeOf s i)
theorem piece {s : ByteArray} (hw : wf s 0 = true) {i j : Nat} (h : i ≤ j) (hj : j ≤ s.size) (hi : Pt s i) (hjp : Pt s j) : Piece s i j := by
  have hc := pieces s i j h hj
  have hl : (s.extract 0 i).size = i := by rw [ByteArray.size_extract]; omega
  have hr : (s.extract i j).size = j - i := by rw [ByteArray.size_extract]; omega
  obtain ⟨⟨n, hn⟩, hi2⟩ := hi
  obtain ⟨⟨m, hm⟩, _⟩ := hjp
  have hP := wf_pre s hw m _ n rfl
  have hS := wf_pre s hw n _ 0 rfl
  rw [hm, hn, ← hc] at hP
  rw [hn] at hS
  have hS : wf (s.extract 0 i) 0 = true := hS
  have hz := wf_right (s.extract 0 i) (s.extract i j) _ 0 rfl
  rw [Nat.add_zero, hl] at hz
  have hPT : s.extract 0 j ++ s.extract j s.size = s := by rw [pieces s j s.size hj (Nat.le_refl _), extract_all]
  have hjs : (s.extract 0 j).size = j := by rw [ByteArray.size_extract]; omega
  have hwh : Whole (s.extract 0 i) (s.extract i j) := by
    rintro ⟨h1, h2, h3, h4⟩
    rw [hl] at h1 h2
    rw [hr] at h3
    have e1 : byt s (i - 1) = byt (s.extract 0 i) (i - 1) := by
      have a1 := byt_left (s.extract 0 j) (s.extract j s.size) (i - 1) (by omega)
      rw [hPT] at a1
      have a2 := byt_left (s.extract 0 i) (s.extract i j) (i - 1) (by omega)
      rw [hc] at a2
      rw [a1, a2]
    have e2 : byt s i = byt (s.extract i j) 0 := by
      have a1 := byt_left (s.extract 0 j) (s.extract j s.size) i (by omega)
      rw [hPT] at a1
      have a2 := byt_right (s.extract 0 i) (s.extract i j) 0
      rw [hc, hl, Nat.add_zero] at a2
      rw [a1, a2]
    rcases hi2 with k | k | k | k
    · omega
    · omega
    · exact k (e1.trans h2)
    · exact k (e2.trans h4)
  refine ⟨hc, hl, hr, by rw [← hz]; exact hP, hwh, ?_⟩
  unfold placeOf
  rw [← hc]
  exact places_two _ _ hS hwh
/-- Places go on. -/
theorem place_lt {s : ByteArray} (hw : wf s 0 = true) {i j : Nat} (h : i < j) (hj : j ≤ s.size) (hi : rounded s i = true) (hjr : rounded s j = true) : lt2 (placeOf s i) (placeOf s j) := by
  obtain ⟨n, hn⟩ := (Pt.of hw (by omega) hi).1
  obtain ⟨m, hm⟩ := (Pt.of hw hj hjr).1
  have e1 := place_point s hw n (by rw [hn]; exact hi)
  have e2 := place_point s hw m (by rw [hm]; exact hjr)
  rw [hn] at e1
  rw [hm] at e2
  rw [e1, e2]
  exact st_lt s n m (by omega)
theorem place_zero (s : ByteArray) : placeOf s 0 = (0, 0) := by
  unfold placeOf
  rw [extract_zero]
  exact places_end (by decide)
end Go.Proofs.Ytobhlppdolekoaa.Ch
