/- Tables of lines: where each begins, and the columns behind its first byte that is no ASCII. No walk in sight. -/
import Derived.Test.YtobhlppdolekoaaChK
import Derived.Test.YtobhlppdolekoaaBytes
namespace Go.Proofs.Ytobhlppdolekoaa.Ch
open Go.RowKit Go.Proofs.Ytobhlppdolekoaa.Aid Go.Proofs.Ytobhlppdolekoaa.Bytes Go.Proofs.Ytobhlppdolekoaa.Runes
set_option linter.unusedVariables false
/-- A line. -/
structure Ln where
  start : Nat
  first : Nat
  cols : Option (List Nat)
/-- A table under way. -/
structure Tb where
  D : List Ln
  lb : Nat
  cb : Nat
  c : Nat
  f : Nat
  cols : Option (List Nat)
def Tb.ln (t : Tb) : Ln := ⟨t.lb, t.f, t.cols⟩
def Tb.start (t : Tb) (i : Nat) : Tb := if t.c = 0 then { t with lb := i } else t
def Tb.wide (t : Tb) (i r : Nat) : Tb := if 127 < r ∧ t.cols = none then { t with cb := i - t.lb, f := i - t.lb, cols := some [] } else t
def Tb.fill (t : Tb) (i : Nat) : Tb := match t.cols with
  | none => t
  | some l => { t with cols := some (l ++ List.replicate (i - t.lb + 1 - t.cb) t.c), cb := max t.cb (i - t.lb + 1) }
def Tb.count (s : ByteArray) (i : Nat) (x : Nat × Nat) (t : Tb) : Tb :=
  if x.1 = 13 ∧ i + x.2 < s.size ∧ byt s (i + x.2) = 10 then { t with c := t.c + 1 }
  else if lineEnd x.1 = true then ⟨t.D ++ [t.ln], t.lb, 0, 0, 0, none⟩
  else if 65535 < x.1 then { t with c := t.c + 2 } else { t with c := t.c + 1 }
def Tb.step (s : ByteArray) (i : Nat) (x : Nat × Nat) (t : Tb) : Tb := (((t.start i).wide i x.1).fill i).count s i x
def Tb.run (s : ByteArray) (i : Nat) (t : Tb) : Tb := if h : i < s.size ∧ 0 < (rune s i).2 then Tb.run s (i + (rune s i).2) (t.step s i (rune s i)) else t
termination_by s.size - i
decreasing_by exact wf_dec h.1 h.2
theorem Tb.run_end {s : ByteArray} {i : Nat} {t : Tb} (h : ¬ i < s.size) : Tb.run s i t = t := by rw [Tb.run, dif_neg (fun k => h k.1)]
theorem Tb.run_next {s : ByteArray} {i : Nat} {t : Tb} (h : i < s.size) (h' : 0 < (rune s i).2) : Tb.run s i t = Tb.run s (i + (rune s i).2) (t.step s i (rune s i)) := by rw [Tb.run, dif_pos ⟨h, h'⟩]
def Tb.last (s : ByteArray) (t : Tb) : List Ln := ((t.start s.size).fill s.size).D ++ [((t.start s.size).fill s.size).ln]
def Tb.new : Tb := ⟨[], 0, 0, 0, 0, none⟩
/-- The table of a text. -/
def table (s : ByteArray) : List Ln := Tb.last s (Tb.run s 0 Tb.new)
/-- How great its numbers are. -/
structure Tb.Lim (t : Tb) (i : Nat) : Prop where
  lb : t.lb ≤ i
  cb : t.cb ≤ i
  c : t.c ≤ 2 * i
  f : t.f ≤ i
  D : t.D.length ≤ i
  cols : ∀ l, t.cols = some l → l.length ≤ t.cb
  none : t.cols = none → t.cb = 0
theorem Tb.Lim.start {t : Tb} {i : Nat} (h : t.Lim i) : (t.start i).Lim i := by
  unfold Tb.start
  split
  · exact ⟨Nat.le_refl _, h.cb, h.c, h.f, h.D, h.cols, h.none⟩
  · exact h
theorem Tb.Lim.wide {t : Tb} {i : Nat} (h : t.Lim i) (r : Nat) : (t.wide i r).Lim i := by
  unfold Tb.wide
  split
  · exact ⟨h.lb, Nat.sub_le _ _, h.c, Nat.sub_le _ _, h.D, fun l hl => by injection hl with hl; rw [← hl]; exact Nat.zero_le _, fun h => by cases h⟩
  · exact h
/-- Behind the filling. -/
structure Tb.Lim1 (t : Tb) (i : Nat) : Prop where
  lb : t.lb ≤ i
  cb : t.cb ≤ i + 1
  c : t.c ≤ 2 * i
  f : t.f ≤ i
  D : t.D.length ≤ i
  cols : ∀ l, t.cols = some l → l.length ≤ t.cb
  none : t.cols = none → t.cb = 0
theorem Tb.Lim.fill {t : Tb} {i : Nat} (h : t.Lim i) : (t.fill i).Lim1 i := by
  unfold Tb.fill
  cases hc : t.cols with
  | none => exact ⟨h.lb, Nat.le_succ_of_le h.cb, h.c, h.f, h.D, h.cols, h.none⟩
  | some l =>
    have h1 := h.cols l hc
    have h2 := h.cb
    have h3 := h.lb
    refine ⟨h.lb, ?_, h.c, h.f, h.D, fun l' hl => ?_, fun h => by cases h⟩
    · show max t.cb (i - t.lb + 1) ≤ i + 1
      omega
    · injection hl with hl
      rw [← hl, List.length_append, List.length_replicate]
      show _ ≤ max t.cb (i - t.lb + 1)
      omega
theorem Tb.Lim1.count {t : Tb} {i : Nat} (h : t.Lim1 i) (s : ByteArray) (x : Nat × Nat) (hx : 0 < x.2) : (t.count s i x).Lim (i + x.2) := by
  obtain ⟨h1, h2, h3, h4, h5, h6, h7⟩ := h
  unfold Tb.count
  split
  · exact ⟨by show t.lb ≤ _; omega, by show t.cb ≤ _; omega, by show t.c + 1 ≤ _; omega, by show t.f ≤ _; omega, by show t.D.length ≤ _; omega, h6, h7⟩
  split
  · refine ⟨by show t.lb ≤ _; omega, Nat.zero_le _, Nat.zero_le _, Nat.zero_le _, ?_, (fun l hl => by cases hl), fun _ => rfl⟩
    show (t.D ++ [t.ln]).length ≤ _
    rw [List.length_append, List.length_singleton]
    omega
  split
  · exact ⟨by show t.lb ≤ _; omega, by show t.cb ≤ _; omega, by show t.c + 2 ≤ _; omega, by show t.f ≤ _; omega, by show t.D.length ≤ _; omega, h6, h7⟩
  · exact ⟨by show t.lb ≤ _; omega, by show t.cb ≤ _; omega, by show t.c + 1 ≤ _; omega, by show t.f ≤ _; omega, by show t.D.length ≤ _; omega, h6, h7⟩
theorem Tb.Lim.step {t : Tb} {i : Nat} (h : t.Lim i) (s : ByteArray) (x : Nat × Nat) (hx : 0 < x.2) : (t.step s i x).Lim (i + x.2) := ((h.start.wide x.1).fill).count s x hx
theorem Tb.Lim.new : Tb.new.Lim 0 := ⟨Nat.le_refl _, Nat.le_refl _, Nat.le_refl _, Nat.le_refl _, Nat.le_refl _, (fun l hl => by cases hl), fun _ => rfl⟩
/-! ### how a table lies -/
def icells (l : List Nat) : List Value := l.map fun (n : Nat) => Value.int .i32 n
/-- The columns of a line. -/
def ColsIs (w : World) (B : Nat) (v : Value) : Option (List Nat) → Prop
  | none => v = .slice none 0 0
  | some l => (∃ k c, v = .slice (some ⟨k, 0, none⟩) l.length c ∧ B ≤ k ∧ k < w.heap.size) ∧ w.ownsRow B 21 1 v l.length (icells l)
def lcells (ln : Ln) (v : Value) : List Value := [v, .int .i32 ln.first, .int .i32 ln.start]
def tcells (D : List Ln) (cs : List Value) : List Value := (List.zipWith lcells D cs).flatten
theorem tcells_snoc (D : List Ln) (cs : List Value) (ln : Ln) (v : Value) (h : D.length = cs.length) : tcells (D ++ [ln]) (cs ++ [v]) = tcells D cs ++ lcells ln v := by
  simp [tcells, List.zipWith_append h]
/-- The lines that are told. -/
structure Told (w : World) (B : Nat) (tv : Value) (D : List Ln) (cs : List Value) : Prop where
  row : w.ownsRow B 100 3 tv D.length (tcells D cs)
  len : D.length = cs.length
  cols : ∀ (i : Nat) ln v, D[i]? = some ln → cs[i]? = some v → ColsIs w B v ln.cols
theorem ColsIs.kept {w w' : World} {B : Nat} {v : Value} {o : Option (List Nat)} {r : Option Nat} (h : ColsIs w B v o) (hg : w.grownBy w' r) (hr : v.ownBlock = none ∨ v.ownBlock ≠ r) : ColsIs w' B v o := by
  cases o with
  | none => exact h
  | some l =>
    obtain ⟨⟨k, c, e, h1, h2⟩, h3⟩ := h
    exact ⟨⟨k, c, e, h1, Nat.lt_of_lt_of_le h2 hg.size⟩, h3.kept hg hr⟩
theorem ColsIs.keep {w w' : World} {B : Nat} {v : Value} {o : Option (List Nat)} (h : ColsIs w B v o) (hb : Below w.heap.size w w') : ColsIs w' B v o := h.kept (only_of_below hb none) (by cases h' : v.ownBlock <;> simp)
theorem ColsIs.lt {w : World} {B : Nat} {v : Value} {o : Option (List Nat)} (h : ColsIs w B v o) : ∀ k, v.ownBlock = some k → B ≤ k ∧ k < w.heap.size := by
  cases o with
  | none => rw [show v = .slice none 0 0 from h]; intro k hk; cases hk
  | some l => exact h.2.lt
/-- A table under way in memory: v the columns, tv the lines. -/
structure Tabled (w wr : World) (B : Nat) (t : Tb) (v tv : Value) : Prop where
  low : Below w.heap.size w wr
  cur : ColsIs wr B v t.cols
  told : ∃ cs, Told wr B tv t.D cs ∧ ∀ u ∈ cs, u.ownBlock = none ∨ u.ownBlock ≠ v.ownBlock
theorem tcells_ne {w : World} {B : Nat} {v tv : Value} {o : Option (List Nat)} {n : Nat} {xs : List Value} (h : ColsIs w B v o) (ht : w.ownsRow B 100 3 tv n xs) : v.ownBlock = none ∨ v.ownBlock ≠ tv.ownBlock := by
  cases o with
  | none => left; rw [show v = .slice none 0 0 from h]; rfl
  | some l => exact own_row_ne h.2 ht (by decide)
/-- A column more. -/
theorem Tabled.col {w wr w' : World} {B : Nat} {t : Tb} {v v' tv : Value} {l : List Nat} {x : Nat} (h : Tabled w wr B t v tv) (hB : w.heap.size ≤ B) (hBw : B ≤ wr.heap.size) (hl : t.cols = some l) {k c : Nat} (hv : v' = .slice (some ⟨k, 0, none⟩) (l.length + 1) c)
    (hown : w'.ownsRow B 21 1 v' (l.length + 1) (icells l ++ [.int .i32 x])) (hgr : wr.grownBy w' v.ownBlock) (hloc : v.ownBlock = some k ∨ wr.heap.size ≤ k) (cb : Nat) : Tabled w w' B { t with cols := some (l ++ [x]), cb := cb } v' tv := by
  obtain ⟨hlow, hcur, cs, htold, hne⟩ := h
  have hcur' := hcur
  rw [hl] at hcur
  have hvk : v'.ownBlock = some k := by rw [hv]; rfl
  refine ⟨below_of_only hlow (Nat.le_trans hB hBw) hgr (fun g hg => Nat.le_trans hB (hcur'.lt g hg).1), ⟨⟨k, c, by rw [hv, List.length_append]; rfl, (hown.lt k hvk).1, (hown.lt k hvk).2⟩, by simpa [icells] using hown⟩, cs, ⟨htold.row.kept hgr (own_row_ne htold.row hcur.2 (by decide)), htold.len, fun i ln u h1 h2 => (htold.cols i ln u h1 h2).kept hgr (hne u (List.mem_of_getElem? h2))⟩, fun u hu => ?_⟩
  rcases hloc with hloc | hloc
  · rw [hvk, ← hloc]; exact hne u hu
  · obtain ⟨i, hi⟩ := List.getElem?_of_mem hu
    have hlt : i < t.D.length := by
      rcases Nat.lt_or_ge i cs.length with h | h
      · rw [htold.len]; exact h
      · rw [List.getElem?_eq_none h] at hi; cases hi
    have := (htold.cols i _ u (List.getElem?_eq_getElem hlt) hi).lt
    rw [hvk]
    cases hub : u.ownBlock with
    | none => exact .inl rfl
    | some j =>
      right
      intro e
      injection e with e
      have := (this j hub).2
      omega
theorem Tabled.below {w wr w' : World} {B : Nat} {t : Tb} {v tv : Value} (h : Tabled w wr B t v tv) (hb : Below wr.heap.size wr w') : Tabled w w' B t v tv := by
  obtain ⟨hlow, hcur, cs, htold, hne⟩ := h
  exact ⟨hlow.trans (hb.mono hlow.size), hcur.keep hb, cs, ⟨own_keep htold.row hb, htold.len, fun i ln u h1 h2 => (htold.cols i ln u h1 h2).keep hb⟩, hne⟩
theorem Tabled.iter {w wr : World} {B it k k' : Nat} {t : Tb} {v tv : Value} {Z : ByteArray} (h : Tabled w wr B t v tv) (hk : wr.heap[it]? = some (.stringIter Z k)) (hi : w.heap.size ≤ it)
    (hx : ∀ {e : TypeId} {size n : Nat} {v : Value} {xs : List Value}, wr.ownsRow B e size v n xs → some it ≠ v.ownBlock) (gr : wr.grownBy (wr.iterAt it Z k') (some it)) : Tabled w (wr.iterAt it Z k') B t v tv := by
  obtain ⟨hlow, hcur, cs, htold, hne⟩ := h
  have hc : ∀ {u : Value} {o : Option (List Nat)}, ColsIs wr B u o → ColsIs (wr.iterAt it Z k') B u o := fun {u o} h => h.kept gr (by
    cases o with
    | none => left; rw [show u = .slice none 0 0 from h]; rfl
    | some l => exact .inr fun e => hx h.2 e.symm)
  exact ⟨below_of_only hlow hlow.size gr (fun g hg => by injection hg with hg; omega), hc hcur, cs, ⟨htold.row.kept gr (.inr fun e => hx htold.row e.symm), htold.len, fun i ln u h1 h2 => hc (htold.cols i ln u h1 h2)⟩, hne⟩
/-- A line more. -/
theorem Tabled.line {w wr w' : World} {B : Nat} {t t' : Tb} {v tv tv' : Value} {cs : List Value} (hlow : Below w.heap.size w wr) (hcur : ColsIs wr B v t.cols) (htold : Told wr B tv t.D cs) (hB : w.heap.size ≤ B) (hBw : B ≤ wr.heap.size) (hown : w'.ownsRow B 100 3 tv' (t.D.length + 1) (tcells t.D cs ++ lcells t.ln v)) (hgr : wr.grownBy w' tv.ownBlock)
    (hD : t'.D = t.D ++ [t.ln]) (hc : t'.cols = none) : Tabled w w' B t' (.slice none 0 0) tv' := by
  have hk : ∀ {u : Value} {o : Option (List Nat)}, ColsIs wr B u o → ColsIs w' B u o := fun {u o} h => h.kept hgr (tcells_ne h htold.row)
  refine ⟨below_of_only hlow (Nat.le_trans hB hBw) hgr (fun g hg => Nat.le_trans hB (own_below htold.row g hg)), by rw [hc]; rfl, cs ++ [v], ⟨?_, by rw [hD]; simp [htold.len], fun i ln u h1 h2 => ?_⟩, fun u hu => ?_⟩
  · rw [hD, tcells_snoc _ _ _ _ htold.len, List.length_append]
    exact hown
  · rw [hD] at h1
    rcases Nat.lt_or_ge i t.D.length with hi | hi
    · rw [List.getElem?_append_left hi] at h1
      rw [List.getElem?_append_left (by rw [← htold.len]; exact hi)] at h2
      exact hk (htold.cols i ln u h1 h2)
    · rw [List.getElem?_append_right hi] at h1
      rw [List.getElem?_append_right (by rw [← htold.len]; exact hi), ← htold.len] at h2
      have hz : i - t.D.length = 0 := by
        rcases Nat.eq_zero_or_pos (i - t.D.length) with h' | h'
        · exact h'
        · rw [List.getElem?_eq_none (by simp; omega)] at h1; cases h1
      rw [hz] at h1 h2
      simp at h1 h2
      subst h1 h2
      exact hk hcur
  · cases hub : u.ownBlock with
    | none => exact .inl rfl
    | some j => exact .inr (by simp [Value.ownBlock])
theorem ColsIs.slice {w : World} {B : Nat} {v : Value} {o : Option (List Nat)} (h : ColsIs w B v o) : ∃ A n c, v = .slice A n c := by
  cases o with
  | none => exact ⟨none, 0, 0, h⟩
  | some l =>
    obtain ⟨⟨k, c, e, _, _⟩, _⟩ := h
    exact ⟨_, _, _, e⟩
theorem Tabled.same {w wr : World} {B : Nat} {t t' : Tb} {v tv : Value} (h : Tabled w wr B t v tv) (h1 : t'.cols = t.cols) (h2 : t'.D = t.D) : Tabled w wr B t' v tv := ⟨h.low, by rw [h1]; exact h.cur, by rw [h2]; exact h.told⟩
theorem info100 : (Try.prog.info? 100).map (fun i => (i.zero, i.size, i.bytes)) = some (some (.agg #[.slice none 0 0, .int .i32 0, .int .i32 0]), 3, 32) := by kernel_rfl
theorem info21 : (Try.prog.info? 21).map (fun i => (i.zero, i.size, i.bytes)) = some (some (.int .i32 0), 1, 4) := by kernel_rfl
end Go.Proofs.Ytobhlppdolekoaa.Ch
