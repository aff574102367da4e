/- A builder with its table of lines and its names. No walk in sight. -/
import Derived.Test.YtobhlppdolekoaaChL
import Derived.Test.YtobhlppdolekoaaChM
import Derived.Test.YtobhlppdolekoaaChF
namespace Go.Proofs.Ytobhlppdolekoaa.Ch
open Go.RowKit Go.Proofs.Ytobhlppdolekoaa.Aid Go.Proofs.Ytobhlppdolekoaa.Bytes Go.Proofs.Ytobhlppdolekoaa.Runes
set_option linter.unusedVariables false
/-- A line in memory. -/
structure LineAt (w : World) (B g gt i : Nat) (ln : Ln) : Prop where
  cols : ∃ v, w.cell? ⟨gt, i * 3, none⟩ = some v ∧ match ln.cols with
    | none => v = .slice none 0 0
    | some l => ∃ k c, v = .slice (some ⟨k, 0, none⟩) l.length c ∧ (k < B ∧ k ≠ g) ∧ ∀ (j : Nat) x, l[j]? = some x → w.cell? ⟨k, j, none⟩ = some (.int .i32 x)
  first : w.cell? ⟨gt, i * 3 + 1, none⟩ = some (.int .i32 ln.first)
  start : w.cell? ⟨gt, i * 3 + 2, none⟩ = some (.int .i32 ln.start)
/-- A table in memory, below B, not in block g. -/
def Lines (w : World) (B g : Nat) (T : Value) (TL : List Ln) : Prop := ∃ gt ct, T = .slice (some ⟨gt, 0, none⟩) TL.length ct ∧ (gt < B ∧ gt ≠ g) ∧ ∀ (i : Nat) ln, TL[i]? = some ln → LineAt w B g gt i ln
theorem LineAt.bel {w w' : World} {B g gt i : Nat} {ln : Ln} (h : LineAt w B g gt i ln) (hg : gt < B ∧ gt ≠ g) (hb : Bel B g w w') : LineAt w' B g gt i ln := by
  obtain ⟨⟨v, h1, h2⟩, h3, h4⟩ := h
  refine ⟨⟨v, hb.cell hg.1 hg.2 h1, ?_⟩, hb.cell hg.1 hg.2 h3, hb.cell hg.1 hg.2 h4⟩
  cases hc : ln.cols with
  | none => rw [hc] at h2; exact h2
  | some l =>
    rw [hc] at h2
    obtain ⟨k, c, e, hk, hx⟩ := h2
    exact ⟨k, c, e, hk, fun j x hj => hb.cell hk.1 hk.2 (hx j x hj)⟩
theorem Lines.bel {w w' : World} {B g : Nat} {T : Value} {TL : List Ln} (h : Lines w B g T TL) (hb : Bel B g w w') : Lines w' B g T TL := by
  obtain ⟨gt, ct, e, hg, hx⟩ := h
  exact ⟨gt, ct, e, hg, fun i ln hi => (hx i ln hi).bel hg hb⟩
theorem tcells_get (D : List Ln) : ∀ (cs : List Value) (i : Nat) ln v, D.length = cs.length → D[i]? = some ln → cs[i]? = some v →
    (tcells D cs)[i * 3]? = some v ∧ (tcells D cs)[i * 3 + 1]? = some (.int .i32 ln.first) ∧ (tcells D cs)[i * 3 + 2]? = some (.int .i32 ln.start) := by
  induction D with
  | nil => intro cs i ln v _ h; simp at h
  | cons x xs ih =>
    intro cs i ln v hl h1 h2
    cases cs with
    | nil => simp at h2
    | cons y ys =>
      have e : tcells (x :: xs) (y :: ys) = y :: .int .i32 x.first :: .int .i32 x.start :: tcells xs ys := rfl
      cases i with
      | zero =>
        simp at h1 h2
        subst h1 h2
        rw [e]
        exact ⟨rfl, rfl, rfl⟩
      | succ i =>
        have := ih ys i ln v (by simpa using hl) (by simpa using h1) (by simpa using h2)
        rw [e, show (i + 1) * 3 = i * 3 + 3 by omega]
        exact this
theorem Told.lines {w w' : World} {B0 B g0 : Nat} {tv : Value} {D : List Ln} {cs : List Value} (h : Told w B0 tv D cs) (h0 : 0 < D.length) (hB : w.heap.size ≤ B) (hg : ∀ k, B0 ≤ k → k < w.heap.size → k ≠ g0) : Lines w B g0 tv D := by
  obtain ⟨A, c, e, hr⟩ := own_form h.row
  obtain ⟨g, e1, hge, hlt, _⟩ := hr 0 (by omega)
  subst e1
  refine ⟨g, c, e, ⟨by omega, hg g hge hlt⟩, fun i ln hi => ?_⟩
  have hil : i < D.length := by
    rcases Nat.lt_or_ge i D.length with h' | h'
    · exact h'
    · rw [List.getElem?_eq_none h'] at hi; cases hi
  have hcell : ∀ j u, j < D.length * 3 → (tcells D cs)[j]? = some u → w.cell? ⟨g, j, none⟩ = some u := by
    intro j u hj hu
    obtain ⟨g', e2, _, _, hc⟩ := hr j hj
    injection e2 with e2
    injection e2 with e2
    subst e2
    rw [hc, hu]
  obtain ⟨v, hv⟩ : ∃ v, cs[i]? = some v := ⟨_, List.getElem?_eq_getElem (by rw [← h.len]; exact hil)⟩
  obtain ⟨g1, g2, g3⟩ := tcells_get D cs i ln v h.len hi hv
  have hcol := h.cols i ln v hi hv
  refine ⟨⟨v, hcell _ _ (by omega) g1, ?_⟩, hcell _ _ (by omega) g2, hcell _ _ (by omega) g3⟩
  cases hc : ln.cols with
  | none => rw [hc] at hcol; exact hcol
  | some l =>
    rw [hc] at hcol
    obtain ⟨⟨k, c', e', hk0, hk⟩, hrow⟩ := hcol
    refine ⟨k, c', e', ⟨by omega, hg k hk0 hk⟩, fun j x hj => ?_⟩
    obtain ⟨A2, c2, e2, hr2⟩ := own_form hrow
    have hjl : j < l.length := by
      rcases Nat.lt_or_ge j l.length with h' | h'
      · exact h'
      · rw [List.getElem?_eq_none h'] at hj; cases hj
    obtain ⟨g', e3, _, _, hc2⟩ := hr2 j (by omega)
    rw [e'] at e2
    injection e2 with e2
    have e4 := e2.trans e3
    injection e4 with e4
    injection e4 with e4
    subst e4
    rw [hc2, icells, List.getElem?_map, hj]
    rfl
/-- Which column a place has in its line. -/
def ColAt (ln : Ln) (loc C : Nat) : Prop := match ln.cols with
  | none => C = loc - ln.start
  | some l => if ln.first ≤ loc - ln.start then l[loc - ln.start - ln.first]? = some C else C = loc - ln.start
/-- Where a place lies. -/
structure Lies2 (TL : List Ln) (loc L C : Nat) : Prop where
  find : ∀ (j : Nat) a, TL[j]? = some a → (a.start ≤ loc ↔ j ≤ L)
  col : ∃ ln, TL[L]? = some ln ∧ ColAt ln loc C
  first : ∀ (j : Nat) a, TL[j]? = some a → a.first ≤ 100000
/-- The mapping before, ahead of a mapping that is not at the line's begin. -/
def Ab.cov0 (a : Ab) : Ab := if a.ls = false ∧ 0 < a.gcol ∧ a.hp = true then a.seg a.cov else a
/-- A mapping without a name. -/
def Ab.spot (a : Ab) (L C : Nat) : Sm := ⟨a.st.gl, a.gcol, 0, L, C, 0, false⟩
def Ab.mark (a : Ab) (q : Sm) : Ab := { a.seg q with ls := true }
theorem Ab.Lim.cov0 {a : Ab} {n : Nat} (h : a.Lim n) (hn : n < 1000000) : a.cov0.Lim (n + 1) := by
  unfold Ab.cov0
  split
  · rename_i hc
    have := h.cover hn
    rw [Ab.cover, if_pos ⟨hc.1, hc.2.2⟩] at this
    exact this
  · exact h.mono (Nat.le_succ _)
theorem Ab.Lim.mark {a : Ab} {n : Nat} (h : a.Lim n) (hn : n < 1000000) {L C : Nat} (hL : L ≤ 1000000) (hC : C ≤ 1000000) {ns : List ByteArray} {s : ByteArray} {q : Sm} (hq : Named ns s (a.spot L C) q) (hns : ns.length ≤ 1000000) : (a.mark q).Lim (n + 1) := by
  have hs : (a.seg q).Lim (n + 1) := by
    rcases hq with ⟨_, rfl⟩ | ⟨_, i, hi, rfl⟩
    · exact h.seg hn _ rfl h.gcol rfl ⟨Int.natCast_nonneg _, by show (L : Int) ≤ _; omega⟩ ⟨Int.natCast_nonneg _, by show (C : Int) ≤ _; omega⟩ ⟨Int.le_refl _, by show (0 : Int) ≤ _; omega⟩
    · have hil : i < ns.length := by
        rcases Nat.lt_or_ge i ns.length with h' | h'
        · exact h'
        · rw [List.getElem?_eq_none h'] at hi; cases hi
      exact h.seg hn _ rfl h.gcol rfl ⟨Int.natCast_nonneg _, by show (L : Int) ≤ _; omega⟩ ⟨Int.natCast_nonneg _, by show (C : Int) ≤ _; omega⟩ ⟨Int.natCast_nonneg _, by show (i : Int) ≤ _; omega⟩
  exact ⟨hs.len, hs.byte, hs.gl, hs.gc, hs.src, hs.ol, hs.oc, hs.nm, hs.gcol⟩
/-- The builder between two marks. -/
structure Built (w : World) (B g bm : Nat) (d : Bd) (a : Ab) (v : Value) (fo : Int) (ns : List ByteArray) (TL : List Ln) (n : Nat) : Prop where
  cells : Blk w g 83 (d.put a v fo).cells
  buf : Buf w B v a.l
  nms : Nms w B bm v d.q d.asc ns
  map : d.m = .map (some bm)
  lines : Lines w B g d.T TL
  lim : a.Lim n
  B : B ≤ w.heap.size
end Go.Proofs.Ytobhlppdolekoaa.Ch
