/- What is written is a text of items. No walk in sight. -/
import Derived.Test.YtobhlppdolekoaaChO
import Derived.Test.YtobhlppdolekoaaChJ
import Derived.Test.YtobhlppdolekoaaChT
import Derived.Test.YtobhlppdolekoaaChY
namespace Go.Proofs.Ytobhlppdolekoaa.Ch
open Go.RowKit Go.Proofs.Ytobhlppdolekoaa.Aid Go.Proofs.Ytobhlppdolekoaa.Bytes Go.Proofs.Ytobhlppdolekoaa.Runes
set_option linter.unusedVariables false
/-- The same six numbers. -/
def Six (x y : Sm) : Prop := x.gl = y.gl ∧ x.gc = y.gc ∧ x.src = y.src ∧ x.ol = y.ol ∧ x.oc = y.oc ∧ x.nm = y.nm
theorem Six.small {x y : Sm} (h : Six x y) (k : y.Small) : x.Small := by
  obtain ⟨h1, h2, h3, h4, h5, h6⟩ := h
  obtain ⟨k1, k2, k3, k4, k5, k6⟩ := k
  constructor <;> omega
structure Its (a : Ab) (l : List It) : Prop where
  text : a.l = itext l
  st : Six (endS zeroS l) a.st
  good : Good zeroS l
theorem vtext_byte (l : List Int) : ∀ b ∈ vtext l, 43 ≤ b ∧ b ≠ 44 ∧ b ≠ 59 := by
  intro b hb
  simp only [vtext, List.mem_flatten, List.mem_map] at hb
  obtain ⟨y, ⟨n, _, rfl⟩, hy⟩ := hb
  have := vlq_mem n b hy
  omega
theorem vtext_ne (s : Sg) : vtext s.nums ≠ [] := by
  have hp := enc_pos (signed s.a)
  intro e
  have := congrArg List.length e
  simp only [vtext, Sg.nums, vlq, txt, List.map_append, List.map_cons, List.flatten_append, List.flatten_cons, List.length_append, List.length_map, List.length_nil] at this
  omega
theorem lastOf_append (a b : List Nat) (h : b ≠ []) : lastOf (a ++ b) = lastOf b := by
  unfold lastOf
  rw [List.getLast?_append]
  cases hb : b.getLast? with
  | none => rw [List.getLast?_eq_none_iff] at hb; exact absurd hb h
  | some x => rfl
theorem last_seg (l : List It) (k : Bool) (s : Sg) : sep (lastOf (itext (l ++ [.seg k s]))) = [44] := by
  have e : itext (l ++ [.seg k s]) = (itext l ++ (if k = true then [44] else [])) ++ vtext s.nums := by
    rw [itext_append]
    simp [itext, It.text]
  rw [e, lastOf_append _ _ (vtext_ne s)]
  have hm : lastOf (vtext s.nums) ∈ vtext s.nums := by
    unfold lastOf
    cases hb : (vtext s.nums).getLast? with
    | none => rw [List.getLast?_eq_none_iff] at hb; exact absurd hb (vtext_ne s)
    | some x => exact List.mem_of_getLast? hb
  have := vtext_byte _ _ hm
  unfold sep
  rw [if_neg]
  rintro (h | h | h) <;> omega
/-- Is there a comma? -/
def comma (c : Nat) : Bool := !decide (c = 0 ∨ c = 59 ∨ c = 34)
theorem sep_comma (c : Nat) : sep c = if comma c = true then [44] else [] := by
  unfold sep comma
  by_cases h : c = 0 ∨ c = 59 ∨ c = 34
  · rw [if_pos h]; simp [h]
  · rw [if_neg h]; simp [h]
theorem ends_snoc (l : List It) (x : It) : endsSeg (l ++ [x]) = x.isSeg := by simp [endsSeg]
theorem list_last {α : Type} (l : List α) : l = [] ∨ ∃ l' x, l = l' ++ [x] := by
  rcases List.eq_nil_or_concat l with h | ⟨l', x, h⟩
  · exact .inl h
  · exact .inr ⟨l', x, by rw [h, List.concat_eq_append]⟩
/-- The item of a mapping. -/
def Ab.item (a : Ab) (q : Sm) : It := .seg (comma (lastOf a.l)) (sgOf a.st q)
theorem go_seg {st : Sm} {a : Ab} {q : Sm} (h : Six st a.st) (hgl : q.gl = a.st.gl) : Six (It.go st (a.item q)) (a.seg q).st := by
  obtain ⟨h1, h2, h3, h4, h5, h6⟩ := h
  unfold Ab.item It.go Ab.seg sgOf Six
  refine ⟨by simp only; omega, by simp only; omega, by simp only; omega, by simp only; omega, by simp only; omega, ?_⟩
  cases hq : q.has
  · simp [h6]
  · simp [h6]; omega
theorem Its.seg {a : Ab} {l : List It} (h : Its a l) (q : Sm) (hp : a.st.Small) (hq : q.Small) (hgl : q.gl = a.st.gl) (hs : (a.seg q).st.Small) : Its (a.seg q) (l ++ [a.item q]) := by
  refine ⟨?_, ?_, ?_⟩
  · rw [itext_append]
    show a.l ++ (sep (lastOf a.l) ++ Ch.seg a.st q) = _
    rw [← h.text, sep_comma, seg_text]
    simp [itext, Ab.item, It.text]
  · rw [endS_append]
    exact go_seg h.st hgl
  · refine good_append _ _ _ h.good ⟨?_, (go_seg h.st hgl).small hs, fun _ y hy => by simp at hy, trivial⟩ ?_
    · intro n hn
      obtain ⟨a1, a2, a3, a4, a5, a6⟩ := hp
      obtain ⟨b1, b2, b3, b4, b5, b6⟩ := hq
      unfold sgOf Sg.nums at hn
      simp only [List.cons_append, List.nil_append, List.mem_cons] at hn
      rcases hn with rfl | rfl | rfl | rfl | hn
      · omega
      · omega
      · omega
      · omega
      · cases hh : q.has
        · rw [hh] at hn; simp at hn
        · rw [hh] at hn
          simp at hn
          omega
    · intro he y hy
      simp at hy
      subst hy
      rcases list_last l with rfl | ⟨l', x, rfl⟩
      · cases he
      · rw [ends_snoc] at he
        cases x with
        | semi => cases he
        | seg k s =>
          have := last_seg l' k s
          rw [← h.text, sep_comma] at this
          unfold Ab.item
          cases hc : comma (lastOf a.l) with
          | true => rfl
          | false => rw [hc] at this; simp at this
theorem Its.line {a : Ab} {l : List It} (h : Its a l) (hs : a.line.st.Small) : Its a.line (l ++ [.semi]) := by
  obtain ⟨h1, h2, h3, h4, h5, h6⟩ := h.st
  have hgo : Six (It.go (endS zeroS l) .semi) a.line.st := ⟨by show _ + 1 = a.st.gl + 1; rw [h1], rfl, h3, h4, h5, h6⟩
  refine ⟨?_, ?_, ?_⟩
  · rw [itext_append]
    show a.l ++ [59] = _
    rw [← h.text]
    rfl
  · rw [endS_append]
    exact hgo
  · exact good_append _ _ _ h.good ⟨trivial, hgo.small hs, (fun h => by cases h), trivial⟩ (fun _ y hy => by simp at hy; subst hy; rfl)
end Go.Proofs.Ytobhlppdolekoaa.Ch
/- The mappings that a builder has written so far. No walk in sight. -/
namespace Go.Proofs.Ytobhlppdolekoaa.Ch
open Go.RowKit Go.Proofs.Ytobhlppdolekoaa.Aid Go.Proofs.Ytobhlppdolekoaa.Bytes Go.Proofs.Ytobhlppdolekoaa.Runes
set_option linter.unusedVariables false
/-- The mapping of a state. -/
def mapOf (q : Sm) : Mp := ⟨q.gl, q.gc, q.src, q.ol, q.oc, if q.has = true then q.nm else -1⟩
/-- What is written tells the mappings D. -/
def Maps (a : Ab) (D : List Mp) : Prop := ∃ l, Its a l ∧ mps zeroS l = D
theorem Maps.new : Maps Ab.new [] := ⟨[], ⟨rfl, ⟨rfl, rfl, rfl, rfl, rfl, rfl⟩, trivial⟩, rfl⟩
theorem Maps.like {a b : Ab} {D : List Mp} (h : Maps a D) (h1 : b.l = a.l) (h2 : b.st = a.st) : Maps b D := by
  obtain ⟨l, hi, hd⟩ := h
  exact ⟨l, ⟨by rw [h1]; exact hi.text, by rw [h2]; exact hi.st, hi.good⟩, hd⟩
theorem Maps.seg {a : Ab} {D : List Mp} (h : Maps a D) (q : Sm) (hp : a.st.Small) (hq : q.Small) (hgl : q.gl = a.st.gl) (hs : (a.seg q).st.Small) : Maps (a.seg q) (D ++ [mapOf q]) := by
  obtain ⟨l, hi, hd⟩ := h
  refine ⟨_, hi.seg q hp hq hgl hs, ?_⟩
  obtain ⟨g1, g2, g3, g4, g5, g6⟩ := go_seg (q := q) hi.st hgl
  rw [mps_append, hd]
  congr 1
  show [mpOf (It.go (endS zeroS l) (a.item q)) (sgOf a.st q).e.isSome] ++ [] = [mapOf q]
  rw [List.append_nil]
  congr 1
  unfold mpOf mapOf
  have e : (sgOf a.st q).e.isSome = q.has := by unfold sgOf; cases q.has <;> rfl
  rw [e, g1, g2, g3, g4, g5, g6]
  unfold Ab.seg
  cases q.has <;> rfl
theorem Maps.line {a : Ab} {D : List Mp} (h : Maps a D) (hs : a.line.st.Small) : Maps a.line D := by
  obtain ⟨l, hi, hd⟩ := h
  refine ⟨_, hi.line hs, ?_⟩
  rw [mps_append, hd]
  simp [mps, It.mp]
/-- The mappings stand in order, ahead of where the output is. -/
structure Sorted (a : Ab) (D : List Mp) : Prop where
  order : InOrder D
  ahead : ∀ m ∈ D, m.line < a.st.gl ∨ (m.line = a.st.gl ∧ m.col ≤ a.gcol ∧ a.ls = true)
theorem inOrder_snoc {D : List Mp} {m : Mp} (h : InOrder D) (hm : ∀ x ∈ D, ¬ (m.line < x.line ∨ (m.line = x.line ∧ m.col < x.col))) : InOrder (D ++ [m]) := by
  intro i a b ha hb
  rcases Nat.lt_or_ge (i + 1) D.length with c | c
  · rw [List.getElem?_append_left (by omega)] at ha
    rw [List.getElem?_append_left c] at hb
    exact h i a b ha hb
  · rcases Nat.lt_or_ge i D.length with d | d
    · rw [List.getElem?_append_left d] at ha
      rw [List.getElem?_append_right c, show i + 1 - D.length = 0 by omega] at hb
      simp at hb
      subst hb
      exact hm a (List.mem_of_getElem? ha)
    · rw [List.getElem?_append_right (by omega), List.getElem?_eq_none (by simp; omega)] at hb
      cases hb
/-- A mapping at the output's place or at the line's begin. -/
theorem Sorted.seg {a : Ab} {D : List Mp} (h : Sorted a D) (q : Sm) (hgl : q.gl = a.st.gl) (hc : (q.gc = a.gcol ∧ 0 ≤ a.gcol) ∨ (a.ls = false ∧ q.gc ≤ a.gcol)) : InOrder (D ++ [mapOf q]) ∧ ∀ m ∈ D ++ [mapOf q], m.line < a.st.gl ∨ (m.line = a.st.gl ∧ m.col ≤ a.gcol) := by
  refine ⟨inOrder_snoc h.order fun x hx => ?_, fun m hm => ?_⟩
  · show ¬ (q.gl < x.line ∨ (q.gl = x.line ∧ q.gc < x.col))
    rcases h.ahead x hx with h1 | ⟨h1, h2, h3⟩
    · omega
    · rcases hc with ⟨c1, _⟩ | ⟨c1, _⟩
      · omega
      · rw [h3] at c1; cases c1
  · rw [List.mem_append] at hm
    rcases hm with hm | hm
    · rcases h.ahead m hm with h1 | ⟨h1, h2, _⟩
      · exact .inl h1
      · exact .inr ⟨h1, h2⟩
    · simp at hm
      subst hm
      right
      refine ⟨hgl, ?_⟩
      show q.gc ≤ a.gcol
      rcases hc with ⟨c1, _⟩ | ⟨_, c1⟩ <;> omega
/-- What the output's update adds: the mapping before, at the begins of lines. -/
structure Adds (a b : Ab) (E : List Mp) : Prop where
  src : b.st.src = a.st.src
  ol : b.st.ol = a.st.ol
  oc : b.st.oc = a.st.oc
  hp : b.hp = a.hp
  gl : a.st.gl ≤ b.st.gl
  each : ∀ x ∈ E, x.name = -1 ∧ x.src = a.st.src ∧ x.ol = a.st.ol ∧ x.oc = a.st.oc ∧ a.hp = true ∧ a.st.gl ≤ x.line ∧ (a.ls = true → a.st.gl < x.line)
  keep : a.ls = true → b.st.gl = a.st.gl → b.ls = true
theorem Adds.refl (a : Ab) : Adds a a [] := ⟨rfl, rfl, rfl, rfl, Int.le_refl _, (fun x h => by cases h), fun h _ => h⟩
theorem Adds.trans {a b c : Ab} {E F : List Mp} (h : Adds a b E) (k : Adds b c F) : Adds a c (E ++ F) := by
  refine ⟨k.src.trans h.src, k.ol.trans h.ol, k.oc.trans h.oc, k.hp.trans h.hp, Int.le_trans h.gl k.gl, fun x hx => ?_, fun hl he => ?_⟩
  · rw [List.mem_append] at hx
    rcases hx with hx | hx
    · exact h.each x hx
    · obtain ⟨h1, h2, h3, h4, h5, h6, h7⟩ := k.each x hx
      refine ⟨h1, h2.trans h.src, h3.trans h.ol, h4.trans h.oc, by rw [← h.hp]; exact h5, Int.le_trans h.gl h6, fun hl => ?_⟩
      have hg := h.gl
      by_cases he : b.st.gl = a.st.gl
      · have := h7 (h.keep hl he)
        omega
      · omega
  · have h1 := h.gl
    have h2 := k.gl
    have h3 : b.st.gl = a.st.gl := by omega
    exact k.keep (h.keep hl h3) (by omega)
/-- The covering mapping. -/
theorem seg_cov {a : Ab} {D : List Mp} {n : Nat} (hm : Maps a D) (ho : Sorted a D) (hl : a.Lim n) (hn : n < 900000) (h1 : a.ls = false) (h2 : a.hp = true) :
    Maps (a.seg a.cov) (D ++ [mapOf a.cov]) ∧ InOrder (D ++ [mapOf a.cov]) ∧ (∀ m ∈ D ++ [mapOf a.cov], m.line < a.st.gl ∨ (m.line = a.st.gl ∧ m.col ≤ a.gcol)) ∧ Adds a (a.seg a.cov) [mapOf a.cov] := by
  have hc := hl.cover (by omega)
  rw [Ab.cover, if_pos ⟨h1, h2⟩] at hc
  obtain ⟨s1, s2⟩ := ho.seg a.cov rfl (.inr ⟨h1, hl.gcol.1⟩)
  refine ⟨hm.seg a.cov (hl.small (by omega)) (hl.cov (by omega)) rfl (hc.small (by omega)), s1, s2, ⟨rfl, rfl, rfl, h2.symm, Int.le_refl _, fun x hx => ?_, fun h => by rw [h1] at h; cases h⟩⟩
  simp at hx
  subst hx
  exact ⟨rfl, rfl, rfl, rfl, h2, Int.le_refl _, fun h => by rw [h1] at h; cases h⟩
theorem step_maps {s : ByteArray} {i : Nat} {x : Nat × Nat} {a : Ab} {D : List Mp} {n : Nat} (hm : Maps a D) (ho : Sorted a D) (hl : a.Lim n) (hn : n < 900000) :
    ∃ E, Maps (a.step s i x) (D ++ E) ∧ Sorted (a.step s i x) (D ++ E) ∧ Adds a (a.step s i x) E := by
  have hls := hl.step (by omega) s i x
  unfold Ab.step at hls ⊢
  by_cases h1 : x.1 = 13 ∧ i + x.2 < s.size ∧ byt s (i + x.2) = 10
  · rw [if_pos h1]
    exact ⟨[], by rw [List.append_nil]; exact hm, by rw [List.append_nil]; exact ho, Adds.refl a⟩
  rw [if_neg h1] at hls ⊢
  by_cases h2 : lineEnd x.1 = true
  · rw [if_pos h2] at hls ⊢
    by_cases h3 : a.ls = false ∧ a.hp = true
    · have e : a.cover = a.seg a.cov := by rw [Ab.cover, if_pos h3]
      obtain ⟨g1, g2, g3, g4⟩ := seg_cov hm ho hl hn h3.1 h3.2
      rw [e] at hls ⊢
      refine ⟨[mapOf a.cov], g1.line (hls.small (by omega)), ⟨g2, fun m hmem => .inl ?_⟩, ⟨g4.src, g4.ol, g4.oc, g4.hp, ?_, g4.each, fun _ h => ?_⟩⟩
      · show m.line < a.st.gl + 1
        rcases g3 m hmem with h | h <;> omega
      · show a.st.gl ≤ a.st.gl + 1
        omega
      · have : a.st.gl + 1 = a.st.gl := h
        omega
    · have e : a.cover = a := by rw [Ab.cover, if_neg h3]
      rw [e] at hls ⊢
      refine ⟨[], by rw [List.append_nil]; exact hm.line (hls.small (by omega)), ⟨by rw [List.append_nil]; exact ho.order, fun m hmem => .inl ?_⟩, ⟨rfl, rfl, rfl, rfl, ?_, (fun x h => by cases h), fun _ h => ?_⟩⟩
      · rw [List.append_nil] at hmem
        show m.line < a.st.gl + 1
        rcases ho.ahead m hmem with h | h <;> omega
      · show a.st.gl ≤ a.st.gl + 1
        omega
      · have : a.st.gl + 1 = a.st.gl := h
        omega
  rw [if_neg h2] at hls ⊢
  have hmove : ∀ k : Int, 0 ≤ k → ∃ E, Maps { a with gcol := a.gcol + k } (D ++ E) ∧ Sorted { a with gcol := a.gcol + k } (D ++ E) ∧ Adds a { a with gcol := a.gcol + k } E := by
    intro k hk
    refine ⟨[], by rw [List.append_nil]; exact hm.like rfl rfl, ⟨by rw [List.append_nil]; exact ho.order, fun m hmem => ?_⟩, ⟨rfl, rfl, rfl, rfl, Int.le_refl _, (fun x h => by cases h), fun h _ => h⟩⟩
    rw [List.append_nil] at hmem
    rcases ho.ahead m hmem with h | ⟨h, h', h''⟩
    · exact .inl h
    · exact .inr ⟨h, by show m.col ≤ a.gcol + k; omega, h''⟩
  by_cases h3 : 65535 < x.1
  · rw [if_pos h3]
    exact hmove 2 (by decide)
  · rw [if_neg h3]
    exact hmove 1 (by decide)
theorem upd_maps (s : ByteArray) (m : Nat) : ∀ (i : Nat) (a : Ab) (D : List Mp) (n : Nat), s.size - i = m → a.Lim n → n + 2 * m < 900000 → Maps a D → Sorted a D →
    ∃ E, Maps (Ab.upd s i a) (D ++ E) ∧ Sorted (Ab.upd s i a) (D ++ E) ∧ Adds a (Ab.upd s i a) E := by
  induction m using Nat.strongRecOn with
  | _ m ih =>
    intro i a D n hm hl hn hM hS
    by_cases hp : i < s.size ∧ 0 < (rune s i).2
    · rw [upd_next hp.1 hp.2]
      obtain ⟨E, h1, h2, h3⟩ := step_maps (s := s) (i := i) (x := rune s i) hM hS hl (by omega)
      obtain ⟨F, k1, k2, k3⟩ := ih (s.size - (i + (rune s i).2)) (by omega) (i + (rune s i).2) _ (D ++ E) (n + 2) rfl (hl.step (by omega) s i _) (by omega) h1 h2
      exact ⟨E ++ F, by rw [← List.append_assoc]; exact k1, by rw [← List.append_assoc]; exact k2, h3.trans k3⟩
    · rw [Ab.upd, dif_neg hp]
      exact ⟨[], by rw [List.append_nil]; exact hM, by rw [List.append_nil]; exact hS, Adds.refl a⟩
end Go.Proofs.Ytobhlppdolekoaa.Ch
/- A mark's mapping. No walk in sight. -/
namespace Go.Proofs.Ytobhlppdolekoaa.Ch
open Go.RowKit Go.Proofs.Ytobhlppdolekoaa.Aid Go.Proofs.Ytobhlppdolekoaa.Bytes Go.Proofs.Ytobhlppdolekoaa.Runes
set_option linter.unusedVariables false
theorem snoc_at {D : List Mp} {gl gcol : Int} (h : InOrder D) (ha : ∀ m ∈ D, m.line < gl ∨ (m.line = gl ∧ m.col ≤ gcol)) (q : Sm) (h1 : q.gl = gl) (h2 : q.gc = gcol) : InOrder (D ++ [mapOf q]) := by
  refine inOrder_snoc h fun x hx => ?_
  show ¬ (q.gl < x.line ∨ (q.gl = x.line ∧ q.gc < x.col))
  rcases ha x hx with h3 | ⟨h3, h4⟩ <;> omega
/-- The covering mapping ahead of a mark's. -/
theorem cov0_maps {a : Ab} {D : List Mp} {n : Nat} (hM : Maps a D) (hS : Sorted a D) (hl : a.Lim n) (hn : n < 900000) :
    ∃ E, Maps a.cov0 (D ++ E) ∧ InOrder (D ++ E) ∧ (∀ m ∈ D ++ E, m.line < a.st.gl ∨ (m.line = a.st.gl ∧ m.col ≤ a.gcol)) ∧ Adds a a.cov0 E := by
  unfold Ab.cov0
  by_cases h : a.ls = false ∧ 0 < a.gcol ∧ a.hp = true
  · rw [if_pos h]
    obtain ⟨g1, g2, g3, g4⟩ := seg_cov hM hS hl hn h.1 h.2.2
    exact ⟨_, g1, g2, g3, g4⟩
  · rw [if_neg h]
    refine ⟨[], by rw [List.append_nil]; exact hM, by rw [List.append_nil]; exact hS.order, fun m hm => ?_, Adds.refl a⟩
    rw [List.append_nil] at hm
    rcases hS.ahead m hm with h1 | ⟨h1, h2, _⟩
    · exact .inl h1
    · exact .inr ⟨h1, h2⟩
/-- What a named state is like. -/
theorem Named.like {ns : List ByteArray} {s : ByteArray} {q q' : Sm} (h : Named ns s q q') : q'.gl = q.gl ∧ q'.gc = q.gc ∧ q'.src = q.src ∧ q'.ol = q.ol ∧ q'.oc = q.oc := by
  rcases h with ⟨_, rfl⟩ | ⟨_, i, _, rfl⟩ <;> exact ⟨rfl, rfl, rfl, rfl, rfl⟩
/-- The name of a mark's mapping. -/
theorem Named.name {ns : List ByteArray} {s : ByteArray} {q q' : Sm} (h : Named ns s q q') (hq : q.has = false) : (s = ByteArray.empty ∧ (mapOf q').name = -1) ∨ (s ≠ ByteArray.empty ∧ ∃ i : Nat, ns[i]? = some s ∧ (mapOf q').name = i) := by
  rcases h with ⟨h1, rfl⟩ | ⟨h1, i, h2, rfl⟩
  · exact .inl ⟨h1, by unfold mapOf; rw [hq]; rfl⟩
  · exact .inr ⟨h1, i, h2, rfl⟩
theorem mark_maps {a : Ab} {D : List Mp} {n : Nat} (hM : Maps a D) (hS : Sorted a D) (hl : a.Lim n) (hn : n < 800000) {L C : Nat} (hL : L ≤ 1000000) (hC : C ≤ 1000000) {ns : List ByteArray} {s : ByteArray} {q : Sm} (hq : Named ns s (a.cov0.spot L C) q) (hns : ns.length ≤ 1000000) :
    ∃ E, Maps (a.cov0.mark q) (D ++ E ++ [mapOf q]) ∧ Sorted (a.cov0.mark q) (D ++ E ++ [mapOf q]) ∧ Adds a a.cov0 E ∧ (a.cov0.mark q).st.gl = a.st.gl ∧ (a.cov0.mark q).gcol = a.gcol ∧ (a.cov0.mark q).hp = true ∧ (a.cov0.mark q).st.src = 0 ∧ (a.cov0.mark q).st.ol = L ∧ (a.cov0.mark q).st.oc = C := by
  obtain ⟨E, h1, h2, h3, h4⟩ := cov0_maps hM hS hl (by omega)
  have hk : a.cov0.st.gl = a.st.gl ∧ a.cov0.gcol = a.gcol := by unfold Ab.cov0; split <;> exact ⟨rfl, rfl⟩
  obtain ⟨q1, q2, q3, q4, q5⟩ := hq.like
  have hlc := hl.cov0 (by omega)
  have hlm := hlc.mark (by omega) hL hC hq hns
  have hgl : q.gl = a.cov0.st.gl := q1
  have hgc : q.gc = a.cov0.gcol := q2
  have hqs : q.Small := by
    have a1 := hlc.gl
    have a2 := hlc.gcol
    have e3 : q.src = 0 := q3
    have e4 : q.ol = (L : Int) := q4
    have e5 : q.oc = (C : Int) := q5
    have hnm : 0 ≤ q.nm ∧ q.nm < 2147483648 := by
      rcases hq with ⟨_, rfl⟩ | ⟨_, i, hi, rfl⟩
      · exact ⟨Int.le_refl _, by show (0 : Int) < _; decide⟩
      · have hil : i < ns.length := by
          rcases Nat.lt_or_ge i ns.length with h' | h'
          · exact h'
          · rw [List.getElem?_eq_none h'] at hi; cases hi
        exact ⟨Int.natCast_nonneg _, by show (i : Int) < _; omega⟩
    constructor <;> omega
  have hsg : Maps (a.cov0.seg q) (D ++ E ++ [mapOf q]) := h1.seg q (hlc.small (by omega)) hqs hgl (hlm.small (by omega))
  refine ⟨E, hsg.like rfl rfl, ⟨snoc_at h2 h3 q (hgl.trans hk.1) (hgc.trans hk.2), fun m hm => ?_⟩, h4, ?_, hk.2, rfl, q3, q4, q5⟩
  · have e1 : (a.cov0.mark q).st.gl = a.st.gl := hgl.trans hk.1
    have e2 : (a.cov0.mark q).gcol = a.gcol := hk.2
    rw [e1, e2]
    rw [List.mem_append] at hm
    rcases hm with hm | hm
    · rcases h3 m hm with h | ⟨h, h'⟩
      · exact .inl h
      · exact .inr ⟨h, h', rfl⟩
    · simp at hm
      subst hm
      exact .inr ⟨hgl.trans hk.1, by show q.gc ≤ a.gcol; rw [hgc, hk.2]; exact Int.le_refl _, rfl⟩
  · show q.gl = a.st.gl
    exact hgl.trans hk.1
end Go.Proofs.Ytobhlppdolekoaa.Ch
