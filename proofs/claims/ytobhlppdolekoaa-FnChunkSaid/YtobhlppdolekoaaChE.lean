/- The builder, told without its memory; how lines are counted and covered. No program in sight but the builder's cells. -/
import Derived.Test.YtobhlppdolekoaaChD
import Derived.Test.YtobhlppdolekoaaBytes
namespace Go.Proofs.Ytobhlppdolekoaa.Ch
open Go.RowKit Go.Proofs.Ytobhlppdolekoaa.Aid Go.Proofs.Ytobhlppdolekoaa.Bytes Go.Proofs.Ytobhlppdolekoaa.Runes
set_option linter.unusedVariables false
/-- What a builder has written, and where it is. -/
structure Ab where
  l : List Nat
  st : Sm
  gcol : Int
  ls : Bool
  hp : Bool
def Bd.put (d : Bd) (a : Ab) (v : Value) (fo : Int) : Bd := { d with v := v, st := a.st, gcol := a.gcol, ls := a.ls, hp := a.hp, fo := fo }
/-- A mapping is written. -/
def Ab.seg (a : Ab) (q : Sm) : Ab := { a with l := a.l ++ (sep (lastOf a.l) ++ Ch.seg a.st q), st := { q with nm := if q.has then q.nm else a.st.nm }, hp := true }
/-- The mapping before, at the line's begin. -/
def Ab.cov (a : Ab) : Sm := { gl := a.st.gl, gc := 0, src := a.st.src, ol := a.st.ol, oc := a.st.oc, nm := 0, has := false }
def Ab.cover (a : Ab) : Ab := if a.ls = false ∧ a.hp = true then a.seg a.cov else a
/-- The next line. -/
def Ab.line (a : Ab) : Ab := { a with l := a.l ++ [59], st := { a.st with gl := a.st.gl + 1, gc := 0 }, gcol := 0, ls := false }
def Ab.step (s : ByteArray) (i : Nat) (x : Nat × Nat) (a : Ab) : Ab :=
  if x.1 = 13 ∧ i + x.2 < s.size ∧ byt s (i + x.2) = 10 then a else if lineEnd x.1 = true then a.cover.line else if 65535 < x.1 then { a with gcol := a.gcol + 2 } else { a with gcol := a.gcol + 1 }
def Ab.upd (s : ByteArray) (i : Nat) (a : Ab) : Ab := if h : i < s.size ∧ 0 < (rune s i).2 then Ab.upd s (i + (rune s i).2) (a.step s i (rune s i)) else a
termination_by s.size - i
decreasing_by exact wf_dec h.1 h.2
theorem upd_end {s : ByteArray} {i : Nat} {a : Ab} (h : ¬ i < s.size) : Ab.upd s i a = a := by rw [Ab.upd, dif_neg (fun k => h k.1)]
theorem upd_next {s : ByteArray} {i : Nat} {a : Ab} (h : i < s.size) (h' : 0 < (rune s i).2) : Ab.upd s i a = Ab.upd s (i + (rune s i).2) (a.step s i (rune s i)) := by rw [Ab.upd, dif_pos ⟨h, h'⟩]
/-- How great its numbers are. -/
structure Ab.Lim (a : Ab) (n : Nat) : Prop where
  len : a.l.length ≤ 40 * n
  byte : ∀ b ∈ a.l, b < 256
  gl : 0 ≤ a.st.gl ∧ a.st.gl ≤ n
  gc : 0 ≤ a.st.gc ∧ a.st.gc ≤ 2 * n
  src : a.st.src = 0
  ol : 0 ≤ a.st.ol ∧ a.st.ol ≤ 1000000
  oc : 0 ≤ a.st.oc ∧ a.st.oc ≤ 1000000
  nm : 0 ≤ a.st.nm ∧ a.st.nm ≤ 1000000
  gcol : 0 ≤ a.gcol ∧ a.gcol ≤ 2 * n
theorem Ab.Lim.small {a : Ab} {n : Nat} (h : a.Lim n) (hn : n ≤ 1000000) : a.st.Small := by
  obtain ⟨h1, h2, h3, h4, h5, h6, h7, h8, h9⟩ := h
  constructor <;> omega
theorem Ab.Lim.mono {a : Ab} {n m : Nat} (h : a.Lim n) (hm : n ≤ m) : a.Lim m := by
  obtain ⟨h1, h2, h3, h4, h5, h6, h7, h8, h9⟩ := h
  constructor <;> first | assumption | omega
theorem seg_len {p q : Sm} (hp : p.Small) (hq : q.Small) : (Ch.seg p q).length ≤ 35 := by
  obtain ⟨a1, a2, a3, a4, a5, a6⟩ := hp
  obtain ⟨b1, b2, b3, b4, b5, b6⟩ := hq
  have c1 := vlq_len (n := q.gc - p.gc) (by omega) (by omega)
  have c2 := vlq_len (n := q.src - p.src) (by omega) (by omega)
  have c3 := vlq_len (n := q.ol - p.ol) (by omega) (by omega)
  have c4 := vlq_len (n := q.oc - p.oc) (by omega) (by omega)
  have c5 := vlq_len (n := q.nm - p.nm) (by omega) (by omega)
  simp only [Ch.seg, List.length_append]
  cases q.has <;> simp <;> omega
theorem sep_len (b : Nat) : (sep b).length ≤ 1 := by unfold sep; split <;> simp
theorem seg_byte (p q : Sm) : ∀ b ∈ Ch.seg p q, b < 256 := by
  intro b hb
  simp only [Ch.seg, List.mem_append] at hb
  rcases hb with (((h | h) | h) | h) | h
  · have := vlq_mem _ b h; omega
  · have := vlq_mem _ b h; omega
  · have := vlq_mem _ b h; omega
  · have := vlq_mem _ b h; omega
  · cases hq : q.has
    · rw [hq] at h; simp at h
    · rw [hq] at h
      have := vlq_mem _ b h; omega
theorem sep_byte (c : Nat) : ∀ b ∈ sep c, b < 256 := by
  intro b hb
  unfold sep at hb
  split at hb
  · cases hb
  · rw [List.mem_singleton.1 hb]; omega
theorem Ab.Lim.seg {a : Ab} {n : Nat} (h : a.Lim n) (hn : n < 1000000) (q : Sm) (h1 : q.gl = a.st.gl) (h2 : 0 ≤ q.gc ∧ q.gc ≤ 2 * n) (h3 : q.src = 0) (h4 : 0 ≤ q.ol ∧ q.ol ≤ 1000000) (h5 : 0 ≤ q.oc ∧ q.oc ≤ 1000000) (h6 : 0 ≤ q.nm ∧ q.nm ≤ 1000000) : (a.seg q).Lim (n + 1) := by
  have hq : q.Small := by
    obtain ⟨a1, a2, a3, a4, a5, a6, a7, a8, a9⟩ := h
    constructor <;> omega
  have hl := seg_len (h.small (by omega)) hq
  have hs := sep_len (lastOf a.l)
  obtain ⟨a1, a2, a3, a4, a5, a6, a7, a8, a9⟩ := h
  constructor
  · simp only [Ab.seg, List.length_append]; omega
  · intro b hb
    simp only [Ab.seg, List.mem_append] at hb
    rcases hb with hb | hb | hb
    · exact a2 b hb
    · exact sep_byte _ b hb
    · exact seg_byte _ _ b hb
  · simp only [Ab.seg]; omega
  · simp only [Ab.seg]; omega
  · exact h3
  · exact h4
  · exact h5
  · simp only [Ab.seg]
    cases q.has
    · simpa using a8
    · simpa using h6
  · simp only [Ab.seg]; omega
theorem Ab.Lim.cover {a : Ab} {n : Nat} (h : a.Lim n) (hn : n < 1000000) : a.cover.Lim (n + 1) := by
  unfold Ab.cover
  split
  · exact h.seg hn a.cov rfl ⟨Int.le_refl _, by simp [Ab.cov]; omega⟩ h.src h.ol h.oc ⟨Int.le_refl _, by simp [Ab.cov]⟩
  · exact h.mono (by omega)
theorem Ab.Lim.line {a : Ab} {n : Nat} (h : a.Lim n) : a.line.Lim (n + 1) := by
  obtain ⟨a1, a2, a3, a4, a5, a6, a7, a8, a9⟩ := h
  constructor
  · simp only [Ab.line, List.length_append, List.length_cons, List.length_nil]; omega
  · intro b hb
    simp only [Ab.line, List.mem_append, List.mem_singleton] at hb
    rcases hb with hb | rfl
    · exact a2 b hb
    · omega
  · simp only [Ab.line]; omega
  · simp only [Ab.line]; omega
  · exact a5
  · exact a6
  · exact a7
  · exact a8
  · simp only [Ab.line]; omega
theorem Ab.Lim.step {a : Ab} {n : Nat} (h : a.Lim n) (hn : n < 999999) (s : ByteArray) (i : Nat) (x : Nat × Nat) : (a.step s i x).Lim (n + 2) := by
  unfold Ab.step
  split
  · exact h.mono (by omega)
  split
  · exact (h.cover (by omega)).line
  obtain ⟨a1, a2, a3, a4, a5, a6, a7, a8, a9⟩ := h
  split
  all_goals
    constructor
    all_goals first | assumption | (simp only; omega)
/-- Below the texts' sizes it stays. -/
theorem Ab.Lim.upd (s : ByteArray) (m : Nat) : ∀ (i n : Nat) (a : Ab), s.size - i = m → a.Lim n → n + 2 * m < 999999 → (Ab.upd s i a).Lim (n + 2 * m) := by
  induction m using Nat.strongRecOn with
  | _ m ih =>
    intro i n a hm h hn
    by_cases hc : i < s.size ∧ 0 < (rune s i).2
    · rw [upd_next hc.1 hc.2]
      have := ih (s.size - (i + (rune s i).2)) (by omega) (i + (rune s i).2) (n + 2) _ rfl (h.step (by omega) s i (rune s i)) (by omega)
      exact this.mono (by omega)
    · rw [Ab.upd, dif_neg hc]
      exact h.mono (by omega)
theorem Ab.Lim.cov {a : Ab} {n : Nat} (h : a.Lim n) (hn : n ≤ 1000000) : a.cov.Small := by
  obtain ⟨a1, a2, a3, a4, a5, a6, a7, a8, a9⟩ := h
  constructor <;> simp only [Ab.cov] <;> omega
theorem _root_.Go.Proofs.Ytobhlppdolekoaa.Aid.Two.row {a b c : World} {g : Nat} {r r' : Option Nat} (h : Two a b g r) (k : Two b c g r') (hr : r' = r ∨ ∃ j, r' = some j ∧ a.heap.size ≤ j) : Two a c g r := by
  refine ⟨k.os.trans h.os, k.tape.trans h.tape, k.output.trans h.output, Nat.le_trans h.size k.size, fun i hi hg hne => (k.block i (Nat.lt_of_lt_of_le hi h.size) hg ?_).trans (h.block i hi hg hne)⟩
  rcases hr with e | ⟨j, e, hj⟩
  · rw [e]; exact hne
  · rw [e]; intro e'; injection e' with e'; omega
/-- The builder's memory, after a while. -/
structure Upto (w wr : World) (g B : Nat) (d : Bd) (a : Ab) (v : Value) (fo : Int) : Prop where
  cells : Blk wr g 83 (d.put a v fo).cells
  buf : Buf wr B v a.l
  two : Two w wr g d.v.ownBlock
  nx : v.ownBlock = d.v.ownBlock ∨ ∃ k, v.ownBlock = some k ∧ w.heap.size ≤ k
/-- A mapping more. -/
theorem Upto.mapped {w wr w' : World} {g B : Nat} {d : Bd} {a : Ab} {v v' : Value} {fo fo' : Int} {q : Sm} (h : Upto w wr g B d a v fo) (k : Stepped wr w' g B (d.put a v fo) ((d.put a v fo).mapped v' q fo') (a.l ++ (sep (lastOf a.l) ++ Ch.seg a.st q))) : Upto w w' g B d (a.seg q) v' fo' := by
  refine ⟨k.cells, k.buf, h.two.row k.two h.nx, ?_⟩
  rcases k.nx with e | ⟨j, e, hj⟩
  · have e' : v'.ownBlock = v.ownBlock := e
    rw [e']
    exact h.nx
  · exact .inr ⟨j, e, Nat.le_trans h.two.size hj⟩
end Go.Proofs.Ytobhlppdolekoaa.Ch
