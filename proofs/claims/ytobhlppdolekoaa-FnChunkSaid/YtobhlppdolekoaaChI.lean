/- Texts of mappings as lists of items: semicolons, and segments of four or five numbers. No program in sight. -/
import Derived.Test.YtobhlppdolekoaaChE
namespace Go.Proofs.Ytobhlppdolekoaa.Ch
open Go.RowKit Go.Proofs.Ytobhlppdolekoaa.Aid Go.Proofs.Ytobhlppdolekoaa.Bytes Go.Proofs.Ytobhlppdolekoaa.Runes
set_option linter.unusedVariables false
/-- A segment's numbers. -/
structure Sg where
  a : Int
  b : Int
  c : Int
  d : Int
  e : Option Int
def Sg.nums (s : Sg) : List Int := [s.a, s.b, s.c, s.d] ++ s.e.toList
def vtext (l : List Int) : List Nat := (l.map vlq).flatten
/-- An item: a semicolon, or a segment with a comma ahead of it or none. -/
inductive It where
  | semi
  | seg (k : Bool) (s : Sg)
def It.text : It → List Nat
  | .semi => [59]
  | .seg k s => (if k = true then [44] else []) ++ vtext s.nums
def itext (l : List It) : List Nat := (l.map It.text).flatten
def It.go (st : Sm) : It → Sm
  | .semi => { st with gl := st.gl + 1, gc := 0 }
  | .seg _ s => { st with gc := st.gc + s.a, src := st.src + s.b, ol := st.ol + s.c, oc := st.oc + s.d, nm := st.nm + s.e.getD 0 }
/-- A mapping that is read. -/
structure Mp where
  line : Int
  col : Int
  src : Int
  ol : Int
  oc : Int
  name : Int
def Mp.cells (m : Mp) : List Value := [.int .i64 m.line, .int .i64 m.col, .int .i64 m.src, .int .i64 m.ol, .int .i64 m.oc, .int .i64 m.name]
def mpOf (t : Sm) (named : Bool) : Mp := ⟨t.gl, t.gc, t.src, t.ol, t.oc, if named = true then t.nm else -1⟩
def It.mp (st : Sm) : It → List Mp
  | .semi => []
  | .seg k s => [mpOf (It.go st (.seg k s)) s.e.isSome]
def endS (st : Sm) : List It → Sm
  | [] => st
  | x :: xs => endS (x.go st) xs
def mps (st : Sm) : List It → List Mp
  | [] => []
  | x :: xs => x.mp st ++ mps (x.go st) xs
def It.Fit : It → Prop
  | .semi => True
  | .seg _ s => ∀ n ∈ s.nums, -2147483648 < n ∧ n < 2147483648
def It.free : It → Bool
  | .seg false _ => false
  | _ => true
def It.isSeg : It → Bool
  | .semi => false
  | .seg _ _ => true
/-- It can be read from a state. -/
def Good (st : Sm) : List It → Prop
  | [] => True
  | x :: xs => x.Fit ∧ (x.go st).Small ∧ (x.isSeg = true → ∀ y, xs.head? = some y → y.free = true) ∧ Good (x.go st) xs
theorem itext_append (a b : List It) : itext (a ++ b) = itext a ++ itext b := by simp [itext]
theorem endS_append (a b : List It) : ∀ st, endS st (a ++ b) = endS (endS st a) b := by
  induction a with
  | nil => intro st; rfl
  | cons x xs ih => intro st; exact ih _
theorem mps_append (a b : List It) : ∀ st, mps st (a ++ b) = mps st a ++ mps (endS st a) b := by
  induction a with
  | nil => intro st; rfl
  | cons x xs ih => intro st; simp only [List.cons_append, mps, ih, endS, List.append_assoc]
/-- The last item, if it is a segment. -/
def endsSeg (l : List It) : Bool := (l.getLast?.map It.isSeg).getD false
theorem good_append (a b : List It) : ∀ st, Good st a → Good (endS st a) b → (endsSeg a = true → ∀ y, b.head? = some y → y.free = true) → Good st (a ++ b) := by
  induction a with
  | nil => intro st _ h _; exact h
  | cons x xs ih =>
    intro st h1 h2 h3
    obtain ⟨f1, f2, f3, f4⟩ := h1
    refine ⟨f1, f2, ?_, ih _ f4 h2 ?_⟩
    · intro hx y hy
      cases xs with
      | nil =>
        refine h3 ?_ y hy
        simpa [endsSeg] using hx
      | cons z zs => exact f3 hx y hy
    · intro he y hy
      cases xs with
      | nil => simp [endsSeg] at he
      | cons z zs =>
        refine h3 ?_ y hy
        simpa [endsSeg] using he
/-- The numbers of a mapping that is written behind another. -/
def sgOf (p q : Sm) : Sg := ⟨q.gc - p.gc, q.src - p.src, q.ol - p.ol, q.oc - p.oc, if q.has = true then some (q.nm - p.nm) else none⟩
theorem seg_text (p q : Sm) : Ch.seg p q = vtext (sgOf p q).nums := by
  unfold Ch.seg vtext Sg.nums sgOf
  cases q.has <;> simp
end Go.Proofs.Ytobhlppdolekoaa.Ch
