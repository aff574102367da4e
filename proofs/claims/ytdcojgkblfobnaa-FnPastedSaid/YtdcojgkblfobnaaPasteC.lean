/- A row of two cells an element, and a copy of a text or of a slice into a row, as steps of a region that draws its order. -/
import Derived.Test.YtdcojgkblfobnaaPasteB
import Derived.Laws.CopyOwn
import Derived.Lib.BufferWrite
import Derived.Laws.OwnMore
namespace Go.Proofs.Ytdcojgkblfobnaa.Paste
open Go.RowKit Go.Proofs.Ytdcojgkblfobnaa.Aid
attribute [local go_sem ↓] Go.wp_at_zero Go.wp_at_succ
/-- Two cells an element. -/
def row2 (n : Nat) (f g : Nat → Value) : List Value := (List.range n).flatMap fun i => [f i, g i]
theorem row2_succ (n : Nat) (f g : Nat → Value) : row2 (n + 1) f g = row2 n f g ++ [f n, g n] := by simp [row2, List.range_succ]
theorem row2_length (n : Nat) (f g : Nat → Value) : (row2 n f g).length = n * 2 := by
  induction n with
  | zero => rfl
  | succ n ih => rw [row2_succ, List.length_append, ih]; simp; omega
theorem row2_get (n : Nat) (f g : Nat → Value) (i : Nat) (h : i < n) : (row2 n f g)[i * 2]? = some (f i) ∧ (row2 n f g)[i * 2 + 1]? = some (g i) := by
  induction n with
  | zero => omega
  | succ n ih =>
    rw [row2_succ]
    rcases Nat.lt_or_ge i n with h' | h'
    · have := ih h'
      rw [List.getElem?_append_left (by rw [row2_length]; omega), List.getElem?_append_left (by rw [row2_length]; omega)]
      exact this
    · obtain rfl : i = n := by omega
      rw [List.getElem?_append_right (by rw [row2_length]; omega), List.getElem?_append_right (by rw [row2_length]; omega), row2_length, Nat.sub_self, Nat.add_sub_cancel_left]
      exact ⟨rfl, rfl⟩
/-- The bytes of a string, as cells. -/
def strCells (s : ByteArray) : List Value := s.data.toList.map fun b => Value.int .u8 (b.toNat : Int)
theorem strCells_length (s : ByteArray) : (strCells s).length = s.size := by rw [strCells, List.length_map]; rfl
/-- copy of a text into a row that is known whole: a step of a region that draws its order. -/
theorem step_copy_str {P : Program} {ops : Array Oper} {o : Oper} {a : Act} {w : World} {K : Act → World → Prop} {Q : Exit → Act → World → Prop} {E : Prop} (hgd : o.guard = none) (d s : Operand) (dT sT : TypeId)
    (ho : o.op = .call { callee := .builtin .copy, args := #[d, s], argTypes := #[dT, sT] }) (elem : TypeId) (hu : P.underlying dT = some (.slice elem)) (hsz : (P.info? elem).map (·.size) = some 1)
    (dp : Option Addr) (dLen dCap : Nat) (b : ByteArray) (hd : a.eval d = .slice dp dLen dCap) (hs : a.eval s = .string b)
    (g off : Nat) (cur : List Value) (t : TypeId) (hg : Blk w g t cur) (hn : b.size ≤ dLen) (hpos : 0 < b.size → dp = some ⟨g, off, none⟩) (hfit : off + b.size ≤ cur.length)
    (h : ∀ w', Hid (Blk w' g t (splice cur off (strCells b))) → w.grownBy w' (some g) → K (a.put o.dst (goInt b.size)) w') :
    if Region.wanted o (yielded ops a.tmps) = true then Oper.wp P o a w K Q else E := by
  have hw : Region.wanted o (yielded ops a.tmps) = true := by simp [Region.wanted, hgd]
  rw [if_pos hw]
  by_cases h0 : b.size = 0
  · have hrun := Lib.run_copy_empty_string (P := P) w dT sT o.type elem dp dLen dCap b hu (by cases hq : P.info? elem <;> simp_all) h0
    unfold Oper.wp
    simp [execOp, ho, resolve, invoke, builtin, hd, hs, hrun, Result.andThen]
    have e : strCells b = [] := List.eq_nil_of_length_eq_zero (by rw [strCells_length]; exact h0)
    rw [e, h0] at h
    exact h w (Lib.hid (by simpa [splice] using hg)) (World.grownBy.refl _ _)
  · obtain rfl := hpos (by omega)
    have hrun := Lib.run_copy_row_string (P := P) w dT sT o.type elem g off dLen dCap b cur.toArray t hu hsz hg hn (by simpa using hfit)
    unfold Oper.wp
    simp [execOp, ho, resolve, invoke, builtin, hd, hs, hrun, Result.andThen]
    refine h _ (Lib.hid ?_) ⟨rfl, rfl, rfl, by simp [World.setRow], fun k _ hk => setRow_other w g k _ (fun e => hk (by rw [e]))⟩
    unfold Blk
    rw [setRow_heap w g _ _ t _ hg]
    have e : Lib.byteCells b.data.toList = strCells b := rfl
    rw [e]
    simp [splice, strCells_length]
/-- copy of a slice into a row that is known whole: a step of a region that draws its order. -/
theorem step_copy_row {P : Program} {ops : Array Oper} {o : Oper} {a : Act} {w : World} {K : Act → World → Prop} {Q : Exit → Act → World → Prop} {E : Prop} (hgd : o.guard = none) (d s : Operand) (dT sT : TypeId)
    (ho : o.op = .call { callee := .builtin .copy, args := #[d, s], argTypes := #[dT, sT] }) (elem : TypeId) (hu : P.underlying dT = some (.slice elem)) (hsz : (P.info? elem).map (·.size) = some 1)
    (dp sp : Option Addr) (dLen dCap sLen sCap : Nat) (hd : a.eval d = .slice dp dLen dCap) (hs : a.eval s = .slice sp sLen sCap)
    (g off : Nat) (cur : List Value) (t : TypeId) (hg : Blk w g t cur) (cs : List Value) (hn : cs.length = sLen) (hle : sLen ≤ dLen)
    (hpos : 0 < cs.length → dp = some ⟨g, off, none⟩ ∧ ∃ ad, sp = some ad ∧ ∀ j v, cs[j]? = some v → w.cell? (ad.add j) = some v)
    (hfit : off + cs.length ≤ cur.length) (h1 : ∀ v ∈ cs, v.oneCell' = true)
    (h : ∀ w', Hid (Blk w' g t (splice cur off cs)) → w.grownBy w' (some g) → K (a.put o.dst (goInt cs.length)) w') :
    if Region.wanted o (yielded ops a.tmps) = true then Oper.wp P o a w K Q else E := by
  have hmin : cs.length = Nat.min sLen dLen := by rw [hn]; exact (Nat.min_eq_left hle).symm
  have hw : Region.wanted o (yielded ops a.tmps) = true := by simp [Region.wanted, hgd]
  rw [if_pos hw]
  by_cases h0 : cs.length = 0
  · obtain rfl : cs = [] := List.eq_nil_of_length_eq_zero h0
    have hrun := run_copy_none (P := P) w dT sT o.type elem dp sp dLen dCap sLen sCap hu hsz (by simpa using hmin.symm)
    unfold Oper.wp
    simp [execOp, ho, resolve, invoke, builtin, hd, hs, hrun, Result.andThen]
    exact h w (Lib.hid (by simpa [splice] using hg)) (World.grownBy.refl _ _)
  · obtain ⟨rfl, ad, rfl, hsrc⟩ := hpos (by omega)
    have hrun := run_copy_row (P := P) w dT sT o.type elem g off dLen dCap ad sLen sCap cur.toArray t cs hu hsz hg hmin hsrc (by simpa using hfit) h1
    unfold Oper.wp
    simp [execOp, ho, resolve, invoke, builtin, hd, hs, hrun, Result.andThen]
    refine h _ (Lib.hid ?_) ⟨rfl, rfl, rfl, by simp [World.setRow], fun k _ hk => setRow_other w g k _ (fun e => hk (by rw [e]))⟩
    unfold Blk
    rw [setRow_heap w g _ _ t _ hg]
    simp [splice]
end Go.Proofs.Ytdcojgkblfobnaa.Paste
