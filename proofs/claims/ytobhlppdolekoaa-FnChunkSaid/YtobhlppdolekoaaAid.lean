/- Small plain lemmas on worlds, cells and numbers that the walks of this seat use. No program in sight. -/
import Derived.Below
import Derived.Deep.Draws
import Derived.Deep.OwnRows
import Derived.OwnWalk
import Derived.Laws.AppendOwn
import Derived.IntWalk
import Derived.Laws.OwnMore
import Derived.Laws.Rows
import Derived.Laws.CopyOwn
import Derived.Lib.Hide
import Derived.Deep.MidRow
import Derived.Deep.AppendLies
namespace Go.Proofs.Ytobhlppdolekoaa.Aid
open Go.RowKit

theorem below_drewN {B : Nat} {a w : World} (h : Below B a w) (n : Nat) : Below B a (w.drewN n) := ⟨h.os, h.tape, h.output, h.size, h.block⟩
theorem below_at {w W : World} (h : Below w.heap.size w W) (o : Obj) : Below w.heap.size w (W.alloc o) := h.alloc h.size o
theorem bcell {W w1 : World} {B : Nat} (hb : Below B W w1) {b o : Nat} {v : Option Value} (h : b < B) (hv : W.cell? ⟨b, o, none⟩ = v) : w1.cell? ⟨b, o, none⟩ = v := (hb.cell (p := ⟨b, o, none⟩) h).trans hv
theorem only_drewN {a w : World} {row : Option Nat} (h : a.grownBy w row) (n : Nat) : a.grownBy (w.drewN n) row := ⟨h.os, h.tape, h.output, h.size, h.block⟩
theorem only_drew {a w : World} {row : Option Nat} (h : a.grownBy w row) : a.grownBy w.drew row := ⟨h.os, h.tape, h.output, h.size, h.block⟩
theorem only_alloc {a w : World} {row : Option Nat} (h : a.grownBy w row) (o : Obj) : a.grownBy (w.alloc o) row :=
  ⟨h.os, h.tape, h.output, Nat.le_trans h.size (by simp), fun i hi hne => (Below.heap_alloc w o i (Nat.lt_of_lt_of_le hi h.size)).trans (h.block i hi hne)⟩
theorem only_setCell {a w : World} {g : Nat} (h : a.grownBy w (some g)) {p : Addr} (hp : p.block = g ∨ a.heap.size ≤ p.block) (u : Value) : a.grownBy (w.setCell p u) (some g) :=
  ⟨h.os, h.tape, h.output, by simpa [World.setCell] using h.size, fun i hi hne => (Below.heap_setCell w p u i (by
    rintro rfl
    rcases hp with hp | hp
    · exact hne (by rw [hp])
    · omega)).trans (h.block i hi hne)⟩
theorem only_of_below {a w : World} (h : Below a.heap.size a w) (row : Option Nat) : a.grownBy w row := ⟨h.os, h.tape, h.output, h.size, fun i hi _ => h.block i hi⟩
theorem below_of_only {B : Nat} {a b c : World} {row : Option Nat} (h : Below B a b) (hB : B ≤ b.heap.size) (k : b.grownBy c row) (hr : ∀ g, row = some g → B ≤ g) : Below B a c := h.grown k hB hr
theorem add_at (b o j : Nat) : (⟨b, o, none⟩ : Addr).add j = ⟨b, o + j, none⟩ := by
  unfold Addr.add
  split <;> simp_all
theorem ret_true {c : Bool} (h : c = true) : Ending.returned (.bool c) = .returned (.bool true) := by rw [h]
theorem ret_bool {c d : Bool} (h : c = d) : Ending.returned (.bool c) = .returned (.bool d) := by rw [h]
theorem ret_int {k : IntKind} {a b : Int} (h : a = b) : Ending.returned (.int k a) = .returned (.int k b) := by rw [h]
theorem val_int {k : IntKind} {a b : Int} (h : a = b) : Value.int k a = Value.int k b := by rw [h]
theorem wrap64_small (n : Int) (h0 : -9223372036854775808 ≤ n) (h1 : n ≤ 9223372036854775807) : wrap64 n = n := by
  unfold wrap64
  omega

/-- A block that is known whole, none of it frozen. -/
def Blk (w : World) (g : Nat) (t : TypeId) (cs : List Value) : Prop := w.heap[g]? = some (.cells cs.toArray t (0, 0))
section
variable {w w' : World} {g : Nat} {t : TypeId} {cs : List Value}
theorem Blk.lt (h : Blk w g t cs) : g < w.heap.size := by
  rcases Nat.lt_or_ge g w.heap.size with hlt | hge
  · exact hlt
  · unfold Blk at h
    rw [Array.getElem?_eq_none hge] at h
    cases h
theorem Blk.cell (h : Blk w g t cs) (i : Nat) : w.cell? ⟨g, i, none⟩ = cs[i]? := by
  have := cell_of_row w g i cs.toArray t (0, 0) h
  simpa using this
theorem Blk.frozen (h : Blk w g t cs) (i : Nat) : w.frozen? ⟨g, i, none⟩ = false := by
  unfold Blk at h
  simp [World.frozen?, h]
theorem Blk.new (w : World) (t : TypeId) (cs : List Value) : Blk (w.alloc (.cells cs.toArray t)) w.heap.size t cs := heap_alloc_new w _
theorem Blk.alloc (h : Blk w g t cs) (o : Obj) : Blk (w.alloc o) g t cs := (Below.heap_alloc w o g h.lt).trans h
theorem Blk.drew (h : Blk w g t cs) : Blk w.drew g t cs := h
theorem Blk.drewN (h : Blk w g t cs) (n : Nat) : Blk (w.drewN n) g t cs := h
theorem Blk.set_ (h : Blk w g t cs) (i : Nat) (u : Value) : Blk (w.setCell ⟨g, i, none⟩ u) g t (cs.set i u) := by
  unfold Blk at h ⊢
  simp [World.setCell, Array.getElem?_modify, h]
theorem Blk.far (h : Blk w g t cs) {p : Addr} (hp : g ≠ p.block) (u : Value) : Blk (w.setCell p u) g t cs := (Below.heap_setCell w p u g hp).trans h
theorem Blk.below {B : Nat} (h : Blk w g t cs) (hb : Below B w w') (hg : g < B) : Blk w' g t cs := (hb.block g hg).trans h
theorem Blk.grown {row : Option Nat} (h : Blk w g t cs) (hb : w.grownBy w' row) (hg : some g ≠ row) : Blk w' g t cs := (hb.block g h.lt hg).trans h
theorem Blk.get (h : Blk w g t cs) (i : Nat) {v : Value} (hi : cs[i]? = some v) : w.cell? ⟨g, i, none⟩ = some v := (h.cell i).trans hi
end

/-- Two rows whose elements are of two types are two rows. -/
theorem own_ne {w : World} {base : Nat} {e t : TypeId} {size n g : Nat} {v : Value} {xs cs : List Value} (h : w.ownsRow base e size v n xs) (hg : Blk w g t cs) (hne : e ≠ t) : some g ≠ v.ownBlock := by
  rcases h.2 with ⟨rfl, _⟩ | ⟨g', cap, cur, rfl, _, hh, _⟩
  · simp [Value.ownBlock]
  · intro he
    have he' : g = g' := by simpa [Value.ownBlock] using he
    subst he'
    unfold Blk at hg
    rw [hg] at hh
    injection hh with hh
    injection hh with _ ht
    exact hne ht.symm
theorem blk_ne {w : World} {g g' : Nat} {t t' : TypeId} {cs cs' : List Value} (h : Blk w g t cs) (h' : Blk w g' t' cs') (hne : t ≠ t') : g ≠ g' := by
  rintro rfl
  unfold Blk at h h'
  rw [h] at h'
  injection h' with h'
  injection h' with _ ht
  exact hne ht
theorem own_nil (w : World) (base : Nat) (e : TypeId) (size : Nat) : w.ownsRow base e size (.slice none 0 0) 0 [] := ⟨by simp, .inl ⟨rfl, rfl⟩⟩
theorem own_below {w : World} {base : Nat} {e : TypeId} {size n : Nat} {v : Value} {xs : List Value} (h : w.ownsRow base e size v n xs) (k : Nat) (hk : v.ownBlock = some k) : base ≤ k := (h.lt k hk).1
theorem own_form {w : World} {base : Nat} {e : TypeId} {size n : Nat} {v : Value} {xs : List Value} (h : w.ownsRow base e size v n xs) : ∃ A c, v = .slice A n c ∧ ∀ j, j < n * size → ∃ g, A = some ⟨g, 0, none⟩ ∧ base ≤ g ∧ g < w.heap.size ∧ w.cell? ⟨g, j, none⟩ = xs[j]? := by
  have hh := h
  rcases h.2 with ⟨rfl, rfl⟩ | ⟨g, cap, cur, rfl, hb, hg, _⟩
  · exact ⟨none, 0, rfl, fun j hj => by simp at hj⟩
  · refine ⟨_, cap, rfl, fun j hj => ⟨g, rfl, hb, ?_, hh.cellAt j hj⟩⟩
    exact (Array.getElem?_eq_some_iff.1 hg).1
/-- What a slice that came in reads as: the cell of each element, by its number. -/
def Reads (w : World) (A : Option Addr) (n : Nat) (f : Nat → Value) : Prop := ∀ i, i < n → ∃ b o, A = some ⟨b, o, none⟩ ∧ b < w.heap.size ∧ w.cell? ⟨b, o + i, none⟩ = some (f i)
theorem Reads.below {w w' : World} {A : Option Addr} {n : Nat} {f : Nat → Value} (h : Reads w A n f) (hb : Below w.heap.size w w') : Reads w' A n f := fun i hi => by
  obtain ⟨b, o, hA, hlt, hc⟩ := h i hi
  exact ⟨b, o, hA, Nat.lt_of_lt_of_le hlt hb.size, bcell hb hlt hc⟩
theorem Reads.of_own {w : World} {base : Nat} {e : TypeId} {n : Nat} {A : Option Addr} {c : Nat} {xs : List Value} {f : Nat → Value} (h : w.ownsRow base e 1 (.slice A n c) n xs) (hf : ∀ i, i < n → xs[i]? = some (f i)) : Reads w A n f := fun i hi => by
  obtain ⟨A', c', hv, hr⟩ := own_form h
  obtain ⟨g, hA, _, hlt, hc⟩ := hr i (by omega)
  injection hv with hv
  exact ⟨g, 0, hv.trans hA, hlt, by rw [Nat.zero_add, hc, hf i hi]⟩

theorem own_keep {w w' : World} {base : Nat} {e : TypeId} {size n : Nat} {v : Value} {xs : List Value} (h : w.ownsRow base e size v n xs) (hb : Below w.heap.size w w') : w'.ownsRow base e size v n xs := h.kept (only_of_below hb none) (by
  rcases h.2 with ⟨rfl, _⟩ | ⟨g', cap, cur, rfl, _⟩ <;> simp [Value.ownBlock])
/-- append of one element of one cell, which the walk has just laid into a block of its own: told over the world ahead of that block. -/
theorem wpList_append_one {P : Program} {W : World} {ops : Array Oper} {rest : List Oper} {o : Oper} {a : Act} {Q : Exit → Act → World → Prop} (hgd : o.guard = none) (s x : Operand) (t : TypeId)
    (ho : o.op = .call { callee := .builtin .append, args := #[s, x], argTypes := #[t, t] })
    (base : Nat) (e : TypeId) (i : TypeInfo) (z : Value) (bytes : Nat) (ht : P.underlying t = some (.slice e)) (hi : P.info? e = some i) (hz : i.zero = some z)
    (hsize : i.size = 1) (hby : i.bytes = bytes) (hzs : z.cells.size = 1)
    (v : Value) (n : Nat) (xs : List Value) (hs : a.eval s = v) (hown : W.ownsRow base e 1 v n xs)
    (u : Value) (hx : a.eval x = .slice (some ⟨W.heap.size, 0, none⟩) 1 1) (h1 : u.oneCell' = true)
    (h63 : n + 1 ≤ maxLen) (hbytes : (n + 1) * bytes ≤ 140737488355328) (hbase : base ≤ W.heap.size)
    (h : ∀ v' w', w'.ownsRow base e 1 v' (n + 1) (xs ++ [u]) → W.grownBy w' v.ownBlock → (v' = .slice none 0 0 ↔ v = .slice none 0 0 ∧ 1 = 0) → wpList P ops Q rest (a.put o.dst v') w') :
    wpList P ops Q (o :: rest) a (W.alloc (.cells #[u] e)) := by
  refine wpList_append_own (W.alloc (.cells #[u] e)) hgd s x t ho base e i z 1 bytes ht hi hz hsize hby hzs (by omega) v n xs hs (hown.alloc _) ⟨W.heap.size, 0, none⟩ 1 1 [u] hx rfl ?_ ?_ h63 hbytes (by simp; omega) ?_
  · intro j y hj
    rw [add_at]
    match j with
    | 0 =>
      have := (Blk.new W e [u]).cell 0
      simp only [List.getElem?_cons_zero] at this hj
      rw [← hj]
      exact this
    | j + 1 => simp at hj
  · simpa using h1
  · intro v' w' h2 h3 h4
    exact h v' w' h2 ⟨h3.os, h3.tape, h3.output, Nat.le_trans (by simp) h3.size, fun k hk hr => (h3.block k (by simp; omega) hr).trans (Below.heap_alloc W _ k hk)⟩ h4

/-- A list of n values, by a function of their number. -/
def row (n : Nat) (f : Nat → Value) : List Value := (List.range n).map f
theorem row_length (n : Nat) (f : Nat → Value) : (row n f).length = n := by simp [row]
theorem row_get (n : Nat) (f : Nat → Value) (i : Nat) (h : i < n) : (row n f)[i]? = some (f i) := by simp [row, h]
theorem row_set (n : Nat) (f : Nat → Value) (i : Nat) (v : Value) : (row n f).set i v = row n fun j => if j = i then v else f j := by
  refine List.ext_getElem (by simp [row]) fun j h1 h2 => ?_
  rw [List.getElem_set]
  by_cases e : i = j
  · simp [row, e]
  · simp [row, e, Ne.symm e]
theorem row_congr (n : Nat) (f g : Nat → Value) (h : ∀ i, i < n → f i = g i) : row n f = row n g := by
  refine List.ext_getElem (by simp [row]) fun j h1 h2 => ?_
  simp only [row, List.getElem_map, List.getElem_range]
  exact h j (by simpa [row] using h1)
theorem row_snoc (n : Nat) (f : Nat → Value) : row (n + 1) f = row n f ++ [f n] := by simp [row, List.range_succ]
theorem row_one (n : Nat) (f : Nat → Value) (h : ∀ i, i < n → (f i).oneCell' = true) : ∀ v ∈ row n f, v.oneCell' = true := by
  intro v hv
  simp only [row, List.mem_map, List.mem_range] at hv
  obtain ⟨i, hi, rfl⟩ := hv
  exact h i hi
theorem Reads.src {w : World} {A : Option Addr} {n : Nat} {f : Nat → Value} (h : Reads w A n f) (h0 : 0 < n) : ∃ ad, A = some ad ∧ ∀ j v, (row n f)[j]? = some v → w.cell? (ad.add j) = some v := by
  obtain ⟨b, o, rfl, _⟩ := h 0 h0
  refine ⟨_, rfl, fun j v hj => ?_⟩
  have hlt : j < n := by
    rcases Nat.lt_or_ge j n with hlt | hge
    · exact hlt
    · rw [List.getElem?_eq_none (by rw [row_length]; exact hge)] at hj
      cases hj
  rw [row_get n f j hlt] at hj
  obtain ⟨b', o', hA, _, hc⟩ := h j hlt
  injection hA with hA
  injection hA with hb ho
  subst hb ho
  rw [add_at, hc, hj]
theorem reads_blk {w : World} {g : Nat} {t : TypeId} {cs : List Value} {f : Nat → Value} (h : Blk w g t cs) (n : Nat) (hf : ∀ i, i < n → cs[i]? = some (f i)) : Reads w (some ⟨g, 0, none⟩) n f := fun i hi =>
  ⟨g, 0, rfl, h.lt, by rw [Nat.zero_add]; exact h.get i (hf i hi)⟩
theorem blk_setCells {g : Nat} {t : TypeId} : ∀ (vs : List Value) (o : Nat) (w : World) (cs : List Value), Blk w g t cs → o + vs.length ≤ cs.length → Blk (w.setCells g o vs) g t (cs.take o ++ vs ++ cs.drop (o + vs.length)) ∧ w.grownBy (w.setCells g o vs) (some g) ∧ (w.setCells g o vs).heap.size = w.heap.size
  | [], o, w, cs, h, _ => by
    refine ⟨?_, World.grownBy.refl _ _, rfl⟩
    simpa [World.setCells] using h
  | v :: vs, o, w, cs, h, hl => by
    simp only [List.length_cons] at hl
    obtain ⟨h1, h2, h3⟩ := blk_setCells vs (o + 1) (w.setCell ⟨g, o, none⟩ v) (cs.set o v) (h.set_ o v) (by simp; omega)
    have hs : (w.setCell ⟨g, o, none⟩ v).heap.size = w.heap.size := by simp [World.setCell]
    refine ⟨?_, ?_, h3.trans hs⟩
    · have e : (cs.set o v).take (o + 1) ++ vs ++ (cs.set o v).drop (o + 1 + vs.length) = cs.take o ++ (v :: vs) ++ cs.drop (o + (v :: vs).length) := by
        rw [List.take_set, List.drop_set_of_lt (by omega), List.take_succ_eq_append_getElem (by omega), List.set_append_right _ _ (by simp; omega)]
        simp only [List.length_take, List.length_cons]
        rw [show o - min o cs.length = 0 from by omega, show o + 1 + vs.length = o + (vs.length + 1) from by omega]
        simp
      rw [e] at h1
      exact h1
    · exact ⟨h2.os, h2.tape, h2.output, Nat.le_trans (Nat.le_of_eq hs.symm) h2.size, fun k hk hne => (h2.block k (by omega) hne).trans (Below.heap_setCell w _ v k (fun e => hne (by rw [e])))⟩
/-- A whole array loaded, stored. -/
theorem wpList_load_blk {P : Program} {ops : Array Oper} {rest : List Oper} {o : Oper} {a : Act} {w : World} {Q : Exit → Act → World → Prop} (hgd : o.guard = none) (ty : TypeId) (x : Operand) (ho : o.op = .load ty x)
    (g : Nat) (hx : a.eval x = .pointer (some ⟨g, 0, none⟩)) (t : TypeId) (cs : List Value) (d : TypeDesc) (hg : Blk w g t cs)
    (hu : P.underlying ty = some d) (hd : (match d with | .struct _ | .array _ _ => true | _ => false) = true) (hi : (P.info? ty).map (·.size) = some cs.length)
    (h : wpList P ops Q rest (a.put o.dst (.agg cs.toArray)) w) : wpList P ops Q (o :: rest) a w :=
  wpList_load_row hgd ty x ho g hx t cs.toArray (0, 0) d hg hu hd (by simpa using hi) h
theorem wpList_store_blk {P : Program} {ops : Array Oper} {rest : List Oper} {op : Oper} {a : Act} {w : World} {Q : Exit → Act → World → Prop} (hgd : op.guard = none) (ty : TypeId) (x y : Operand) (ho : op.op = .store ty x y)
    (g : Nat) (cs vs : List Value) (t : TypeId) (hx : a.eval x = .pointer (some ⟨g, 0, none⟩)) (hy : a.eval y = .agg vs.toArray) (hg : Blk w g t cs) (hl : vs.length = cs.length)
    (hi : (P.info? ty).map (·.size) = some vs.length) (h1 : ∀ v ∈ vs, v.oneCell' = true)
    (h : ∀ w', Blk w' g t vs → w.grownBy w' (some g) → w'.heap.size = w.heap.size → wpList P ops Q rest (a.put op.dst undef) w') : wpList P ops Q (op :: rest) a w := by
  obtain ⟨b1, b2, b3⟩ := blk_setCells vs 0 w cs hg (by omega)
  refine wpList_store_mid hgd ty x y ho g 0 vs.toArray hx hy ?_ (by simpa using hi) (by simpa using h1) ?_
  · intro j hj
    rw [Nat.zero_add, hg.cell, hg.frozen]
    refine ⟨?_, rfl⟩
    rw [List.getElem?_eq_getElem (by simpa [hl] using hj)]
    rfl
  · simp only [hl, Nat.zero_add, List.take_zero, List.nil_append, List.drop_length, List.append_nil] at b1
    simpa using h _ b1 b2 b3

/-- copy into a row that is known whole: behind it the row is known whole, and nothing else has turned. -/
theorem wpList_copy_only {P : Program} {w : World} {ops : Array Oper} {rest : List Oper} {o : Oper} {a : Act} {Q : Exit → Act → World → Prop} (hgd : o.guard = none) (d s : Operand) (dT sT : TypeId)
    (ho : o.op = .call { callee := .builtin .copy, args := #[d, s], argTypes := #[dT, sT] }) (elem : TypeId) (hu : P.underlying dT = some (.slice elem)) (hsz : (P.info? elem).map (·.size) = some 1)
    (dp sp : Option Addr) (dLen dCap sLen sCap : Nat) (hd : a.eval d = .slice dp dLen dCap) (hs : a.eval s = .slice sp sLen sCap)
    (g off : Nat) (cur : List Value) (t : TypeId) (hg : Blk w g t cur) (cs : List Value) (hn : cs.length = Nat.min sLen dLen)
    (hpos : 0 < cs.length → dp = some ⟨g, off, none⟩ ∧ ∃ ad, sp = some ad ∧ ∀ j v, cs[j]? = some v → w.cell? (ad.add j) = some v)
    (hfit : off + cs.length ≤ cur.length) (h1 : ∀ v ∈ cs, v.oneCell' = true)
    (h : ∀ w', Blk w' g t (splice cur off cs) → w.grownBy w' (some g) → w'.heap.size = w.heap.size → wpList P ops Q rest (a.put o.dst (goInt cs.length)) w') :
    wpList P ops Q (o :: rest) a w := by
  by_cases h0 : cs.length = 0
  · obtain rfl : cs = [] := List.eq_nil_of_length_eq_zero h0
    refine wpList_copy_nothing hgd d s dT sT ho elem hu hsz dp sp dLen dCap sLen sCap hd hs (by simpa using hn.symm) ?_
    exact h w (by simpa [splice] using hg) (World.grownBy.refl _ _) rfl
  · obtain ⟨rfl, ad, rfl, hsrc⟩ := hpos (by omega)
    refine wpList_copy_own hgd d s dT sT ho elem hu hsz g off dLen dCap ad sLen sCap hd hs cur.toArray t hg cs hn hsrc (by simpa using hfit) h1 ?_
    refine h _ ?_ ⟨rfl, rfl, rfl, by simp [World.setRow], fun k _ hk => setRow_other w g k _ (fun e => hk (by rw [e]))⟩ (by simp [World.setRow])
    unfold Blk
    rw [setRow_heap w g _ _ t _ hg]
    simp [splice]

theorem splice_all {α : Type} (L cs : List α) (h : L.length = cs.length) : splice L 0 cs = cs := by simp [splice, h]
/-- copy of a whole slice into a row that is known whole and as long. -/
theorem wpList_copy_full {P : Program} {w : World} {ops : Array Oper} {rest : List Oper} {o : Oper} {a : Act} {Q : Exit → Act → World → Prop} (hgd : o.guard = none) (d s : Operand) (dT sT : TypeId)
    (ho : o.op = .call { callee := .builtin .copy, args := #[d, s], argTypes := #[dT, sT] }) (elem : TypeId) (hu : P.underlying dT = some (.slice elem)) (hsz : (P.info? elem).map (·.size) = some 1)
    (n : Nat) (sp : Option Addr) (dCap sCap g : Nat) (hd : a.eval d = .slice (some ⟨g, 0, none⟩) n dCap) (hs : a.eval s = .slice sp n sCap)
    (cur : List Value) (t : TypeId) (hg : Blk w g t cur) (hcur : cur.length = n) (f : Nat → Value) (hr : Reads w sp n f) (h1 : ∀ i, i < n → (f i).oneCell' = true)
    (h : ∀ w', Blk w' g t (row n f) → w.grownBy w' (some g) → w'.heap.size = w.heap.size → wpList P ops Q rest (a.put o.dst (goInt n)) w') :
    wpList P ops Q (o :: rest) a w := by
  refine wpList_copy_only hgd d s dT sT ho elem hu hsz (some ⟨g, 0, none⟩) sp n dCap n sCap hd hs g 0 cur t hg (row n f) (by rw [row_length]; exact (Nat.min_self n).symm) (fun hp => ⟨rfl, hr.src (by rwa [row_length] at hp)⟩) (by rw [row_length, hcur]; omega) (row_one n f h1) ?_
  intro w' b1 b2 b3
  rw [row_length]
  rw [splice_all _ _ (by rw [row_length, hcur])] at b1
  exact h w' b1 b2 b3

/-- append of one element of whatever size, which lies in a block of its own: told at a step of a region that draws its order. -/
theorem step_append_el {P : Program} {w : World} {ops : Array Oper} {o : Oper} {a : Act} {K : Act → World → Prop} {Q : Exit → Act → World → Prop} {E : Prop} (hgd : o.guard = none) (s x : Operand) (t : TypeId)
    (ho : o.op = .call { callee := .builtin .append, args := #[s, x], argTypes := #[t, t] })
    (base : Nat) (e : TypeId) (i : TypeInfo) (z : Value) (size bytes : Nat) (ht : P.underlying t = some (.slice e)) (hi : P.info? e = some i) (hz : i.zero = some z)
    (hsize : i.size = size) (hby : i.bytes = bytes) (hzs : z.cells.size = size) (hsz : 0 < size)
    (v : Value) (n : Nat) (xs : List Value) (hs : a.eval s = v) (hown : w.ownsRow base e size v n xs)
    (h : Nat) (hx : a.eval x = .slice (some ⟨h, 0, none⟩) 1 1) (es : List Value) (hb : Blk w h e es) (hl : es.length = size) (h1 : ∀ u ∈ es, u.oneCell' = true)
    (h63 : n + 1 ≤ maxLen) (hbytes : (n + 1) * bytes ≤ 140737488355328) (hbase : base ≤ w.heap.size)
    (hk : ∀ g cap w', w'.ownsRow base e size (.slice (some ⟨g, 0, none⟩) (n + 1) cap) (n + 1) (xs ++ es) → w.grownBy w' v.ownBlock → (v.ownBlock = some g ∨ g = w.heap.size) → g < w'.heap.size → K (a.put o.dst (.slice (some ⟨g, 0, none⟩) (n + 1) cap)) w') :
    if Region.wanted o (yielded ops a.tmps) = true then Oper.wp P o a w K Q else E :=
  step_append_lies w hgd s x t ho base e i z size bytes ht hi hz hsize hby hzs hsz v n xs hs hown ⟨h, 0, none⟩ 1 1 es hx (by omega) (fun j u hj => by rw [add_at, Nat.zero_add]; exact hb.get j hj) h1 (by omega) h63 hbytes hbase w.heap.size rfl hk

/-- append of one element of whatever size, which the walk has just laid into a block of its own: told over the world ahead of that block, the new value written out. -/
theorem wpList_append_new {P : Program} {W : World} {ops : Array Oper} {rest : List Oper} {o : Oper} {a : Act} {Q : Exit → Act → World → Prop} (hgd : o.guard = none) (s x : Operand) (t : TypeId)
    (ho : o.op = .call { callee := .builtin .append, args := #[s, x], argTypes := #[t, t] })
    (base : Nat) (e : TypeId) (i : TypeInfo) (z : Value) (size bytes : Nat) (ht : P.underlying t = some (.slice e)) (hi : P.info? e = some i) (hz : i.zero = some z)
    (hsize : i.size = size) (hby : i.bytes = bytes) (hzs : z.cells.size = size) (hsz : 0 < size)
    (v : Value) (n : Nat) (xs : List Value) (hs : a.eval s = v) (hown : W.ownsRow base e size v n xs)
    (es : List Value) (hx : a.eval x = .slice (some ⟨W.heap.size, 0, none⟩) 1 1) (hl : es.length = size) (h1 : ∀ u ∈ es, u.oneCell' = true)
    (h63 : n + 1 ≤ maxLen) (hbytes : (n + 1) * bytes ≤ 140737488355328) (hbase : base ≤ W.heap.size)
    (hk : ∀ g cap w', w'.ownsRow base e size (.slice (some ⟨g, 0, none⟩) (n + 1) cap) (n + 1) (xs ++ es) → W.grownBy w' v.ownBlock → (v.ownBlock = some g ∨ W.heap.size ≤ g) → wpList P ops Q rest (a.put o.dst (.slice (some ⟨g, 0, none⟩) (n + 1) cap)) w') :
    wpList P ops Q (o :: rest) a (W.alloc (.cells es.toArray e)) := by
  refine wpList_append_lies (W.alloc (.cells es.toArray e)) hgd s x t ho base e i z size bytes ht hi hz hsize hby hzs hsz v n xs hs (hown.alloc _) ⟨W.heap.size, 0, none⟩ 1 1 es hx (by omega) (fun j u hj => by rw [add_at, Nat.zero_add]; exact (Blk.new W e es).get j hj) h1 (by omega) h63 hbytes (by simp; omega) (W.heap.size + 1) (by simp) ?_
  intro g cap w' h2 h3 h4 _
  refine hk g cap w' h2 ⟨h3.os, h3.tape, h3.output, Nat.le_trans (by simp) h3.size, fun k hk hr => (h3.block k (by simp; omega) hr).trans (Below.heap_alloc W _ k hk)⟩ ?_
  rcases h4 with h4 | h4
  · exact .inl h4
  · exact .inr (by omega)

/-- Nothing that was there has turned but block g and one row. -/
structure Two (w w' : World) (g : Nat) (r : Option Nat) : Prop where
  os : w'.os = w.os
  tape : w'.tape = w.tape
  output : w'.output = w.output
  size : w.heap.size ≤ w'.heap.size
  block : ∀ i, i < w.heap.size → i ≠ g → some i ≠ r → w'.heap[i]? = w.heap[i]?
theorem Two.of_block {w w' : World} {g : Nat} {r : Option Nat} (h : w.grownBy w' (some g)) : Two w w' g r := ⟨h.os, h.tape, h.output, h.size, fun i hi hg _ => h.block i hi (fun e => hg (by injection e))⟩
theorem Two.of_row {w w' : World} {g : Nat} {r : Option Nat} (h : w.grownBy w' r) : Two w w' g r := ⟨h.os, h.tape, h.output, h.size, fun i hi _ hr => h.block i hi hr⟩
theorem Two.of_below {w w' : World} {g : Nat} {r : Option Nat} (h : Below w.heap.size w w') : Two w w' g r := ⟨h.os, h.tape, h.output, h.size, fun i hi _ _ => h.block i hi⟩
theorem Two.trans {a b c : World} {g : Nat} {r : Option Nat} (h : Two a b g r) (k : Two b c g r) : Two a c g r :=
  ⟨k.os.trans h.os, k.tape.trans h.tape, k.output.trans h.output, Nat.le_trans h.size k.size, fun i hi hg hr => (k.block i (Nat.lt_of_lt_of_le hi h.size) hg hr).trans (h.block i hi hg hr)⟩
theorem Two.blk {w w' : World} {g k : Nat} {r : Option Nat} {t : TypeId} {cs : List Value} (h : Two w w' g r) (hb : Blk w k t cs) (h1 : k ≠ g) (h2 : some k ≠ r) : Blk w' k t cs := (h.block k hb.lt h1 h2).trans hb
theorem Two.own {w w' : World} {g : Nat} {r : Option Nat} {base : Nat} {e : TypeId} {size n : Nat} {v : Value} {xs : List Value} (h : Two w w' g r) (ho : w.ownsRow base e size v n xs) (h1 : some g ≠ v.ownBlock) (h2 : v.ownBlock = none ∨ v.ownBlock ≠ r) : w'.ownsRow base e size v n xs := by
  refine ⟨ho.1, ?_⟩
  rcases ho.2 with hn | ⟨k, cap, cur, rfl, hb, hh, h3, h4, h5, h6⟩
  · exact .inl hn
  · refine .inr ⟨k, cap, cur, rfl, hb, ?_, h3, h4, h5, h6⟩
    rw [h.block k (Array.getElem?_eq_some_iff.1 hh).1 (fun e => h1 (by rw [e]; rfl)) ?_]
    · exact hh
    · rcases h2 with h2 | h2
      · simp [Value.ownBlock] at h2
      · exact h2
theorem Two.below {w w0 w' : World} {g B : Nat} {r : Option Nat} (h : Two w w' g r) (hb : Below B w0 w) (hB : B ≤ w.heap.size) (h1 : B ≤ g) (h2 : ∀ k, r = some k → B ≤ k) : Below B w0 w' :=
  hb.trans ⟨h.os, h.tape, h.output, h.size, fun i hi => h.block i (by omega) (by omega) (fun e => by have := h2 i e.symm; omega)⟩
theorem own_row_ne {w : World} {base base' : Nat} {e e' : TypeId} {size size' n n' : Nat} {v v' : Value} {xs xs' : List Value} (h : w.ownsRow base e size v n xs) (h' : w.ownsRow base' e' size' v' n' xs') (hne : e ≠ e') : v.ownBlock = none ∨ v.ownBlock ≠ v'.ownBlock := by
  rcases h.2 with ⟨rfl, _⟩ | ⟨k, cap, cur, rfl, _, hh, _⟩
  · exact .inl rfl
  · refine .inr fun he => ?_
    rcases h'.2 with ⟨rfl, _⟩ | ⟨k', cap', cur', rfl, _, hh', _⟩
    · simp [Value.ownBlock] at he
    · have : k = k' := by simpa [Value.ownBlock] using he
      subst this
      rw [hh] at hh'
      injection hh' with hh'
      injection hh' with _ ht
      exact hne ht

end Go.Proofs.Ytobhlppdolekoaa.Aid
