/- The tree of scopes as it lies in memory: plain laws. No program is walked. -/
import Derived.Test.YtofdoaollanbpaaDoorReP
import Derived.Maps.Own
import Derived.Maps.Views
namespace Go.Proofs.YtofdoaollanbpaaDoor.Res
open Go.RowKit Go.Proofs.YtofdoaollanbpaaDoor.Aid
set_option linter.unusedVariables false
variable {H : Type}
/-- A member's value: what it names. -/
def refV (r : Nat) : Value := .agg #[.int .u32 0, .int .u32 (r : Int), .int .i32 0]
theorem refV_inj {a b : Nat} (h : refV a = refV b) : a = b := by
  unfold refV at h
  injection h with h
  have h1 := congrArg (fun l : Array Value => l.toList[1]?) h
  simp at h1
  exact Int.ofNat.inj h1
open Classical in
/-- How a member's value reads: by the number of its symbol. -/
noncomputable def refE (v : Value) : Option (DataW H × List MemPlace) := if h : ∃ r : Nat, v = refV r then some (.lit (.int .u32 (h.choose : Int)), []) else none
theorem refE_mk (r : Nat) : refE (H := H) (refV r) = some (.lit (.int .u32 (r : Int)), []) := by
  have h : ∃ r' : Nat, refV r = refV r' := ⟨r, rfl⟩
  unfold refE
  rw [dif_pos h, ← refV_inj h.choose_spec]
theorem refE_inv {v : Value} {y : DataW H × List MemPlace} (h : refE v = some y) : ∃ r : Nat, v = refV r ∧ y = (.lit (.int .u32 (r : Int)), []) := by
  unfold refE at h
  by_cases q : ∃ r : Nat, v = refV r
  · rw [dif_pos q] at h
    injection h with h
    exact ⟨_, q.choose_spec, h.symm⟩
  · rw [dif_neg q] at h
    cases h
/-- The key that a text is. -/
def key (s : ByteArray) : Lit := .string s.data.toList
theorem key_lit (s : ByteArray) : WideAt.IsKeyLit (key s) := by unfold key; trivial
theorem key_inj {s t : ByteArray} (h : key s = key t) : s = t := by
  injection h with h
  exact ByteArray.ext (Array.toList_inj.1 h)
/-- The first k members of a scope, as a map. -/
structure Members (D : DataW H) (s : Sc) (k : Nat) : Prop where
  isMap : Maps.IsMap D
  at_ : ∀ i, i < k → Maps.has D (key (s.names i)) = true ∧ ∀ z, D.atKey (key (s.names i)) z = .lit (.int .u32 (s.refs i))
  only : ∀ l, Maps.has D l = true → ∃ i, i < k ∧ l = key (s.names i)
theorem Members.start (s : Sc) : Members (.map [] : DataW H) s 0 := ⟨Maps.isMap_empty, fun i hi => by omega, fun l h => by simp [Maps.has] at h⟩
theorem Members.step {D : DataW H} {s : Sc} {k : Nat} (h : Members D s k) (hne : ∀ i, i < k → s.names i ≠ s.names k) : Members (D.put (key (s.names k)) (.lit (.int .u32 (s.refs k)))) s (k + 1) := by
  refine ⟨h.isMap.put _ _, fun i hi => ?_, fun l hl => ?_⟩
  · by_cases q : i = k
    · subst q
      exact ⟨Maps.has_put_same h.isMap (key_lit _) _, fun z => Maps.atKey_put_same h.isMap (key_lit _) _ _⟩
    · have hk : key (s.names i) ≠ key (s.names k) := fun e => hne i (by omega) (key_inj e)
      exact ⟨by rw [Maps.has_put_other hk]; exact (h.at_ i (by omega)).1, fun z => by rw [Maps.atKey_put_other hk]; exact (h.at_ i (by omega)).2 z⟩
  · by_cases q : l = key (s.names k)
    · exact ⟨k, by omega, q⟩
    · rw [Maps.has_put_other q] at hl
      obtain ⟨i, hi, e⟩ := h.only l hl
      exact ⟨i, by omega, e⟩
/-- The cells of a row of references. -/
def genAt (s : Sc) (q : Nat) : Value := if q % 2 = 0 then .int .u32 0 else .int .u32 (s.gens (q / 2))
theorem gens_snoc (s : Sc) (k : Nat) (r : Nat) (h : s.gens k = r) : row (k * 2) (genAt s) ++ [.int .u32 0, .int .u32 (r : Int)] = row ((k + 1) * 2) (genAt s) := by
  rw [show (k + 1) * 2 = k * 2 + 1 + 1 by omega, row_snoc, row_snoc]
  unfold genAt
  rw [if_pos (by omega), if_neg (by omega), show (k * 2 + 1) / 2 = k by omega, h]
  simp
/-- The cells of a scope of the package. -/
def scCells (x1 C : Value) (M : Nat) (G x8 x9 : Value) (ev : Bool) (x15 : Value) : List Value := [.pointer none, x1, C, .map (some M), .slice none 0 0, G, .int .i32 0, .int .i32 0, x8, x9, .bool false, .bool ev, .bool false, .bool false, .int .u8 0, x15]
/-- Where the scopes of a tree lie, and what their lists are. -/
structure Fo (H : Type) where
  P : Nat → Nat
  M : Nat → Nat
  C : Nat → Value
  G : Nat → Value
  cn : Nat → Nat
  ch : Nat → Nat → Nat
  D : Nat → DataW H
  x1 : Nat → Value
  x8 : Nat → Value
  x9 : Nat → Value
  x15 : Nat → Value
/-- One scope of a tree of i. -/
structure One (w : World) (base : Nat) (F : Fo H) (s : Sc) (j i : Nat) : Prop where
  cells : Blk w (F.P j) 79 (scCells (F.x1 j) (F.C j) (F.M j) (F.G j) (F.x8 j) (F.x9 j) s.ev (F.x15 j))
  low : base ≤ F.P j
  mem : w.ownsMap Tryd.prog 9 refE (F.M j) s.n (F.D j)
  mlow : base ≤ F.M j
  memOK : Members (F.D j) s s.n
  gen : w.ownsRow base 69 2 (F.G j) s.gn (row (s.gn * 2) (genAt s))
  kids : w.ownsRow base 45 1 (F.C j) (F.cn j) (row (F.cn j) fun t => .pointer (some ⟨F.P (F.ch j t), 0, none⟩))
  kid : ∀ t, t < F.cn j → j < F.ch j t ∧ F.ch j t < i
  few : F.cn j ≤ i
structure Forest (w : World) (base : Nat) (F : Fo H) (S : Nat → Sc) (i : Nat) : Prop where
  one : ∀ j, j < i → One w base F (S j) j i
  inj : ∀ j k, j < k → k < i → F.P j < F.P k
  apart : ∀ j k, j < i → k < i → j ≠ k → (F.C j).ownBlock = none ∨ (F.C j).ownBlock ≠ (F.C k).ownBlock
theorem map_ne_blk {w : World} {P : Program} {k : TypeId} {R : Value → Option (DataW H × List MemPlace)} {b n g : Nat} {D : DataW H} {t : TypeId} {cs : List Value} (h : w.ownsMap P k R b n D) (hg : Blk w g t cs) : b ≠ g := by
  rintro rfl
  obtain ⟨es, clock, hb, _⟩ := h
  unfold Blk at hg
  rw [hb] at hg
  cases hg
theorem map_ne_row {w : World} {P : Program} {k : TypeId} {R : Value → Option (DataW H × List MemPlace)} {b n m base size : Nat} {D : DataW H} {e : TypeId} {v : Value} {xs : List Value} (h : w.ownsMap P k R b n D) (hr : w.ownsRow base e size v m xs) : some b ≠ v.ownBlock := by
  obtain ⟨es, clock, hb, _⟩ := h
  rcases hr.2 with ⟨rfl, _⟩ | ⟨g', cap, cur, rfl, _, hh, _⟩
  · simp [Value.ownBlock]
  · intro he
    have he' : b = g' := by simpa [Value.ownBlock] using he
    subst he'
    rw [hb] at hh
    cases hh
theorem One.kept {w w' : World} {base : Nat} {F : Fo H} {s : Sc} {j i : Nat} {row : Option Nat} (h : One w base F s j i) (hg : w.grownBy w' row) (h1 : some (F.P j) ≠ row) (h2 : some (F.M j) ≠ row) (h3 : (F.G j).ownBlock = none ∨ (F.G j).ownBlock ≠ row) (h4 : (F.C j).ownBlock = none ∨ (F.C j).ownBlock ≠ row) : One w' base F s j i :=
  ⟨h.cells.grown hg h1, h.low, h.mem.kept hg h2, h.mlow, h.memOK, h.gen.kept hg h3, h.kids.kept hg h4, h.kid, h.few⟩
theorem One.below {w w' : World} {base : Nat} {F : Fo H} {s : Sc} {j i : Nat} (h : One w base F s j i) (hb : Below w.heap.size w w') : One w' base F s j i :=
  ⟨h.cells.below hb h.cells.lt, h.low, h.mem.kept (only_of_below hb none) (by simp), h.mlow, h.memOK, own_keep h.gen hb, own_keep h.kids hb, h.kid, h.few⟩
theorem Forest.below {w w' : World} {base : Nat} {F : Fo H} {S : Nat → Sc} {i : Nat} (h : Forest w base F S i) (hb : Below w.heap.size w w') : Forest w' base F S i := ⟨fun j hj => (h.one j hj).below hb, h.inj, h.apart⟩
/-- A row of pointers of another block has been written: the tree stands. -/
theorem Forest.row45 {w w' : World} {base : Nat} {F : Fo H} {S : Nat → Sc} {i n : Nat} {v : Value} {xs : List Value} (h : Forest w base F S i) (ho : w.ownsRow base 45 1 v n xs) (hg : w.grownBy w' v.ownBlock) (ha : ∀ j, j < i → (F.C j).ownBlock = none ∨ (F.C j).ownBlock ≠ v.ownBlock) : Forest w' base F S i :=
  ⟨fun j hj => (h.one j hj).kept hg (own_ne ho (h.one j hj).cells (by decide)) (map_ne_row (h.one j hj).mem ho) (own_row_ne (h.one j hj).gen ho (by decide)) (ha j hj), h.inj, h.apart⟩
/-- One place, one new value. -/
def upd {α : Type} (f : Nat → α) (i : Nat) (v : α) : Nat → α := fun j => if j = i then v else f j
theorem upd_at {α : Type} (f : Nat → α) (i : Nat) (v : α) : upd f i v i = v := by simp [upd]
theorem upd_ne {α : Type} (f : Nat → α) {i j : Nat} (v : α) (h : j ≠ i) : upd f i v j = f j := by simp [upd, h]
/-- A scope more, without children. -/
def Fo.add (F : Fo H) (i p m : Nat) (G : Value) (D : DataW H) (x1 x8 x9 x15 : Value) : Fo H :=
  { P := upd F.P i p, M := upd F.M i m, C := upd F.C i (.slice none 0 0), G := upd F.G i G, cn := upd F.cn i 0, ch := F.ch, D := upd F.D i D, x1 := upd F.x1 i x1, x8 := upd F.x8 i x8, x9 := upd F.x9 i x9, x15 := upd F.x15 i x15 }
theorem Forest.add {w : World} {base : Nat} {F : Fo H} {S : Nat → Sc} {i p m : Nat} {G x1 x8 x9 x15 : Value} {D : DataW H} (h : Forest w base F S i) (hp : ∀ j, j < i → F.P j < p)
    (cells : Blk w p 79 (scCells x1 (.slice none 0 0) m G x8 x9 (S i).ev x15)) (low : base ≤ p) (mem : w.ownsMap Tryd.prog 9 refE m (S i).n D) (mlow : base ≤ m) (memOK : Members D (S i) (S i).n) (gen : w.ownsRow base 69 2 G (S i).gn (row ((S i).gn * 2) (genAt (S i)))) :
    Forest w base (F.add i p m G D x1 x8 x9 x15) S (i + 1) := by
  refine ⟨fun j hj => ?_, fun j k hjk hk => ?_, fun j k hj hk hne => ?_⟩
  · by_cases q : j = i
    · subst q
      exact ⟨by simpa [Fo.add, upd] using cells, by simpa [Fo.add, upd] using low, by simpa [Fo.add, upd] using mem, by simpa [Fo.add, upd] using mlow, by simpa [Fo.add, upd] using memOK, by simpa [Fo.add, upd] using gen, by simpa [Fo.add, upd, row] using own_nil w base 45 1, by simp [Fo.add, upd], by simp [Fo.add, upd]⟩
    · have o := h.one j (by omega)
      have e : (row (F.cn j) fun t => Value.pointer (some ⟨upd F.P i p (F.ch j t), 0, none⟩)) = row (F.cn j) fun t => .pointer (some ⟨F.P (F.ch j t), 0, none⟩) := row_congr _ _ _ fun t ht => by rw [upd_ne _ _ (by have := (o.kid t ht).2; omega)]
      refine ⟨?_, ?_, ?_, ?_, ?_, ?_, ?_, ?_, ?_⟩
      · simpa [Fo.add, upd, q] using o.cells
      · simpa [Fo.add, upd, q] using o.low
      · simpa [Fo.add, upd, q] using o.mem
      · simpa [Fo.add, upd, q] using o.mlow
      · simpa [Fo.add, upd, q] using o.memOK
      · simpa [Fo.add, upd, q] using o.gen
      · simp only [Fo.add, upd_ne _ _ q]
        rw [e]
        exact o.kids
      · simp only [Fo.add, upd_ne _ _ q]
        exact fun t ht => ⟨(o.kid t ht).1, by have := (o.kid t ht).2; omega⟩
      · simp only [Fo.add, upd_ne _ _ q]
        have := o.few
        omega
  · simp only [Fo.add]
    by_cases q : k = i
    · subst q
      rw [upd_at, upd_ne _ _ (by omega)]
      exact hp j hjk
    · rw [upd_ne _ _ q, upd_ne _ _ (by omega)]
      exact h.inj j k hjk (by omega)
  · simp only [Fo.add]
    by_cases q : j = i
    · subst q
      rw [upd_at]
      exact .inl rfl
    · by_cases q2 : k = i
      · subst q2
        rw [upd_ne _ _ q, upd_at]
        by_cases c : (F.C j).ownBlock = none
        · exact .inl c
        · exact .inr (by simpa [Value.ownBlock] using c)
      · rw [upd_ne _ _ q, upd_ne _ _ q2]
        exact h.apart j k (by omega) (by omega) hne
/-- A child more of one scope. -/
def Fo.kid (F : Fo H) (par q : Nat) (v : Value) : Fo H := { F with C := upd F.C par v, cn := upd F.cn par (F.cn par + 1), ch := upd F.ch par (upd (F.ch par) (F.cn par) q) }
theorem grown_set (w : World) (p o : Nat) (u : Value) : w.grownBy (w.setCell ⟨p, o, none⟩ u) (some p) := only_setCell (World.grownBy.refl w (some p)) (.inl rfl) u
theorem own_block_lt {w : World} {base : Nat} {e : TypeId} {size n k : Nat} {v : Value} {xs : List Value} (h : w.ownsRow base e size v n xs) (hk : v.ownBlock = some k) : k < w.heap.size := (h.lt k hk).2
theorem Forest.child {w w2 : World} {base : Nat} {F : Fo H} {S : Nat → Sc} {i par q g cap : Nat} (h : Forest w base F S i) (hpar : par < q) (hq : q < i) (hfew : F.cn par + 1 ≤ i)
    (hO : w2.ownsRow base 45 1 (.slice (some ⟨g, 0, none⟩) (F.cn par + 1) cap) (F.cn par + 1) ((row (F.cn par) fun t => .pointer (some ⟨F.P (F.ch par t), 0, none⟩)) ++ [.pointer (some ⟨F.P q, 0, none⟩)]))
    (hG : w.grownBy w2 (F.C par).ownBlock) (hat : (F.C par).ownBlock = some g ∨ w.heap.size ≤ g) :
    Forest (w2.setCell ⟨F.P par, 2, none⟩ (.slice (some ⟨g, 0, none⟩) (F.cn par + 1) cap)) base (F.kid par q (.slice (some ⟨g, 0, none⟩) (F.cn par + 1) cap)) S i := by
  have op := h.one par (by omega)
  have hsz : w.heap.size ≤ w2.heap.size := hG.size
  have cells2 : Blk w2 (F.P par) 79 _ := op.cells.grown hG (own_ne op.kids op.cells (by decide))
  have hst := grown_set w2 (F.P par) 2 (.slice (some ⟨g, 0, none⟩) (F.cn par + 1) cap)
  refine ⟨fun j hj => ?_, h.inj, fun j k hj hk hne => ?_⟩
  · have oj := h.one j hj
    by_cases e : j = par
    · subst e
      have m2 := op.mem.kept hG (map_ne_row op.mem op.kids)
      have g2 := op.gen.kept hG (own_row_ne op.gen op.kids (by decide))
      have m3 := m2.kept hst (fun e => map_ne_blk m2 cells2 (by injection e))
      have g3 := own_far g2 2 (.slice (some ⟨g, 0, none⟩) (F.cn j + 1) cap) (own_ne g2 cells2 (by decide))
      have k3 := own_far hO 2 (.slice (some ⟨g, 0, none⟩) (F.cn j + 1) cap) (own_ne hO cells2 (by decide))
      have c3 := cells2.set_ 2 (.slice (some ⟨g, 0, none⟩) (F.cn j + 1) cap)
      refine ⟨?_, op.low, m3, op.mlow, op.memOK, g3, ?_, ?_, ?_⟩
      · simpa [Fo.kid, upd, scCells] using c3
      · simp only [Fo.kid, upd_at]
        have e : (row (F.cn j + 1) fun t => Value.pointer (some ⟨F.P (upd (F.ch j) (F.cn j) q t), 0, none⟩)) = (row (F.cn j) fun t => .pointer (some ⟨F.P (F.ch j t), 0, none⟩)) ++ [.pointer (some ⟨F.P q, 0, none⟩)] := by
          rw [row_snoc, upd_at, row_congr (F.cn j) _ (fun t => Value.pointer (some ⟨F.P (F.ch j t), 0, none⟩)) fun t ht => by rw [upd_ne _ _ (by omega)]]
        rw [e]
        exact k3
      · simp only [Fo.kid, upd_at]
        intro t ht
        by_cases c : t = F.cn j
        · subst c
          rw [upd_at]
          exact ⟨hpar, hq⟩
        · rw [upd_ne _ _ c]
          exact op.kid t (by omega)
      · simp only [Fo.kid, upd_at]
        exact hfew
    · have hne : some (F.P j) ≠ some (F.P par) := by
        intro c
        injection c with c
        rcases Nat.lt_or_gt_of_ne e with q1 | q1
        · have := h.inj j par q1 (by omega)
          omega
        · have := h.inj par j q1 hj
          omega
      have o2 := oj.kept hG (own_ne op.kids oj.cells (by decide)) (map_ne_row oj.mem op.kids) (own_row_ne oj.gen op.kids (by decide)) (h.apart j par hj (by omega) e)
      have o3 := o2.kept hst hne (fun c => map_ne_blk o2.mem cells2 (by injection c)) (by
        by_cases c : (F.G j).ownBlock = none
        · exact .inl c
        · exact .inr (fun e => own_ne o2.gen cells2 (by decide) e.symm)) (by
        by_cases c : (F.C j).ownBlock = none
        · exact .inl c
        · exact .inr (fun e => own_ne o2.kids cells2 (by decide) e.symm))
      refine ⟨?_, o3.low, o3.mem, o3.mlow, o3.memOK, o3.gen, ?_, ?_, ?_⟩
      · simpa [Fo.kid, upd, e] using o3.cells
      · simp only [Fo.kid, upd_ne _ _ e]
        exact o3.kids
      · simp only [Fo.kid, upd_ne _ _ e]
        exact o3.kid
      · simp only [Fo.kid, upd_ne _ _ e]
        exact o3.few
  · have far : ∀ k, k < i → k ≠ par → some g ≠ (F.C k).ownBlock := by
      intro k hk hkp c
      rcases hat with a | a
      · rcases h.apart k par hk (by omega) hkp with b | b
        · rw [b] at c; cases c
        · exact b (by rw [a, ← c])
      · have := own_block_lt (h.one k hk).kids c.symm
        omega
    simp only [Fo.kid]
    by_cases e1 : j = par
    · subst e1
      rw [upd_at, upd_ne _ _ (Ne.symm hne)]
      exact .inr (by simpa [Value.ownBlock] using far k hk (Ne.symm hne))
    · by_cases e2 : k = par
      · subst e2
        rw [upd_at, upd_ne _ _ e1]
        exact .inr (by simpa [Value.ownBlock] using (far j hj e1).symm)
      · rw [upd_ne _ _ e1, upd_ne _ _ e2]
        exact h.apart j k hj hk hne
end Go.Proofs.YtofdoaollanbpaaDoor.Res
