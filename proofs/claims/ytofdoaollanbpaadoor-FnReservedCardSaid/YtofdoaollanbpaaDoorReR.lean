/- impl.module: the tree of scopes is built. The walk. -/
import Derived.Test.YtofdoaollanbpaaDoorReQ
namespace Go.Proofs.YtofdoaollanbpaaDoor.Res
open Go.RowKit Go.Proofs.YtofdoaollanbpaaDoor.Aid
attribute [local go_sem ↓] Go.wp_at_zero Go.wp_at_succ
set_option linter.unusedVariables false
set_option linter.unusedSimpArgs false
variable {H : Type}
def Apart (a b : Option Nat) : Prop := a = none ∨ a ≠ b
theorem Apart.symm {a b : Option Nat} (h : Apart a b) : Apart b a := by
  rcases h with h | h
  · subst h
    by_cases q : b = none
    · exact .inl q
    · exact .inr q
  · exact .inr (Ne.symm h)
/-- The state ahead of a round of impl.module. -/
def Built (w wr : World) (S : Nat → Sc) (i : Nat) (out : Value) : Prop :=
  ∃ F : Fo H, Below w.heap.size w wr ∧ Forest wr w.heap.size F S i ∧ wr.ownsRow w.heap.size 45 1 out i (row i fun t => .pointer (some ⟨F.P t, 0, none⟩)) ∧ ∀ j, j < i → Apart (F.C j).ownBlock out.ownBlock
/-- The scope that a round is making. -/
structure New (wr wx : World) (h p M : Nat) (s : Sc) (D : DataW H) (k1 : Nat) (G : Value) (k2 : Nat) (x1 x8 x9 x15 : Value) : Prop where
  low : Below wr.heap.size wr wx
  blk : Blk wx h 39 [.int .i64 s.p, .int .i64 s.k, .slice s.A s.n s.c, .slice s.R s.rn s.rc, .slice s.G s.gn s.gc, .int .i64 s.l, .bool s.ev]
  cells : Blk wx p 79 (scCells x1 (.slice none 0 0) M G x8 x9 s.ev x15)
  plow : wr.heap.size ≤ p
  mem : wx.ownsMap Tryd.prog 9 refE M k1 D
  mlow : wr.heap.size ≤ M
  memOK : Members D s k1
  gen : wx.ownsRow wr.heap.size 69 2 G k2 (row (k2 * 2) (genAt s))
theorem New.later {wr wx wy : World} {h p M : Nat} {s : Sc} {D : DataW H} {k1 k2 : Nat} {G x1 x8 x9 x15 : Value} (n : New wr wx h p M s D k1 G k2 x1 x8 x9 x15) (hb : Below wx.heap.size wx wy) : New wr wy h p M s D k1 G k2 x1 x8 x9 x15 :=
  ⟨n.low.trans (Below.mono_ hb n.low.size), n.blk.below hb n.blk.lt, n.cells.below hb n.cells.lt, n.plow, n.mem.kept (only_of_below hb none) (by simp), n.mlow, n.memOK, own_keep n.gen hb⟩
theorem info69 : (Tryd.prog.info? 69).map (fun i => (i.zero, i.size, i.bytes)) = some (some (.agg #[.int .u32 0, .int .u32 0]), 2, 8) := by kernel_rfl
theorem info45 : (Tryd.prog.info? 45).map (fun i => (i.zero, i.size, i.bytes)) = some (some (.pointer none), 1, 8) := by kernel_rfl
theorem New.push {wr wx wy : World} {h p M g cap : Nat} {s : Sc} {D : DataW H} {k1 k2 : Nat} {G x1 x8 x9 x15 : Value} (n : New wr wx h p M s D k1 G k2 x1 x8 x9 x15)
    (hO : wy.ownsRow wr.heap.size 69 2 (.slice (some ⟨g, 0, none⟩) (k2 + 1) cap) (k2 + 1) (row ((k2 + 1) * 2) (genAt s))) (hG : wx.grownBy wy G.ownBlock) : New wr (wy.setCell ⟨p, 5, none⟩ (.slice (some ⟨g, 0, none⟩) (k2 + 1) cap)) h p M s D k1 (.slice (some ⟨g, 0, none⟩) (k2 + 1) cap) (k2 + 1) x1 x8 x9 x15 := by
  have lowy := below_of_only n.low n.low.size hG (fun k hk => own_below n.gen k hk)
  have blky := n.blk.grown hG (own_ne n.gen n.blk (by decide))
  have celly := n.cells.grown hG (own_ne n.gen n.cells (by decide))
  have memy := n.mem.kept hG (map_ne_row n.mem n.gen)
  have hst := grown_set wy p 5 (.slice (some ⟨g, 0, none⟩) (k2 + 1) cap)
  refine ⟨below_of_only lowy lowy.size hst (fun k hk => by injection hk with hk; rw [← hk]; exact n.plow), blky.far (by show h ≠ p; exact blk_ne blky celly (by decide)) _, ?_, n.plow, memy.kept hst (fun e => map_ne_blk memy celly (by injection e)), n.mlow, n.memOK, own_far hO 5 _ (own_ne hO celly (by decide))⟩
  simpa [scCells] using celly.set_ 5 (.slice (some ⟨g, 0, none⟩) (k2 + 1) cap)
theorem New.setc {wr wx : World} {h p M : Nat} {s : Sc} {D : DataW H} {k1 k2 : Nat} {G x1 x8 x9 x15 y1 y8 y9 : Value} (n : New wr wx h p M s D k1 G k2 x1 x8 x9 x15) (o : Nat) (u : Value)
    (he : (scCells x1 (.slice none 0 0) M G x8 x9 s.ev x15).set o u = scCells y1 (.slice none 0 0) M G y8 y9 s.ev x15) : New wr (wx.setCell ⟨p, o, none⟩ u) h p M s D k1 G k2 y1 y8 y9 x15 := by
  have hst := grown_set wx p o u
  refine ⟨below_of_only n.low n.low.size hst (fun k hk => by injection hk with hk; rw [← hk]; exact n.plow), n.blk.far (by show h ≠ p; exact blk_ne n.blk n.cells (by decide)) _, ?_, n.plow, n.mem.kept hst (fun e => map_ne_blk n.mem n.cells (by injection e)), n.mlow, n.memOK, own_far n.gen o _ (own_ne n.gen n.cells (by decide))⟩
  have := n.cells.set_ o u
  rwa [he] at this
theorem key9 : Maps.Keyed Tryd.prog 9 := Maps.string_keyed Tryd.underlying9
theorem New.put {wr wx wy : World} {h p M : Nat} {s : Sc} {D : DataW H} {k1 k2 r : Nat} {G x1 x8 x9 x15 : Value} (n : New wr wx h p M s D k1 G k2 x1 x8 x9 x15) (hr : s.refs k1 = r) (hne : ∀ i, i < k1 → s.names i ≠ s.names k1)
    (hm : wy.ownsMap Tryd.prog 9 refE M (k1 + 1) (D.put (key (s.names k1)) (.lit (.int .u32 (r : Int))))) (hg : wx.grownBy wy (some M)) : New wr wy h p M s (D.put (key (s.names k1)) (.lit (.int .u32 (r : Int)))) (k1 + 1) G k2 x1 x8 x9 x15 := by
  have h1 := n.memOK.step hne
  rw [hr] at h1
  refine ⟨below_of_only n.low n.low.size hg (fun g hg => by injection hg with hg; rw [← hg]; exact n.mlow), n.blk.grown hg (fun e => map_ne_blk n.mem n.blk (by injection e with e; exact e.symm)), n.cells.grown hg (fun e => map_ne_blk n.mem n.cells (by injection e with e; exact e.symm)), n.plow, hm, n.mlow, h1, n.gen.kept hg ?_⟩
  by_cases c : G.ownBlock = none
  · exact .inl c
  · exact .inr (fun e => map_ne_row n.mem n.gen e.symm)
theorem own_rows_eq {w : World} {base n : Nat} {v : Value} {e : TypeId} {size : Nat} {xs ys : List Value} (h : w.ownsRow base e size v n xs) (k : w.ownsRow base e size v n ys) : xs = ys := by
  rcases h.2 with ⟨h1, h2⟩ | ⟨g, cap, cur, h1, _, h2, _, _, _, h3⟩
  · have l1 := h.1
    have l2 := k.1
    rcases k.2 with ⟨_, k2⟩ | ⟨g', cap', cur', k1, _⟩
    · rw [h2] at l1 l2
      simp at l1 l2
      rw [l1, l2]
    · rw [h1] at k1
      cases k1
  · rcases k.2 with ⟨k1, _⟩ | ⟨g', cap', cur', k1, _, k2, _, _, _, k3⟩
    · rw [h1] at k1
      cases k1
    · rw [h1] at k1
      injection k1 with k1
      injection k1 with k1
      injection k1 with k1
      subst k1
      rw [h2] at k2
      injection k2 with k2
      injection k2 with k2
      subst k2
      rw [← h3, ← k3]
/-- The tree with the new scope, ahead of the list of all. -/
def Grown (w wx : World) (S : Nat → Sc) (i p : Nat) (out : Value) : Prop :=
  ∃ F : Fo H, Below w.heap.size w wx ∧ Forest wx w.heap.size F S (i + 1) ∧ F.P i = p ∧ wx.ownsRow w.heap.size 45 1 out i (row i fun t => .pointer (some ⟨F.P t, 0, none⟩)) ∧ ∀ j, j < i + 1 → Apart (F.C j).ownBlock out.ownBlock
/-- The same, the new scope being nobody's child yet. -/
def Grown0 (w wx : World) (S : Nat → Sc) (i p : Nat) (out : Value) (F : Fo H) (M : Nat) (G : Value) (D : DataW H) (x1 x8 x9 x15 : Value) : Prop :=
  Below w.heap.size w wx ∧ Forest wx w.heap.size (F.add i p M G D x1 x8 x9 x15) S (i + 1) ∧ wx.ownsRow w.heap.size 45 1 out i (row i fun t => .pointer (some ⟨F.P t, 0, none⟩)) ∧ (∀ j, j < i → Apart (F.C j).ownBlock out.ownBlock) ∧ ∀ j, j < i → F.cn j ≤ i ∧ ∀ t, t < F.cn j → F.ch j t < i
theorem grown0 {w W0 wx : World} {S : Nat → Sc} {i p h M : Nat} {out : Value} {F : Fo H} {G x1 x8 x9 x15 : Value} {D : DataW H} (hB : Below w.heap.size w W0) (hF : Forest W0 w.heap.size F S i) (hO : W0.ownsRow w.heap.size 45 1 out i (row i fun t => .pointer (some ⟨F.P t, 0, none⟩))) (hA : ∀ j, j < i → Apart (F.C j).ownBlock out.ownBlock)
    (n : New W0 wx h p M (S i) D (S i).n G (S i).gn x1 x8 x9 x15) (hp : ∀ j, j < i → F.P j < p) : Grown0 w wx S i p out F M G D x1 x8 x9 x15 :=
  ⟨up hB n.low, (hF.below n.low).add hp n.cells (Nat.le_trans hB.size n.plow) n.mem (Nat.le_trans hB.size n.mlow) n.memOK (own_lower n.gen hB.size), own_keep hO n.low, hA, fun j hj => ⟨(hF.one j hj).few, fun t ht => ((hF.one j hj).kid t ht).2⟩⟩
theorem grown_of0 {w wx : World} {S : Nat → Sc} {i p M : Nat} {out : Value} {F : Fo H} {G x1 x8 x9 x15 : Value} {D : DataW H} (h : Grown0 w wx S i p out F M G D x1 x8 x9 x15) : Grown (H := H) w wx S i p out := by
  obtain ⟨h1, h2, h3, h4, _⟩ := h
  refine ⟨_, h1, h2, upd_at _ _ _, ?_, fun j hj => ?_⟩
  · have e : (row i fun t => Value.pointer (some ⟨(F.add i p M G D x1 x8 x9 x15).P t, 0, none⟩)) = row i fun t => .pointer (some ⟨F.P t, 0, none⟩) := row_congr _ _ _ fun t ht => by
      simp only [Fo.add]
      rw [upd_ne _ _ (by omega)]
    rw [e]
    exact h3
  · by_cases q : j = i
    · subst q
      exact .inl (by simp [Fo.add, upd, Value.ownBlock])
    · have := h4 j (by omega)
      simpa [Fo.add, upd, q] using this
theorem grown_child {w w3 w5 : World} {S : Nat → Sc} {i p M par g cap : Nat} {out : Value} {F : Fo H} {G x1 x8 x9 x15 : Value} {D : DataW H} (h : Grown0 w w3 S i p out F M G D x1 x8 x9 x15) (hpar : par < i)
    (hO : w5.ownsRow w.heap.size 45 1 (.slice (some ⟨g, 0, none⟩) (F.cn par + 1) cap) (F.cn par + 1) ((row (F.cn par) fun t => .pointer (some ⟨F.P (F.ch par t), 0, none⟩)) ++ [.pointer (some ⟨p, 0, none⟩)]))
    (hG : w3.grownBy w5 (F.C par).ownBlock) (hat : (F.C par).ownBlock = some g ∨ w3.heap.size ≤ g) :
    Grown (H := H) w (w5.setCell ⟨F.P par, 2, none⟩ (.slice (some ⟨g, 0, none⟩) (F.cn par + 1) cap)) S i p out := by
  obtain ⟨hB, hF, hR, hA, hC⟩ := h
  have hne : par ≠ i := by omega
  have eC : (F.add i p M G D x1 x8 x9 x15).C par = F.C par := upd_ne _ _ hne
  have eP : (F.add i p M G D x1 x8 x9 x15).P par = F.P par := upd_ne _ _ hne
  have eN : (F.add i p M G D x1 x8 x9 x15).cn par = F.cn par := upd_ne _ _ hne
  have eI : (F.add i p M G D x1 x8 x9 x15).P i = p := upd_at _ _ _
  have eR : (row (F.cn par) fun t => Value.pointer (some ⟨(F.add i p M G D x1 x8 x9 x15).P (F.ch par t), 0, none⟩)) = row (F.cn par) fun t => .pointer (some ⟨F.P (F.ch par t), 0, none⟩) := row_congr _ _ _ fun t ht => by
    simp only [Fo.add]
    rw [upd_ne _ _ (by have := (hC par hpar).2 t ht; omega)]
  have eO : (row i fun t => Value.pointer (some ⟨(F.add i p M G D x1 x8 x9 x15).P t, 0, none⟩)) = row i fun t => .pointer (some ⟨F.P t, 0, none⟩) := row_congr _ _ _ fun t ht => by
    simp only [Fo.add]
    rw [upd_ne _ _ (by omega)]
  have op := hF.one par (by omega)
  have hfew : F.cn par + 1 ≤ i + 1 := by have := (hC par hpar).1; omega
  have key := hF.child (q := i) (g := g) (cap := cap) (w2 := w5) hpar (by omega) (by rw [eN]; exact hfew) (by rw [eN, eI]; show w5.ownsRow _ _ _ _ _ ((row (F.cn par) fun t => Value.pointer (some ⟨(F.add i p M G D x1 x8 x9 x15).P (F.ch par t), 0, none⟩)) ++ _); rw [eR]; exact hO) (by rw [eC]; exact hG) (by rw [eC]; exact hat)
  rw [eN, eP] at key
  have hB5 := below_of_only hB hB.size hG (fun k hk => own_below (by have := op.kids; rw [eC] at this; exact this) k hk)
  have hR5 := hR.kept hG (hA par hpar).symm
  have hGe : w3.grownBy w5 ((F.add i p M G D x1 x8 x9 x15).C par).ownBlock := by rw [eC]; exact hG
  have c5 := op.cells.grown hGe (own_ne op.kids op.cells (by decide))
  rw [eP] at c5
  have hst := grown_set w5 (F.P par) 2 (.slice (some ⟨g, 0, none⟩) (F.cn par + 1) cap)
  refine ⟨_, below_of_only hB5 hB5.size hst (fun k hk => by injection hk with hk; rw [← hk, ← eP]; exact op.low), key, eI, ?_, fun j hj => ?_⟩
  · show World.ownsRow _ _ _ _ _ _ (row i fun t => Value.pointer (some ⟨(F.add i p M G D x1 x8 x9 x15).P t, 0, none⟩))
    rw [eO]
    exact own_far hR5 2 _ (own_ne hR5 c5 (by decide))
  · simp only [Fo.kid]
    by_cases q : j = par
    · subst q
      rw [upd_at]
      refine .inr ?_
      show some g ≠ out.ownBlock
      intro c
      rcases hat with a | a
      · rcases hA j hpar with b | b
        · rw [b] at a; cases a
        · exact b (by rw [a, c])
      · have := own_block_lt hR c.symm
        omega
    · rw [upd_ne _ _ q]
      by_cases q2 : j = i
      · subst q2
        exact .inl (by simp [Fo.add, upd, Value.ownBlock])
      · have := hA j (by omega)
        simpa [Fo.add, upd, q2] using this
theorem grown_next {w w4 w5 : World} {S : Nat → Sc} {i p g cap : Nat} {out : Value} (h : Grown (H := H) w w4 S i p out) (hO : ∀ F : Fo H, F.P i = p → w4.ownsRow w.heap.size 45 1 out i (row i fun t => .pointer (some ⟨F.P t, 0, none⟩)) → w5.ownsRow w.heap.size 45 1 (.slice (some ⟨g, 0, none⟩) (i + 1) cap) (i + 1) ((row i fun t => .pointer (some ⟨F.P t, 0, none⟩)) ++ [.pointer (some ⟨p, 0, none⟩)]))
    (hG : w4.grownBy w5 out.ownBlock) (hat : out.ownBlock = some g ∨ w4.heap.size ≤ g) : Built (H := H) w w5 S (i + 1) (.slice (some ⟨g, 0, none⟩) (i + 1) cap) := by
  obtain ⟨F, hB, hF, hP, hR, hA⟩ := h
  have hO' := hO F hP hR
  refine ⟨F, below_of_only hB hB.size hG (fun k hk => own_below hR k hk), hF.row45 hR hG hA, ?_, fun j hj => ?_⟩
  · rw [row_snoc, hP]
    exact hO'
  · rcases hat with a | a
    · have := hA j hj
      rw [a] at this
      exact this
    · refine .inr ?_
      intro c
      have : g < w4.heap.size := own_block_lt (hF.one j hj).kids (c.trans rfl)
      omega
set_option maxRecDepth 100000 in
set_option maxHeartbeats 8000000 in
theorem module_ (A : Option Addr) (n c : Nat) (S : Nat → Sc) (Y : Nat → Sy) (m : Nat) (y0 y1 : Int) (w : World) (h : RSc w A n S) (hn : n ≤ 60) (h0 : 0 < n) (hm : m ≤ 200) (hS : ∀ i, i < n → (S i).Small) (hF : ∀ i, i < n → Fit (S i) Y m i)
    (hy0 : w.cell? ⟨2, 0, none⟩ = some (.int .u32 y0)) (hy1 : w.cell? ⟨2, 1, none⟩ = some (.int .u32 y1)) (hb : 3 ≤ w.heap.size) :
    Calls Tryd.prog 20 #[.slice A n c] w fun e w' => Below w.heap.size w w' ∧ ∃ F : Fo H, e = .returned (.pointer (some ⟨F.P 0, 0, none⟩)) ∧ Forest w' w.heap.size F S n := by
  obtain ⟨i0, hi0, hz0, hz1, hz2⟩ := info_parts info3
  have HH := Lib.hid (fun W (hb : Below w.heap.size w W) => h.below hb)
  have HV := Lib.hid (fun W (hb' : Below w.heap.size w W) => (⟨bcell hb' (by omega) hy0, bcell hb' (by omega) hy1⟩ : W.cell? ⟨2, 0, none⟩ = some (.int .u32 y0) ∧ W.cell? ⟨2, 1, none⟩ = some (.int .u32 y1)))
  have HSM := Lib.hid hS
  have HFIT := Lib.hid hF
  have HRF := Lib.hid ref_
  have hmm := @run_makeMap Tryd.prog
  obtain ⟨i9, hi9, hz90, hz91, hz92⟩ := info_parts info69
  obtain ⟨i4, hi4, hz40, hz41, hz42⟩ := info_parts info45
  clear h hS hF hy0 hy1
  go_enter Tryd.func20, Tryd.ntmps20
  go_wp2_with fail
  go_loopg [3, 13] n (fun k ov iv wr => ∃ (i : Nat), iv = .int .i64 i ∧ Aside (i + k = n ∧ Built (H := H) w wr S i ov))
  case atStart =>
    exact ⟨0, rfl, ⟨by omega, { P := fun _ => 0, M := fun _ => 0, C := fun _ => .slice none 0 0, G := fun _ => .slice none 0 0, cn := fun _ => 0, ch := fun _ _ => 0, D := fun _ => .map [], x1 := fun _ => .pointer none, x8 := fun _ => .pointer none, x9 := fun _ => .pointer none, x15 := fun _ => .pointer none }, Below.refl _ _, ⟨fun j hj => by omega, fun j k _ hk => by omega, fun j k hj => by omega⟩, own_nil _ _ _ _, fun j hj => by omega⟩⟩
  case round =>
    obtain ⟨i, hiv, HA⟩ := hrel
    subst hiv
    obtain ⟨ov, hov⟩ : ∃ ov, ov = u3 := ⟨_, rfl⟩
    subst hov
    obtain ⟨F, fb, fo, fr, fa⟩ := HA.out.2
    have HI := Lib.hid HA.out.1
    have HB := Lib.hid fb
    have HFO := Lib.hid fo
    have HO := Lib.hid fr
    have HOA := Lib.hid fa
    clear HA fb fo fr fa
    obtain ⟨W0, hW0⟩ : ∃ W0, W0 = wr := ⟨_, rfl⟩
    subst hW0
    by_cases hlt : i < n
    · obtain ⟨hIn, b, o, hA, hb, c0, c1, c2, c3, c4, c5, c6⟩ := HH.out _ HB.out i hlt
      subst hA
      have hlt' : (i : Int) < n := by omega
      have HIn := Lib.hid hIn
      have HSm := Lib.hid (HSM.out i hlt)
      have HFit := Lib.hid (HFIT.out i hlt)
      obtain ⟨s, hs⟩ : ∃ s, S i = s := ⟨_, rfl⟩
      rw [hs] at HIn HSm HFit c0 c1 c2 c3 c4 c5 c6
      have HSE := Lib.hid hs
      clear hIn hs
      have HK := Lib.hid (Blk.new W0 39 [.int .i64 s.p, .int .i64 s.k, .slice s.A s.n s.c, .slice s.R s.rn s.rc, .slice s.G s.gn s.gc, .int .i64 s.l, .bool s.ev])
      go_upto_region 5 with fail
      obtain ⟨w1, e1⟩ : ∃ w1, w1 = W0.alloc (.cells #[.int .i64 s.p, .int .i64 s.k, .slice s.A s.n s.c, .slice s.R s.rn s.rc, .slice s.G s.gn s.gc, .int .i64 s.l, .bool s.ev] 39) := ⟨_, rfl⟩
      have N1 := Lib.hid (show Below W0.heap.size W0 w1 by rw [e1]; exact below_at (Below.refl _ _) _)
      have s1 : W0.heap.size < w1.heap.size := by rw [e1]; simp
      have HSZ1 := Lib.hid s1
      replace HK := Lib.hid (show Blk w1 W0.heap.size 39 [.int .i64 s.p, .int .i64 s.k, .slice s.A s.n s.c, .slice s.R s.rn s.rc, .slice s.G s.gn s.gc, .int .i64 s.l, .bool s.ev] by rw [e1]; exact HK.out)
      rw [← e1]
      clear e1 s1 c0 c1 c2 c3 c4 c5 c6
      have d1 := HK.out.get 1 rfl
      have d6 := (HK.out.alloc (.map #[] 0)).get 6 rfl
      obtain ⟨v0, v1⟩ := HV.out (w1.alloc (.map #[] 0)) (below_at (up HB.out N1.out) _)
      go_upto_region 6 with fail
      have hNEW : New (H := H) W0 ((w1.alloc (.map #[] 0)).alloc (.cells #[.pointer none, .pointer none, .slice none 0 0, .map (some w1.heap.size), .slice none 0 0, .slice none 0 0, .int .i32 0, .int .i32 0, .int .u32 y0, .int .u32 y1, .bool false, .bool s.ev, .bool false, .bool false, .int .u8 0, .int .u8 (s.k % 256)] 79)) W0.heap.size (w1.heap.size + 1) w1.heap.size s (.map []) 0 (.slice none 0 0) 0 (.pointer none) (.int .u32 y0) (.int .u32 y1) (.int .u8 (s.k % 256)) := by
        refine ⟨below_at (below_at N1.out _) _, (HK.out.alloc _).alloc _, ?_, by have := HSZ1.out; omega, ?_, by have := HSZ1.out; omega, Members.start s, by simpa [row] using own_nil _ _ 69 2⟩
        · have := Blk.new (w1.alloc (.map #[] 0)) 79 [.pointer none, .pointer none, .slice none 0 0, .map (some w1.heap.size), .slice none 0 0, .slice none 0 0, .int .i32 0, .int .i32 0, .int .u32 y0, .int .u32 y1, .bool false, .bool s.ev, .bool false, .bool false, .int .u8 0, .int .u8 (s.k % 256)]
          rwa [show (w1.alloc (.map #[] 0)).heap.size = w1.heap.size + 1 from by simp] at this
        · exact (World.ownsMap_made w1 Tryd.prog 9 refE).alloc _
      obtain ⟨w2, e2⟩ : ∃ w2, w2 = (w1.alloc (.map #[] 0)).alloc (.cells #[.pointer none, .pointer none, .slice none 0 0, .map (some w1.heap.size), .slice none 0 0, .slice none 0 0, .int .i32 0, .int .i32 0, .int .u32 y0, .int .u32 y1, .bool false, .bool s.ev, .bool false, .bool false, .int .u8 0, .int .u8 (s.k % 256)] 79) := ⟨_, rfl⟩
      obtain ⟨M, hM⟩ : ∃ M, M = w1.heap.size := ⟨_, rfl⟩
      obtain ⟨p, hp⟩ : ∃ p, p = w1.heap.size + 1 := ⟨_, rfl⟩
      obtain ⟨h39, hh⟩ : ∃ h39, h39 = W0.heap.size := ⟨_, rfl⟩
      rw [← e2, ← hp, ← hM, ← hh] at hNEW
      rw [← e2, ← hp, ← hM, ← hh]
      have HP := Lib.hid (show ∀ j, j < i → F.P j < p from fun j hj => by have := (HFO.out.one j hj).cells.lt; have := HSZ1.out; omega)
      have HNEW := Lib.hid hNEW
      clear hNEW e2 hM hp hh HK N1 HSZ1 d1 d6 v0 v1
      have k2 := HNEW.out.blk.get 2 rfl
      have n1 := HIn.out.n1
      go_wp2_with fail
      go_loopg [30] s.n (fun q kv wx => ∃ (k : Nat), kv = .int .i64 k ∧ Aside (∃ D : DataW H, k + q = s.n ∧ New W0 wx h39 p M s D k (.slice none 0 0) 0 (.pointer none) (.int .u32 y0) (.int .u32 y1) (.int .u8 (s.k % 256))))
      case atStart => exact ⟨0, rfl, ⟨_, by omega, HNEW.out⟩⟩
      case round =>
        clear k2 HNEW
        obtain ⟨k, rfl, HA⟩ := hrel
        obtain ⟨D, hkq, hN⟩ := HA.out
        have HKQ := Lib.hid hkq
        have HN := Lib.hid hN
        clear HA hkq hN
        by_cases hkl : k < s.n
        · have hkl' : (k : Int) < s.n := by omega
          have hkr : k < s.rn := by have := HFit.out.named.1; omega
          have hkr' : (k : Int) < s.rn := by omega
          have HInX := Lib.hid (HIn.out.below (HN.out.low))
          obtain ⟨nb, no, hNA, hnb, hnc⟩ := HInX.out.r1 k hkl
          obtain ⟨rb, ro, hRA, hrb, hrc⟩ := HInX.out.r2 k hkr
          obtain ⟨g0, g1⟩ := HFit.out.refs k hkr
          obtain ⟨r, hr⟩ : ∃ r : Nat, s.refs k = r := ⟨(s.refs k).toNat, by omega⟩
          have HRM := Lib.hid (show r < 4294967296 by omega)
          have HRE := Lib.hid hr
          have HNB := Lib.hid hnb
          have HRB := Lib.hid hrb
          simp only [hr] at hrc
          simp only at hnc
          clear hr g0 g1 hnb hrb
          have k2 := HN.out.blk.get 2 rfl
          rw [hNA] at k2
          obtain ⟨nm, hnm⟩ : ∃ nm, s.names k = nm := ⟨_, rfl⟩
          have HNM := Lib.hid hnm
          rw [hnm] at hnc
          clear hnm
          go_upto_region 9 with fail
          have k3 := HN.out.cells.get 3 rfl
          have b3 := HN.out.blk.get 3 rfl
          rw [hRA] at b3
          have HRA := Lib.hid hRA
          clear k2 hnc hNA hRA
          refine Hoist.start (S := fun _ w' => w'.cell? ⟨p, 3, none⟩ = some (.map (some M)) ∧ w'.cell? ⟨h39, 3, none⟩ = some (.slice (some ⟨rb, ro, none⟩) s.rn s.rc) ∧ w'.cell? ⟨rb, ro + k, none⟩ = some (.int .i64 (r : Int))) (by kernel_rfl) ?_
          refine Hoist.takeS (i := 0) (v := ?v0) rfl (by kernel_rfl) (by kernel_rfl) (by kernel_rfl) (fun _ _ _ h => h) ⟨by rfl, ?hy0⟩ ⟨k3, b3, hrc⟩ ?rest0
          case hy0 =>
            intro w' hSw
            obtain ⟨s0, s1, s2⟩ := hSw
            go_simp
            rfl
          simp only [Act.put, List.setIfInBounds_toArray, List.set_cons_zero, List.set_cons_succ]
          refine Hoist.takeS (i := 1) (v := ?v1) rfl (by kernel_rfl) (by kernel_rfl) (by kernel_rfl) (fun _ _ _ h => h) ⟨by rfl, ?hy1⟩ ⟨k3, b3, hrc⟩ ?rest1
          case hy1 =>
            intro w' hSw
            obtain ⟨s0, s1, s2⟩ := hSw
            go_simp
            rfl
          simp only [Act.put, List.setIfInBounds_toArray, List.set_cons_zero, List.set_cons_succ]
          refine Hoist.takeS (i := 2) (v := ?v2) rfl (by kernel_rfl) (by kernel_rfl) (by kernel_rfl) (fun _ _ _ h => h) ⟨by rfl, ?hy2⟩ ⟨k3, b3, hrc⟩ ?rest2
          case hy2 =>
            intro w' hSw
            obtain ⟨s0, s1, s2⟩ := hSw
            go_simp
            rfl
          simp only [Act.put, List.setIfInBounds_toArray, List.set_cons_zero, List.set_cons_succ]
          refine Hoist.takeS (i := 3) (v := ?v3) rfl (by kernel_rfl) (by kernel_rfl) (by kernel_rfl) (fun _ _ _ h => h) ⟨by rfl, ?hy3⟩ ⟨k3, b3, hrc⟩ ?rest3
          case hy3 =>
            intro w' hSw
            obtain ⟨s0, s1, s2⟩ := hSw
            go_simp
            rfl
          simp only [Act.put, List.setIfInBounds_toArray, List.set_cons_zero, List.set_cons_succ]
          refine Hoist.takeS (i := 4) (v := ?v4) rfl (by kernel_rfl) (by kernel_rfl) (by kernel_rfl) (fun _ _ _ h => h) ⟨by rfl, ?hy4⟩ ⟨k3, b3, hrc⟩ ?rest4
          case hy4 =>
            intro w' hSw
            obtain ⟨s0, s1, s2⟩ := hSw
            go_simp
            rfl
          simp only [Act.put, List.setIfInBounds_toArray, List.set_cons_zero, List.set_cons_succ]
          refine Hoist.takeS (i := 5) (v := ?v5) rfl (by kernel_rfl) (by kernel_rfl) (by kernel_rfl) (fun _ _ _ h => h) ⟨by rfl, ?hy5⟩ ⟨k3, b3, hrc⟩ ?rest5
          case hy5 =>
            intro w' hSw
            obtain ⟨s0, s1, s2⟩ := hSw
            go_simp
            rfl
          simp only [Act.put, List.setIfInBounds_toArray, List.set_cons_zero, List.set_cons_succ]
          refine Hoist.takeS (i := 6) (v := ?v6) rfl (by kernel_rfl) (by kernel_rfl) (by kernel_rfl) (fun _ _ _ h => h) ⟨by rfl, ?hy6⟩ ⟨k3, b3, hrc⟩ ?rest6
          case hy6 =>
            intro w' hSw
            obtain ⟨s0, s1, s2⟩ := hSw
            go_simp
            rfl
          simp only [Act.put, List.setIfInBounds_toArray, List.set_cons_zero, List.set_cons_succ]
          refine Hoist.takeS (i := 7) (v := ?v7) rfl (by kernel_rfl) (by kernel_rfl) (by kernel_rfl) (fun _ _ _ h => h) ⟨by rfl, ?hy7⟩ ⟨k3, b3, hrc⟩ ?rest7
          case hy7 =>
            intro w' hSw
            obtain ⟨s0, s1, s2⟩ := hSw
            go_simp
            rfl
          simp only [Act.put, List.setIfInBounds_toArray, List.set_cons_zero, List.set_cons_succ]
          refine Hoist.takeS (i := 8) (v := ?v8) rfl (by kernel_rfl) (by kernel_rfl) (by kernel_rfl) (fun _ _ _ h => h) ⟨by rfl, ?hy8⟩ ⟨k3, b3, hrc⟩ ?rest8
          case hy8 =>
            intro w' hSw
            obtain ⟨s0, s1, s2⟩ := hSw
            go_simp
            rfl
          simp only [Act.put, List.setIfInBounds_toArray, List.set_cons_zero, List.set_cons_succ]
          refine Hoist.takeS (i := 9) (v := ?v9) rfl (by kernel_rfl) (by kernel_rfl) (by kernel_rfl) (fun _ _ _ h => h) ⟨by rfl, ?hy9⟩ ⟨k3, b3, hrc⟩ ?rest9
          case hy9 =>
            intro w' hSw
            obtain ⟨s0, s1, s2⟩ := hSw
            go_simp
            rfl
          simp only [Act.put, List.setIfInBounds_toArray, List.set_cons_zero, List.set_cons_succ]
          refine Hoist.only (i := 10) rfl (by kernel_rfl) ?_
          intro K hK
          go_simp
          refine (HRF.out r _ HRM.out).mono ?_
          rintro e w4 ⟨rfl, b4⟩
          have hbb := up (below_drew (Below.refl wr.heap.size wr)) b4
          have HN4 := Lib.hid (HN.out.later hbb)
          have k34 := HN4.out.cells.get 3 rfl
          have b34 := HN4.out.blk.get 3 rfl
          rw [HRA.out] at b34
          have hrc4 := bcell hbb HRB.out hrc
          refine hK _ _ ⟨k34, b34, hrc4⟩ ?_
          clear hK K k3 b3 hrc b4 hbb HN
          refine Hoist.only (i := 11) rfl (by kernel_rfl) ?_
          intro K hK
          go_simp
          refine hK _ _ ⟨k34, b34, hrc4⟩ ?_
          clear hK K
          refine Hoist.only (i := 12) rfl (by kernel_rfl) ?_
          intro K hK
          obtain ⟨w5, hrun, hown5, hgr5⟩ := HN4.out.mem.update (t := 67) (e := 82) key9 Tryd.underlying67 (by have := HIn.out.n1; simp only [maxLen]; omega) (WideMaps.keyOf_string_mk Tryd.underlying9 (s := nm) (by have := HSm.out.2.1 k hkl; rw [HNM.out] at this; simp only [maxLen]; omega)) (refE_mk r)
          have hrun' : (Instr.mapUpdate 67 (.map (some M)) (.string nm) (.agg #[.int .u32 0, .int .u32 (r : Int), .int .i32 0])).run Tryd.prog w4 = .ok () w5 := hrun
          have HN5 := Lib.hid (HN4.out.put HRE.out (fun i' hi' => HFit.out.named.2.1 i' k hi' hkl) (by rw [HNM.out]; exact hown5) hgr5)
          go_simp
          have k35 := HN5.out.cells.get 3 rfl
          have b35 := HN5.out.blk.get 3 rfl
          rw [HRA.out] at b35
          have hrc5 : w5.cell? ⟨rb, ro + k, none⟩ = some (.int .i64 (r : Int)) := by
            obtain ⟨rb', ro', hA', _, hc'⟩ := (HIn.out.below HN5.out.low).r2 k hkr
            rw [HRA.out] at hA'
            injection hA' with hA'
            injection hA' with q0 q1
            subst q0 q1
            simp only [HRE.out] at hc'
            exact hc'
          refine hK _ _ ⟨k35, b35, hrc5⟩ ?_
          clear hK K hrun hrun' hown5 hgr5 k34 b34 hrc4 k35 b35 hrc5
          refine Hoist.over (by kernel_rfl) ?_ _
          go_wp2_with fail
          go_roundg (s.n - (k + 1))
          case measure => have := HKQ.out; omega
          case rel => exact ⟨k + 1, val_int (by omega), ⟨_, by have := HKQ.out; omega, HN5.out⟩⟩
        · have hks : k = s.n := by have := HKQ.out; omega
          subst hks
          have k4 := HN.out.blk.get 4 rfl
          have n3 := HIn.out.n3
          obtain ⟨gA, hgA⟩ : ∃ gA, s.G = gA := ⟨_, rfl⟩
          rw [hgA] at k4 ⊢
          have HGA := Lib.hid hgA
          clear hgA
          go_wp2_with fail
          go_loopg [51] s.gn (fun q kv wx => ∃ (k : Nat), kv = .int .i64 k ∧ Aside (∃ G : Value, k + q = s.gn ∧ New W0 wx h39 p M s D s.n G k (.pointer none) (.int .u32 y0) (.int .u32 y1) (.int .u8 (s.k % 256))))
          case atStart => exact ⟨0, rfl, ⟨_, by omega, HN.out⟩⟩
          case round =>
            clear k4 HN
            obtain ⟨k, rfl, HA⟩ := hrel
            obtain ⟨G, hkq, hN⟩ := HA.out
            have HKQ := Lib.hid hkq
            have HN := Lib.hid hN
            clear HA hkq hN
            by_cases hkl : k < s.gn
            · have hkl' : (k : Int) < s.gn := by omega
              obtain ⟨rb, ro, hGA, hrb, hrc⟩ := (HIn.out.below (HN.out.low)).r3 k hkl
              obtain ⟨g0, g1⟩ := HFit.out.gens k hkl
              obtain ⟨r, hr⟩ : ∃ r : Nat, s.gens k = r := ⟨(s.gens k).toNat, by omega⟩
              have HRM := Lib.hid (show r < 4294967296 by omega)
              have HRE := Lib.hid hr
              simp only [hr] at hrc
              clear hr g0 g1 hrb
              rw [HGA.out] at hGA
              subst hGA
              go_upto_region 14 with fail
              have hSG := HN.out.cells.get 5 rfl
              clear hrc
              refine Hoist.start (S := fun L w' => L.getD 8 true = false → w'.cell? ⟨p, 5, none⟩ = some G) (by kernel_rfl) ?_
              refine Hoist.take (i := 0) (T := fun _ => True) (G := fun _ => True) (v := ?v0b) rfl (by kernel_rfl) (by kernel_rfl) (by kernel_rfl) (fun _ _ _ h => h) (fun L w hs hm => hs (by rw [getD_set_ne true (by decide)]; exact hm)) (fun _ _ _ _ _ _ => trivial) (fun _ _ _ _ => trivial) trivial (Or.inl ⟨by rfl, ?hy0b⟩) (fun _ => hSG) ?rest0b
              case hy0b =>
                intro w' hSw
                go_simp
                all_goals rfl
              simp only [Act.put, List.setIfInBounds_toArray, List.set_cons_zero, List.set_cons_succ]
              refine Hoist.take (i := 1) (T := fun _ => True) (G := fun _ => True) (v := ?v1b) rfl (by kernel_rfl) (by kernel_rfl) (by kernel_rfl) (fun _ _ _ h => h) (fun L w hs hm => hs (by rw [getD_set_ne true (by decide)]; exact hm)) (fun _ _ _ _ _ _ => trivial) (fun _ _ _ _ => trivial) trivial (Or.inl ⟨by rfl, ?hy1b⟩) (fun _ => hSG) ?rest1b
              case hy1b =>
                intro w' hSw
                go_simp
                all_goals rfl
              simp only [Act.put, List.setIfInBounds_toArray, List.set_cons_zero, List.set_cons_succ]
              refine Hoist.take (i := 2) (T := fun _ => True) (G := fun _ => True) (v := ?v2b) rfl (by kernel_rfl) (by kernel_rfl) (by kernel_rfl) (fun _ _ _ h => h) (fun L w hs hm => hs (by rw [getD_set_ne true (by decide)]; exact hm)) (fun _ _ _ _ _ _ => trivial) (fun _ _ _ _ => trivial) trivial (Or.inl ⟨by rfl, ?hy2b⟩) (fun _ => hSG) ?rest2b
              case hy2b =>
                intro w' hSw
                go_simp
                all_goals rfl
              simp only [Act.put, List.setIfInBounds_toArray, List.set_cons_zero, List.set_cons_succ]
              refine Hoist.take (i := 3) (T := fun _ => True) (G := fun _ => True) (v := ?v3b) rfl (by kernel_rfl) (by kernel_rfl) (by kernel_rfl) (fun _ _ _ h => h) (fun L w hs hm => hs (by rw [getD_set_ne true (by decide)]; exact hm)) (fun _ _ _ _ _ _ => trivial) (fun _ _ _ _ => trivial) trivial (Or.inl ⟨by rfl, ?hy3b⟩) (fun _ => hSG) ?rest3b
              case hy3b =>
                intro w' hSw
                go_simp
                all_goals rfl
              simp only [Act.put, List.setIfInBounds_toArray, List.set_cons_zero, List.set_cons_succ]
              refine Hoist.take (i := 4) (T := fun w' => w'.cell? ⟨p, 5, none⟩ = some G) (G := fun L => L.getD 8 true = false) (v := ?v4b) rfl (by kernel_rfl) (by kernel_rfl) (by kernel_rfl) (fun _ _ _ h => h) (fun L w hs hm => hs (by rw [getD_set_ne true (by decide)]; exact hm)) (Hoist.waits 8 4 (by kernel_rfl)) (fun _ _ hL h => h hL) (by kernel_rfl) (Or.inl ⟨by rfl, ?hy4b⟩) (fun _ => hSG) ?rest4b
              case hy4b =>
                intro w' hSw
                go_simp
                all_goals rfl
              simp only [Act.put, List.setIfInBounds_toArray, List.set_cons_zero, List.set_cons_succ]
              refine Hoist.take (i := 5) (T := fun _ => True) (G := fun _ => True) (v := ?v5b) rfl (by kernel_rfl) (by kernel_rfl) (by kernel_rfl) (fun _ _ _ h => h) (fun L w hs hm => hs (by rw [getD_set_ne true (by decide)]; exact hm)) (fun _ _ _ _ _ _ => trivial) (fun _ _ _ _ => trivial) trivial (Or.inl ⟨by rfl, ?hy5b⟩) (fun _ => hSG) ?rest5b
              case hy5b =>
                intro w' hSw
                go_simp
                all_goals rfl
              simp only [Act.put, List.setIfInBounds_toArray, List.set_cons_zero, List.set_cons_succ]
              refine Hoist.only (i := 6) rfl (by kernel_rfl) ?_
              intro K hK
              go_simp
              refine (HRF.out r _ HRM.out).mono ?_
              rintro e w4 ⟨rfl, b4⟩
              have HN4 := Lib.hid (HN.out.later (up (below_drew (Below.refl wr.heap.size wr)) b4))
              refine hK _ _ (fun _ => HN4.out.cells.get 5 rfl) ?_
              clear hK K hSG b4 HN
              refine Hoist.only (i := 7) rfl (by kernel_rfl) ?_
              intro K hK
              go_simp
              obtain ⟨w5, e5⟩ : ∃ w5, w5 = w4.alloc (.cells #[.int .u32 0, .int .u32 (r : Int)] 69) := ⟨_, rfl⟩
              have HN5 := Lib.hid (show New W0 w5 h39 p M s D s.n G k (.pointer none) (.int .u32 y0) (.int .u32 y1) (.int .u8 (s.k % 256)) by rw [e5]; exact HN4.out.later (below_at (Below.refl _ _) _))
              have hE5 : Blk w5 w4.heap.size 69 [.int .u32 0, .int .u32 (r : Int)] := by rw [e5]; exact Blk.new w4 69 _
              rw [← e5]
              clear e5
              refine hK _ _ (fun _ => HN5.out.cells.get 5 rfl) ?_
              clear hK K HN4
              refine Hoist.only (i := 8) rfl (by kernel_rfl) ?_
              intro K hK
              refine step_append_el (by rfl) (.tmp 59) (.tmp 62) 76 (by rfl) W0.heap.size 69 i9 _ 2 8 Tryd.underlying76 hi9 hz90 hz91 hz92 rfl (by omega) G k _ (by rfl) HN5.out.gen w4.heap.size (by rfl) [.int .u32 0, .int .u32 (r : Int)] hE5 rfl (by simp [Value.oneCell']) (by have := HSm.out.2.2.2; simp only [maxLen]; omega) (by have := HSm.out.2.2.2; omega) HN5.out.low.size ?_
              intro g' cap w6 hown6 hgrow _ _
              rw [gens_snoc s k r HRE.out] at hown6
              have HN7 := Lib.hid (HN5.out.push hown6 hgrow)
              have c56 := (HN5.out.cells.grown hgrow (own_ne HN5.out.gen HN5.out.cells (by decide)))
              have c5 := c56.get 5 rfl
              have f5 := c56.frozen 5
              refine hK _ _ (fun hL => absurd hL (by simp)) ?_
              clear hK K hown6 hgrow hE5 HN5
              refine Hoist.only (i := 9) rfl (by kernel_rfl) ?_
              intro K hK
              go_simp
              refine hK _ _ (fun hL => absurd hL (by simp)) ?_
              clear hK K
              refine Hoist.only (i := 10) rfl (by kernel_rfl) ?_
              intro K hK
              go_simp
              refine hK _ _ (fun hL => absurd hL (by simp)) ?_
              clear hK K
              refine Hoist.only (i := 11) rfl (by kernel_rfl) ?_
              intro K hK
              go_simp
              obtain ⟨w7, e7⟩ : ∃ w7, w7 = w6.setCell ⟨p, 5, none⟩ (.slice (some ⟨g', 0, none⟩) (k + 1) cap) := ⟨_, rfl⟩
              rw [← e7] at HN7 ⊢
              clear e7 c56 c5 f5
              refine hK _ _ (fun hL => absurd hL (by simp)) ?_
              clear hK K
              refine Hoist.over (by kernel_rfl) ?_ _
              go_wp2_with fail
              go_roundg (s.gn - (k + 1))
              case measure => have := HKQ.out; omega
              case rel => exact ⟨k + 1, val_int (by omega), ⟨_, by have := HKQ.out; omega, HN7.out⟩⟩
            · have hks : k = s.gn := by have := HKQ.out; omega
              subst hks
              have k5 := HN.out.blk.get 5 rfl
              go_upto_if 69 with fail
              go_cut [] (fun wx => ∃ x8 x9 : Value, Aside (New W0 wx h39 p M s D s.n G s.gn (.pointer none) x8 x9 (.int .u8 (s.k % 256))))
              case first =>
                by_cases hl : 0 ≤ s.l
                · obtain ⟨x, hx⟩ : ∃ x : Nat, s.l = x := ⟨s.l.toNat, by omega⟩
                  have hxm := (HFit.out.lab hl).1
                  have hx32 : x < 4294967296 := by omega
                  rw [hx] at k5
                  rw [hx]
                  clear hl hxm hx
                  go_wp2_with fail
                  refine (HRF.out x _ hx32).mono ?_
                  rintro e w4 ⟨rfl, b4⟩
                  have HN4 := Lib.hid (HN.out.later b4)
                  have e8 := HN4.out.cells.get 8 rfl
                  have e9 := HN4.out.cells.get 9 rfl
                  have f8 := HN4.out.cells.frozen 8
                  have f9 := HN4.out.cells.frozen 9
                  clear b4 HN k5
                  go_wp2_with fail
                  go_meet
                  exact ⟨_, _, (HN4.out.setc 8 (.int .u32 0) rfl).setc 9 (.int .u32 (x : Int)) rfl⟩
                · go_wp2_with fail
                  go_meet
                  exact ⟨_, _, HN.out⟩
              case rest =>
                obtain ⟨x8, x9, HC⟩ := hcut
                have HN := Lib.hid HC.out
                clear HC k5
                have k0 := HN.out.blk.get 0 rfl
                go_upto_if 79 with fail
                go_cut [] (fun wx => Aside (Grown (H := H) w wx S i p ov))
                case first =>
                  by_cases hp0 : 0 ≤ s.p
                  · have hip : 0 < i := by
                      rcases Nat.eq_zero_or_pos i with q | q
                      · have := (HFit.out.top q).1
                        omega
                      · exact q
                    obtain ⟨par, hpar⟩ : ∃ par : Nat, s.p = par := ⟨s.p.toNat, by omega⟩
                    have hpi : par < i := by have := (HFit.out.par hip).2; omega
                    have hpi' : (par : Int) < i := by omega
                    obtain ⟨oA, oc, hov, hoc⟩ := own_form HO.out
                    subst hov
                    obtain ⟨og, hoA, _, hogl, hoc'⟩ := hoc par (by omega)
                    subst hoA
                    rw [row_get _ _ _ hpi] at hoc'
                    have hocw := bcell HN.out.low hogl hoc'
                    rw [hpar] at k0
                    have c1 := HN.out.cells.get 1 rfl
                    have f1 := HN.out.cells.frozen 1
                    obtain ⟨pp, hpp⟩ : ∃ pp, F.P par = pp := ⟨_, rfl⟩
                    rw [hpp] at hocw
                    have HPP := Lib.hid hpp
                    have HPAR := Lib.hid hpar
                    rw [hpar]
                    clear hp0 hip hpar hoc hoc' hogl hpp
                    go_upto_region 20 with fail
                    have HN1 := Lib.hid (HN.out.setc (y1 := .pointer (some ⟨pp, 0, none⟩)) 1 (.pointer (some ⟨pp, 0, none⟩)) rfl)
                    obtain ⟨w1, e1⟩ : ∃ w1, w1 = wc.setCell ⟨p, 1, none⟩ (.pointer (some ⟨pp, 0, none⟩)) := ⟨_, rfl⟩
                    rw [← e1] at HN1 ⊢
                    clear e1 k0 hocw c1 f1 HN
                    have HCP := Lib.hid ((HFO.out.one par hpi).below HN1.out.low)
                    have hPlt : pp < p := by have := HP.out par hpi; rw [HPP.out] at this; exact this
                    obtain ⟨cv, hcv⟩ : ∃ cv, F.C par = cv := ⟨_, rfl⟩
                    have HCV := Lib.hid hcv
                    have cpar : w1.cell? ⟨pp, 2, none⟩ = some cv := by
                      have := HCP.out.cells.get 2 rfl
                      rw [HPP.out, hcv] at this
                      exact this
                    clear hcv
                    obtain ⟨S1, hS1⟩ : ∃ S1 : World → Prop, S1 = fun w' => w'.cell? ⟨p, 1, none⟩ = some (.pointer (some ⟨pp, 0, none⟩)) := ⟨_, rfl⟩
                    obtain ⟨SG, hSG⟩ : ∃ SG : World → Prop, SG = fun w' => w'.cell? ⟨pp, 2, none⟩ = some cv := ⟨_, rfl⟩
                    have h1 : S1 w1.drew := by rw [hS1]; exact HN1.out.cells.get 1 rfl
                    have hg : SG w1.drew := by rw [hSG]; exact cpar
                    have HS1 := Lib.hid hS1
                    have HSG := Lib.hid hSG
                    clear hS1 hSG
                    refine Hoist.start (S := fun L w' => S1 w' ∧ (L.getD 13 true = false → SG w')) (by kernel_rfl) ?_
                    refine Hoist.take (i := 0) (T := S1) (G := fun _ => True) (v := ?v0c) rfl (by kernel_rfl) (by kernel_rfl) (by kernel_rfl) (fun _ _ _ h => h) (S_si 13 0 (by decide)) (fun _ _ _ _ _ _ => trivial) (fun _ _ _ h => h.1) trivial (Or.inl ⟨by rfl, ?hy0c⟩) ⟨h1, fun _ => hg⟩ ?rest0c
                    case hy0c =>
                      intro w' hSw
                      rw [HS1.out] at hSw
                      go_simp
                      all_goals rfl
                    simp only [Act.put, List.setIfInBounds_toArray, List.set_cons_zero, List.set_cons_succ]
                    refine Hoist.take (i := 1) (T := S1) (G := fun _ => True) (v := ?v1c) rfl (by kernel_rfl) (by kernel_rfl) (by kernel_rfl) (fun _ _ _ h => h) (S_si 13 1 (by decide)) (fun _ _ _ _ _ _ => trivial) (fun _ _ _ h => h.1) trivial (Or.inl ⟨by rfl, ?hy1c⟩) ⟨h1, fun _ => hg⟩ ?rest1c
                    case hy1c =>
                      intro w' hSw
                      rw [HS1.out] at hSw
                      go_simp
                      all_goals rfl
                    simp only [Act.put, List.setIfInBounds_toArray, List.set_cons_zero, List.set_cons_succ]
                    refine Hoist.take (i := 2) (T := S1) (G := fun _ => True) (v := ?v2c) rfl (by kernel_rfl) (by kernel_rfl) (by kernel_rfl) (fun _ _ _ h => h) (S_si 13 2 (by decide)) (fun _ _ _ _ _ _ => trivial) (fun _ _ _ h => h.1) trivial (Or.inl ⟨by rfl, ?hy2c⟩) ⟨h1, fun _ => hg⟩ ?rest2c
                    case hy2c =>
                      intro w' hSw
                      rw [HS1.out] at hSw
                      go_simp
                      all_goals rfl
                    simp only [Act.put, List.setIfInBounds_toArray, List.set_cons_zero, List.set_cons_succ]
                    refine Hoist.take (i := 3) (T := S1) (G := fun _ => True) (v := ?v3c) rfl (by kernel_rfl) (by kernel_rfl) (by kernel_rfl) (fun _ _ _ h => h) (S_si 13 3 (by decide)) (fun _ _ _ _ _ _ => trivial) (fun _ _ _ h => h.1) trivial (Or.inl ⟨by rfl, ?hy3c⟩) ⟨h1, fun _ => hg⟩ ?rest3c
                    case hy3c =>
                      intro w' hSw
                      rw [HS1.out] at hSw
                      go_simp
                      all_goals rfl
                    simp only [Act.put, List.setIfInBounds_toArray, List.set_cons_zero, List.set_cons_succ]
                    refine Hoist.take (i := 4) (T := S1) (G := fun _ => True) (v := ?v4c) rfl (by kernel_rfl) (by kernel_rfl) (by kernel_rfl) (fun _ _ _ h => h) (S_si 13 4 (by decide)) (fun _ _ _ _ _ _ => trivial) (fun _ _ _ h => h.1) trivial (Or.inl ⟨by rfl, ?hy4c⟩) ⟨h1, fun _ => hg⟩ ?rest4c
                    case hy4c =>
                      intro w' hSw
                      rw [HS1.out] at hSw
                      go_simp
                      all_goals rfl
                    simp only [Act.put, List.setIfInBounds_toArray, List.set_cons_zero, List.set_cons_succ]
                    refine Hoist.take (i := 5) (T := S1) (G := fun _ => True) (v := ?v5c) rfl (by kernel_rfl) (by kernel_rfl) (by kernel_rfl) (fun _ _ _ h => h) (S_si 13 5 (by decide)) (fun _ _ _ _ _ _ => trivial) (fun _ _ _ h => h.1) trivial (Or.inl ⟨by rfl, ?hy5c⟩) ⟨h1, fun _ => hg⟩ ?rest5c
                    case hy5c =>
                      intro w' hSw
                      rw [HS1.out] at hSw
                      go_simp
                      all_goals rfl
                    simp only [Act.put, List.setIfInBounds_toArray, List.set_cons_zero, List.set_cons_succ]
                    refine Hoist.take (i := 6) (T := S1) (G := fun _ => True) (v := ?v6c) rfl (by kernel_rfl) (by kernel_rfl) (by kernel_rfl) (fun _ _ _ h => h) (S_si 13 6 (by decide)) (fun _ _ _ _ _ _ => trivial) (fun _ _ _ h => h.1) trivial (Or.inl ⟨by rfl, ?hy6c⟩) ⟨h1, fun _ => hg⟩ ?rest6c
                    case hy6c =>
                      intro w' hSw
                      rw [HS1.out] at hSw
                      go_simp
                      all_goals rfl
                    simp only [Act.put, List.setIfInBounds_toArray, List.set_cons_zero, List.set_cons_succ]
                    refine Hoist.take (i := 7) (T := S1) (G := fun _ => True) (v := ?v7c) rfl (by kernel_rfl) (by kernel_rfl) (by kernel_rfl) (fun _ _ _ h => h) (S_si 13 7 (by decide)) (fun _ _ _ _ _ _ => trivial) (fun _ _ _ h => h.1) trivial (Or.inl ⟨by rfl, ?hy7c⟩) ⟨h1, fun _ => hg⟩ ?rest7c
                    case hy7c =>
                      intro w' hSw
                      rw [HS1.out] at hSw
                      go_simp
                      all_goals rfl
                    simp only [Act.put, List.setIfInBounds_toArray, List.set_cons_zero, List.set_cons_succ]
                    refine Hoist.take (i := 8) (T := S1) (G := fun _ => True) (v := ?v8c) rfl (by kernel_rfl) (by kernel_rfl) (by kernel_rfl) (fun _ _ _ h => h) (S_si 13 8 (by decide)) (fun _ _ _ _ _ _ => trivial) (fun _ _ _ h => h.1) trivial (Or.inl ⟨by rfl, ?hy8c⟩) ⟨h1, fun _ => hg⟩ ?rest8c
                    case hy8c =>
                      intro w' hSw
                      rw [HS1.out] at hSw
                      go_simp
                      all_goals rfl
                    simp only [Act.put, List.setIfInBounds_toArray, List.set_cons_zero, List.set_cons_succ]
                    refine Hoist.take (i := 9) (T := S1) (G := fun _ => True) (v := ?v9c) rfl (by kernel_rfl) (by kernel_rfl) (by kernel_rfl) (fun _ _ _ h => h) (S_si 13 9 (by decide)) (fun _ _ _ _ _ _ => trivial) (fun _ _ _ h => h.1) trivial (Or.inl ⟨by rfl, ?hy9c⟩) ⟨h1, fun _ => hg⟩ ?rest9c
                    case hy9c =>
                      intro w' hSw
                      rw [HS1.out] at hSw
                      go_simp
                      all_goals rfl
                    simp only [Act.put, List.setIfInBounds_toArray, List.set_cons_zero, List.set_cons_succ]
                    refine Hoist.take (i := 10) (T := fun w' => S1 w' ∧ SG w') (G := fun L => L.getD 13 true = false) (v := ?v10c) rfl (by kernel_rfl) (by kernel_rfl) (by kernel_rfl) (fun _ _ _ h => h) (S_si 13 10 (by decide)) (Hoist.waits 13 10 (by kernel_rfl)) (fun _ _ hL h => ⟨h.1, h.2 hL⟩) (by kernel_rfl) (Or.inl ⟨by rfl, ?hy10c⟩) ⟨h1, fun _ => hg⟩ ?rest10c
                    case hy10c =>
                      intro w' hSw
                      rw [HSG.out] at hSw
                      obtain ⟨-, t7⟩ := hSw
                      go_simp
                      all_goals rfl
                    simp only [Act.put, List.setIfInBounds_toArray, List.set_cons_zero, List.set_cons_succ]
                    refine Hoist.take (i := 11) (T := S1) (G := fun _ => True) (v := ?v11c) rfl (by kernel_rfl) (by kernel_rfl) (by kernel_rfl) (fun _ _ _ h => h) (S_si 13 11 (by decide)) (fun _ _ _ _ _ _ => trivial) (fun _ _ _ h => h.1) trivial (Or.inl ⟨by rfl, ?hy11c⟩) ⟨h1, fun _ => hg⟩ ?rest11c
                    case hy11c =>
                      intro w' hSw
                      rw [HS1.out] at hSw
                      go_simp
                      all_goals rfl
                    simp only [Act.put, List.setIfInBounds_toArray, List.set_cons_zero, List.set_cons_succ]
                    refine Hoist.only (i := 12) rfl (by kernel_rfl) ?_
                    intro K hK
                    go_simp
                    obtain ⟨w3, e3⟩ : ∃ w3, w3 = (w1.alloc (.cells #[.pointer (some ⟨p, 0, none⟩)] 45)).drew := ⟨_, rfl⟩
                    have b13 : Below w1.heap.size w1 w3 := by rw [e3]; exact below_drew (below_at (Below.refl _ _) _)
                    have hE3 : Blk w3 w1.heap.size 45 [.pointer (some ⟨p, 0, none⟩)] := by rw [e3]; exact (Blk.new w1 45 _).drew
                    have HN3 := Lib.hid (HN1.out.later b13)
                    have HC3 := Lib.hid (HCP.out.below b13)
                    rw [← e3]
                    clear e3 b13 HN1 HCP cpar h1 hg
                    have h1a : S1 w3 := by rw [HS1.out]; exact HN3.out.cells.get 1 rfl
                    have hga : SG w3 := by
                      rw [HSG.out]
                      have := HC3.out.cells.get 2 rfl
                      rw [HPP.out, HCV.out] at this
                      exact this
                    refine hK _ _ ⟨h1a, fun _ => hga⟩ ?_
                    clear hK K h1a hga
                    refine Hoist.only (i := 13) rfl (by kernel_rfl) ?_
                    intro K hK
                    have hkids := HC3.out.kids
                    rw [HCV.out] at hkids
                    have hcn := (HFO.out.one par hpi).few
                    refine step_append_el (by rfl) (.tmp 98) (.tmp 100) 47 (by rfl) w.heap.size 45 i4 _ 1 8 Tryd.underlying47 hi4 hz40 hz41 hz42 rfl (by omega) cv (F.cn par) _ (by rfl) hkids w1.heap.size (by rfl) [.pointer (some ⟨p, 0, none⟩)] hE3 rfl (by simp [Value.oneCell']) (by simp only [maxLen]; omega) (by omega) (by have := HB.out.size; have := HN3.out.low.size; omega) ?_
                    intro g' cap w5 hown5 hgrow hat _
                    have HG0 := Lib.hid (show Grown0 (H := H) w w3 S i p _ F M G D (.pointer (some ⟨pp, 0, none⟩)) x8 x9 (.int .u8 (s.k % 256)) from grown0 HB.out HFO.out HO.out HOA.out (by rw [HSE.out]; exact HN3.out) HP.out)
                    have HGR := Lib.hid (grown_child HG0.out hpi hown5 (by rw [HCV.out]; exact hgrow) (by rw [HCV.out]; exact hat.imp id (fun h => by omega)))
                    rw [HPP.out] at HGR
                    have c5 := HC3.out.cells.grown hgrow (own_ne hkids HC3.out.cells (by decide))
                    rw [HPP.out] at c5
                    have n5 := HN3.out.cells.grown hgrow (own_ne hkids HN3.out.cells (by decide))
                    have d7 := c5.get 2 rfl
                    have d8 := c5.frozen 2
                    have h1b : S1 w5 := by rw [HS1.out]; exact n5.get 1 rfl
                    have n6 := n5.far (p := ⟨pp, 2, none⟩) (by show p ≠ pp; omega) (.slice (some ⟨g', 0, none⟩) (F.cn par + 1) cap)
                    have h1c : S1 (w5.setCell ⟨pp, 2, none⟩ (.slice (some ⟨g', 0, none⟩) (F.cn par + 1) cap)) := by rw [HS1.out]; exact n6.get 1 rfl
                    refine hK _ _ ⟨h1b, fun hL => absurd hL (by simp)⟩ ?_
                    clear hK K hown5 hgrow hat hE3 hkids HG0 HN3 HC3 c5 n5 n6
                    refine Hoist.only (i := 14) rfl (by kernel_rfl) ?_
                    intro K hK
                    go_simp
                    refine hK _ _ ⟨h1b, fun hL => absurd hL (by simp)⟩ ?_
                    clear hK K
                    refine Hoist.only (i := 15) rfl (by kernel_rfl) ?_
                    intro K hK
                    go_simp
                    refine hK _ _ ⟨h1b, fun hL => absurd hL (by simp)⟩ ?_
                    clear hK K
                    refine Hoist.only (i := 16) rfl (by kernel_rfl) ?_
                    intro K hK
                    go_simp
                    refine hK _ _ ⟨h1c, fun hL => absurd hL (by simp)⟩ ?_
                    clear hK K
                    refine Hoist.over (by kernel_rfl) ?_ _
                    go_wp2_with fail
                    go_meet
                    exact HGR.out
                  · go_wp2_with fail
                    go_meet
                    exact grown_of0 (grown0 HB.out HFO.out HO.out HOA.out (by rw [HSE.out]; exact HN.out) HP.out)
                case rest =>
                  have HGN := Lib.hid hcut.out
                  clear hcut HN k0
                  have HOW := Lib.hid (show ∃ xs, wc.ownsRow w.heap.size 45 1 ov i xs from by obtain ⟨F', _, _, _, h4, _⟩ := HGN.out; exact ⟨_, h4⟩)
                  have HBC := Lib.hid (show w.heap.size ≤ wc.heap.size from by obtain ⟨F', h1, _⟩ := HGN.out; exact h1.size)
                  obtain ⟨xs, hxs⟩ := HOW.out
                  have HXS := Lib.hid hxs
                  have hm1 : i + 1 ≤ maxLen := by simp only [maxLen]; omega
                  clear hxs HOW
                  go_wp2_with (at_builtin; refine wpList_append_new rfl _ _ 47 rfl w.heap.size 45 i4 _ 1 8 Tryd.underlying47 hi4 hz40 hz41 hz42 rfl (by omega) _ _ _ rfl HXS.out [.pointer (some ⟨p, 0, none⟩)] rfl rfl (by simp [Value.oneCell']) hm1 (by omega) HBC.out ?_; intro g' cap w5 hown hgrow hat)
                  have HBT := Lib.hid (show Built (H := H) w w5 S (i + 1) (.slice (some ⟨g', 0, none⟩) (i + 1) cap) from grown_next HGN.out (fun F' _ hR => by have := own_rows_eq hR HXS.out; rw [this]; exact hown) hgrow hat)
                  go_roundg (n - (i + 1))
                  case measure => have := HI.out; omega
                  case rel => exact ⟨i + 1, val_int (by omega), ⟨by have := HI.out; omega, HBT.out⟩⟩
    · have hin : i = n := by have := HI.out; omega
      subst hin
      obtain ⟨oA, oc, hov, hoc⟩ := own_form HO.out
      subst hov
      obtain ⟨og, hoA, _, hogl, hoc'⟩ := hoc 0 (by omega)
      subst hoA
      rw [row_get _ _ _ h0] at hoc'
      have hi00 : (0 : Int) < i := by omega
      clear hoc
      go_wp2_with fail
      go_returns
      exact ⟨HB.out, F, rfl, HFO.out⟩
end Go.Proofs.YtofdoaollanbpaaDoor.Res
