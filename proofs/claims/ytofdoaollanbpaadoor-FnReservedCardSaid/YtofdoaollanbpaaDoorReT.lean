/- The names that one scope reserves: the scope itself. The walk. -/
import Derived.Test.YtofdoaollanbpaaDoorReS
namespace Go.Proofs.YtofdoaollanbpaaDoor.Res
open Go.RowKit Go.Proofs.YtofdoaollanbpaaDoor.Aid
attribute [local go_sem ↓] Go.wp_at_zero Go.wp_at_succ
set_option linter.unusedVariables false
set_option linter.unusedSimpArgs false
variable {H : Type}
/-- What stands in the names by now: all of before, and those of the members that are no longer to come. -/
structure Done (N0 N : DataW H) (s : Sc) (Y : Nat → Sy) (left : Lit → Bool) (g : Nat) : Prop where
  old : ∀ l, Maps.has N0 l = true → Maps.has N l = true
  mem : ∀ k, k < s.n → left (key (s.names k)) = false → (Y (s.refs k).toNat).kept = true → Maps.has N (key (Y (s.refs k).toNat).name) = true
  gen : ∀ k, k < g → (Y (s.gens k).toNat).kept = true → Maps.has N (key (Y (s.gens k).toNat).name) = true
theorem put_has {N : DataW H} (h : Maps.IsMap N) (x : ByteArray) (d : DataW H) (l : Lit) (hl : Maps.has N l = true ∨ l = key x) : Maps.has (N.put (key x) d) l = true := by
  by_cases q : l = key x
  · rw [q]
    exact Maps.has_put_same h (key_lit _) _
  · rw [Maps.has_put_other q]
    exact hl.resolve_right q
/-- The range over the members is under way. -/
structure Scan (w wr : World) (M bN r nN : Nat) (D N : DataW H) (s : Sc) (Y : Nat → Sy) (gs : Nat) (left : Lit → Bool) (k n : Nat) (N' : DataW H) (g : Nat) : Prop where
  rg : wr.ranges Tryd.prog 9 refE M r s.n D left k
  nm : Names wr bN n N'
  dn : Done N N' s Y left g
  gr : w.grownBy wr (some bN)
  b50 : Blk wr w.heap.size 50 [.slice (some ⟨gs, 0, none⟩) 1 1]
  rlow : w.heap.size < r
  blow : bN < w.heap.size
theorem map_lt {w : World} {P : Program} {k : TypeId} {R : Value → Option (DataW H × List MemPlace)} {b n : Nat} {D : DataW H} (h : w.ownsMap P k R b n D) : b < w.heap.size := h.lt
theorem Done.next {N N' : DataW H} {s : Sc} {Y : Nat → Sy} {left : Lit → Bool} {g : Nat} (h : Done N N' s Y left g) (kl : Lit) (N2 : DataW H) (h0 : ∀ l, Maps.has N' l = true → Maps.has N2 l = true) (h1 : ∀ k, k < s.n → key (s.names k) = kl → (Y (s.refs k).toNat).kept = true → Maps.has N2 (key (Y (s.refs k).toNat).name) = true) :
    Done N N2 s Y (fun z => left z && !z.sameKey kl) g := by
  refine ⟨fun l hl => h0 l (h.old l hl), fun k hk hl hke => ?_, fun k hk hke => h0 _ (h.gen k hk hke)⟩
  by_cases q : key (s.names k) = kl
  · exact h1 k hk q hke
  · simp only [Maps.sameKey_ne q, Bool.not_false, Bool.and_true] at hl
    exact h0 _ (h.mem k hk hl hke)
/-- What stands while a round goes on. -/
def Mid (w wr : World) (M bN r : Nat) (D : DataW H) (s : Sc) (gs : Nat) (left : Lit → Bool) (k n : Nat) (N' : DataW H) : Prop :=
  wr.ranges Tryd.prog 9 refE M r s.n D left k ∧ Names wr bN n N' ∧ w.grownBy wr (some bN) ∧ Blk wr w.heap.size 50 [.slice (some ⟨gs, 0, none⟩) 1 1] ∧ w.heap.size < r ∧ bN < w.heap.size
theorem Scan.step {w wr w1 w2 : World} {M bN r nN k k1 n gs g : Nat} {D N N' : DataW H} {s : Sc} {Y : Nat → Sy} {left left1 : Lit → Bool} (h : Scan w wr M bN r nN D N s Y gs left k n N' g) (hrg : w1.ranges Tryd.prog 9 refE M r s.n D left1 k1) (hg : wr.grownBy w1 (some r)) (hb : Below w1.heap.size w1 w2) :
    Mid w w2 M bN r D s gs left1 k1 n N' := by
  have h1 := h.rlow
  have h2 := h.blow
  have hgb := only_of_below hb none
  refine ⟨hrg.kept hgb (by simp) (by simp), ⟨(h.nm.1.kept hg (fun e => by injection e with e; omega)).kept hgb (by simp), h.nm.2⟩, ?_, (h.b50.grown hg (fun e => by injection e with e; omega)).below hb ?_, h1, h2⟩
  · exact (h.gr.andThen hg (fun j hj => by injection hj with hj; exact .inl (by omega))).andThen hgb (fun j hj => by cases hj)
  · have := h.b50.lt
    have := hg.size
    omega
theorem Mid.later {w wr w2 : World} {M bN r k n gs : Nat} {D N' : DataW H} {s : Sc} {left : Lit → Bool} (h : Mid w wr M bN r D s gs left k n N') (hb : Below wr.heap.size wr w2) : Mid w w2 M bN r D s gs left k n N' := by
  obtain ⟨h1, h2, h3, h4, h5, h6⟩ := h
  have hgb := only_of_below hb none
  exact ⟨h1.kept hgb (by simp) (by simp), ⟨h2.1.kept hgb (by simp), h2.2⟩, h3.andThen hgb (fun j hj => by cases hj), h4.below hb h4.lt, h5, h6⟩
theorem Mid.store {w wr w2 : World} {M bN r k n n' gs : Nat} {D N' N2 : DataW H} {s : Sc} {left : Lit → Bool} (h : Mid w wr M bN r D s gs left k n N') (hne : bN ≠ M) (hg : wr.grownBy w2 (some bN)) (hN : Names w2 bN n' N2) : Mid w w2 M bN r D s gs left k n' N2 := by
  obtain ⟨h1, h2, h3, h4, h5, h6⟩ := h
  refine ⟨h1.kept hg (fun e => hne (by injection e with e; exact e.symm)) (fun e => by injection e with e; omega), hN, h3.andThen hg (fun j hj => .inr hj), h4.grown hg (fun e => by injection e with e; omega), h5, h6⟩
theorem Scan.of {w wr : World} {M bN r nN k n gs g : Nat} {D N N' : DataW H} {s : Sc} {Y : Nat → Sy} {left : Lit → Bool} (h : Mid w wr M bN r D s gs left k n N') (hd : Done N N' s Y left g) : Scan w wr M bN r nN D N s Y gs left k n N' g :=
  ⟨h.1, h.2.1, hd, h.2.2.1, h.2.2.2.1, h.2.2.2.2.1, h.2.2.2.2.2⟩
theorem Tab.grown {w w' : World} {gs cap m b n : Nat} {A : Option Addr} {Y : Nat → Sy} {y0 y1 : Int} {P : Program} {k : TypeId} {R : Value → Option (DataW H × List MemPlace)} {D : DataW H} (h : Tab w gs A cap Y m y0 y1) (hg : w.grownBy w' (some b)) (hm : w.ownsMap P k R b n D) : Tab w' gs A cap Y m y0 y1 := by
  refine ⟨h.blk.grown hg (fun e => map_ne_blk hm h.blk (by injection e with e; exact e.symm)), fun q hq => ?_⟩
  obtain ⟨c, o, hA, hlt, hc⟩ := h.rd q hq
  refine ⟨c, o, hA, Nat.lt_of_lt_of_le hlt hg.size, (hg.cell_far _ hlt (fun e => ?_)).trans hc⟩
  injection e with e
  obtain ⟨es, clock, hb, _⟩ := hm
  simp only at e
  subst e
  simp [World.cell?, hb] at hc
theorem Tab.cells {w : World} {gs cap m tb o r : Nat} {Y : Nat → Sy} {y0 y1 : Int} (h : Tab w gs (some ⟨tb, o, none⟩) cap Y m y0 y1) (hr : r < m) (hp : (Y r).Plain) :
    w.cell? ⟨tb, o + r * 10 + 8, none⟩ = some (.int .u8 (Y r).k) ∧ w.cell? ⟨tb, o + r * 10 + 7, none⟩ = some (.int .u16 (Y r).fl) ∧ w.cell? ⟨tb, o + r * 10 + 1, none⟩ = some (.string (Y r).name) := by
  have hc : ∀ q, q < 10 → w.cell? ⟨tb, o + r * 10 + q, none⟩ = some (symAt (Y r) y0 y1 q) := by
    intro q hq
    obtain ⟨b', o', hA, _, hc⟩ := h.rd (r * 10 + q) (by omega)
    injection hA with hA
    injection hA with a0 a1
    subst a0 a1
    rw [Nat.add_assoc, hc]
    unfold symsAt
    rw [show (r * 10 + q) / 10 = r by omega, show (r * 10 + q) % 10 = q by omega]
  obtain ⟨k0, k1, f⟩ := hp
  have ek : IntKind.u8.wrap (Y r).k = (Y r).k := by simp [IntKind.wrap, IntKind.bits, IntKind.signed]; omega
  have ef : IntKind.u16.wrap (Y r).fl = (Y r).fl := by rcases f with f | f <;> rw [f] <;> rfl
  refine ⟨?_, ?_, hc 1 (by omega)⟩
  · have := hc 8 (by omega)
    simp only [symAt, ek] at this
    exact this
  · have := hc 7 (by omega)
    simp only [symAt, ef] at this
    exact this
/-- What stands behind the members. -/
structure Pass (w wr : World) (bN gs n : Nat) (N' : DataW H) : Prop where
  nm : Names wr bN n N'
  gr : w.grownBy wr (some bN)
  b50 : Blk wr w.heap.size 50 [.slice (some ⟨gs, 0, none⟩) 1 1]
  blow : bN < w.heap.size
theorem Scan.pass {w wr : World} {M bN r nN k n gs g : Nat} {D N N' : DataW H} {s : Sc} {Y : Nat → Sy} {left : Lit → Bool} (h : Scan w wr M bN r nN D N s Y gs left k n N' g) : Pass w wr bN gs n N' := ⟨h.nm, h.gr, h.b50, h.blow⟩
theorem Pass.later {w wr w2 : World} {bN n gs : Nat} {N' : DataW H} (h : Pass w wr bN gs n N') (hb : Below wr.heap.size wr w2) : Pass w w2 bN gs n N' := by
  have hgb := only_of_below hb none
  exact ⟨⟨h.nm.1.kept hgb (by simp), h.nm.2⟩, h.gr.andThen hgb (fun j hj => by cases hj), h.b50.below hb h.b50.lt, h.blow⟩
theorem Pass.store {w wr w2 : World} {bN n n' gs : Nat} {N' N2 : DataW H} (h : Pass w wr bN gs n N') (hg : wr.grownBy w2 (some bN)) (hN : Names w2 bN n' N2) : Pass w w2 bN gs n' N2 := by
  have := h.blow
  exact ⟨hN, h.gr.andThen hg (fun j hj => .inr hj), h.b50.grown hg (fun e => by injection e with e; omega), h.blow⟩
theorem Done.more {N N' : DataW H} {s : Sc} {Y : Nat → Sy} {left : Lit → Bool} {k : Nat} (h : Done N N' s Y left k) (N2 : DataW H) (h0 : ∀ l, Maps.has N' l = true → Maps.has N2 l = true) (h1 : (Y (s.gens k).toNat).kept = true → Maps.has N2 (key (Y (s.gens k).toNat).name) = true) : Done N N2 s Y left (k + 1) := by
  refine ⟨fun l hl => h0 l (h.old l hl), fun i hi hl hke => h0 _ (h.mem i hi hl hke), fun i hi hke => ?_⟩
  by_cases q : i = k
  · subst q
    exact h1 hke
  · exact h0 _ (h.gen i (by omega) hke)
theorem One.names {w wr : World} {base bN n j i : Nat} {F : Fo H} {s : Sc} {N : DataW H} {R : Value → Option (DataW H × List MemPlace)} {P : Program} {kt : TypeId} (h : One w base F s j i) (hm : w.ownsMap P kt R bN n N) (hne : bN ≠ F.M j) (hg : w.grownBy wr (some bN)) : One wr base F s j i :=
  h.kept hg (fun e => map_ne_blk hm h.cells (by injection e with e; exact e.symm)) (fun e => hne (by injection e with e; exact e.symm)) (by
    by_cases c : (F.G j).ownBlock = none
    · exact .inl c
    · exact .inr (fun e => map_ne_row hm h.gen e.symm)) (by
    by_cases c : (F.C j).ownBlock = none
    · exact .inl c
    · exact .inr (fun e => map_ne_row hm h.kids e.symm))
set_option maxRecDepth 100000 in
set_option maxHeartbeats 8000000 in
theorem compA {F : Fo H} (w : World) (base : Nat) (s : Sc) (j i gs cap m : Nat) (A : Option Addr) (Y : Nat → Sy) (y0 y1 : Int) (bN nN : Nat) (N : DataW H) (h1 : One w base F s j i) (ht : Tab w gs A cap Y m y0 y1) (hN : Names w bN nN N) (hne : bN ≠ F.M j) (hev : s.ev = false)
    (hr : ∀ k, k < s.n → 0 ≤ s.refs k ∧ s.refs k < m) (hg : ∀ k, k < s.gn → 0 ≤ s.gens k ∧ s.gens k < m) (hp : ∀ k, k < m → (Y k).Plain ∧ (Y k).name.size ≤ 2147483647) (hm : m ≤ 200) (hbig : nN + s.n + s.gn < 9223372036854775807) (hgn : s.gn ≤ 2147483647) :
    Calls Tryd.prog 32 #[.pointer (some ⟨F.P j, 0, none⟩), .agg #[.slice (some ⟨gs, 0, none⟩) 1 1], .map (some bN)] w fun e w' => e = .returned (.tuple #[]) ∧ w.grownBy w' (some bN) ∧ ∃ N', Names w' bN (nN + s.n + s.gn) N' ∧ Done N N' s Y (fun _ => false) s.gn := by
  have HG := Lib.hid (fun W (r : Nat) (hr : r < m) (hT : Tab W gs A cap Y m y0 y1) => get_ gs cap m r A Y y0 y1 W hT hr)
  have HF := Lib.hid hasFlag
  have HR := Lib.hid hr
  have HGE := Lib.hid hg
  have HP := Lib.hid hp
  have HNE := Lib.hid hne
  have hsz := size_le h1.mem
  have HBB := Lib.hid hbig
  have h50 := Blk.new w 50 [.slice (some ⟨gs, 0, none⟩) 1 1]
  obtain ⟨p, hP⟩ : ∃ p, F.P j = p := ⟨_, rfl⟩
  obtain ⟨M, hM⟩ : ∃ M, F.M j = M := ⟨_, rfl⟩
  have HPE := Lib.hid hP
  have HME := Lib.hid hM
  have H1 := Lib.hid h1
  have HT := Lib.hid ht
  have HN := Lib.hid hN
  rw [hP]
  clear h1 ht hN hr hg hp hne hbig hP hM
  go_enter Tryd.func32, Tryd.ntmps32
  go_upto_region 1 with fail
  obtain ⟨W, hW⟩ : ∃ W, W = w.alloc (.cells #[.slice (some ⟨gs, 0, none⟩) 1 1] 50) := ⟨_, rfl⟩
  have HB := Lib.hid (show Below w.heap.size w W by rw [hW]; exact below_at (Below.refl _ _) _)
  have HSZ := Lib.hid (show W.heap.size = w.heap.size + 1 by rw [hW]; simp)
  rw [← hW] at h50 ⊢
  clear hW
  have HL := Lib.hid h50
  have H1W := Lib.hid (H1.out.below HB.out)
  have hmem := H1W.out.mem
  rw [HME.out] at hmem
  have c3 := H1W.out.cells.get 3 rfl
  rw [HPE.out, HME.out] at c3
  clear h50
  go_wp2_with (first
    | (at_range; refine wpList_range_own _ rfl _ 67 rfl 9 82 key9 Tryd.underlying67 _ M s.n _ rfl hmem ?_; intro w0 hrg0 hg0 hs0)
    | fail)
  go_frame
  have HSC := Lib.hid (show Scan w w0 M bN W.heap.size nN (F.D j) N s Y gs (Maps.has (F.D j)) (Maps.size (F.D j)) nN N 0 from by
    have hbN := HN.out.1.lt
    refine ⟨hrg0, ⟨(HN.out.1.kept (only_of_below HB.out none) (by simp)).kept hg0 (by simp), HN.out.2⟩, ⟨fun l hl => hl, fun k hk hl => ?_, fun k hk => by omega⟩, ?_, ?_, by have := HSZ.out; omega, hbN⟩
    · have := (H1.out.memOK.at_ k hk).1
      rw [this] at hl
      cases hl
    · exact (only_of_below HB.out _).andThen hg0 (fun j hj => by cases hj)
    · exact HL.out.grown hg0 (by simp))
  obtain ⟨r, hr⟩ : ∃ r, r = W.heap.size := ⟨_, rfl⟩
  rw [← hr] at HSC ⊢
  clear hrg0 hg0 hs0 hmem c3 HL HSZ hr H1W
  go_loopg [8] (Maps.size (F.D j)) (fun k sv wr => Aside (∃ left n1 N1, Scan w wr M bN r nN (F.D j) N s Y gs left k n1 N1 0 ∧ k ≤ s.n ∧ n1 + k ≤ nN + s.n))
  case atStart => exact ⟨_, _, _, HSC.out, hsz, by omega⟩
  case round =>
    clear HSC
    obtain ⟨left, n1, N1, hS, hk1, hk2⟩ := hrel.out
    have HS := Lib.hid hS
    have hrg := hS.rg
    clear hS hrel
    go_wp2_with (first
      | (at_next; refine wpList_next_ranges _ rfl _ rfl 9 key9 refE Value.string refV (fun key kl hk => by obtain ⟨x, hx, _⟩ := WideMaps.string_of_keyOf Tryd.underlying9 hk; exact ⟨x, hx⟩) (fun v y hv => by obtain ⟨r, hr, _⟩ := refE_inv hv; exact ⟨r, hr⟩) M r s.n _ _ _ rfl hrg ?_ ?_)
      | fail)
    · intro hc0 hl0
      subst hc0
      obtain rfl : left = fun _ => false := funext hl0
      have HPS := Lib.hid (HS.out.pass)
      have HDN := Lib.hid HS.out.dn
      have H1R := Lib.hid (H1.out.names HN.out.1 HNE.out HPS.out.gr)
      obtain ⟨gA, gc, hgA, hgc⟩ := own_form H1R.out.gen
      have c5 := H1R.out.cells.get 5 rfl
      rw [HPE.out, hgA] at c5
      have HGA := Lib.hid hgA
      clear HS H1R hgA hgc hl0
      go_wp2_with fail
      go_loopg [49] s.gn (fun q kv wx => ∃ (k : Nat), kv = .int .i64 k ∧ Aside (∃ n1 N1, k + q = s.gn ∧ Pass w wx bN gs n1 N1 ∧ Done N N1 s Y (fun _ => false) k ∧ n1 ≤ nN + s.n + k))
      case atStart => exact ⟨0, rfl, ⟨n1, N1, by omega, HPS.out, HDN.out, by omega⟩⟩
      case round =>
        clear HPS HDN c5
        obtain ⟨k, rfl, hA⟩ := hrel
        obtain ⟨n1, N1, hkq, hP, hD, hn1⟩ := hA.out
        have HKQ := Lib.hid hkq
        have HPS := Lib.hid hP
        have HDN := Lib.hid hD
        have H1R := Lib.hid (H1.out.names HN.out.1 HNE.out HPS.out.gr)
        clear hA hkq hP hD
        by_cases hkl : k < s.gn
        · have hkl' : (k : Int) < s.gn := by omega
          obtain ⟨rr, hrr⟩ : ∃ rr : Nat, s.gens k = rr := ⟨(s.gens k).toNat, by have := (HGE.out k hkl).1; omega⟩
          have hrm : rr < m := by have := (HGE.out k hkl).2; omega
          have HRE := Lib.hid hrr
          obtain ⟨gA', gc', hgA', hgc'⟩ := own_form H1R.out.gen
          rw [HGA.out] at hgA'
          injection hgA' with a0 a1 a2
          subst a0 a2
          obtain ⟨gg, hGG, _, hglt, g0⟩ := hgc' (k * 2) (by omega)
          obtain ⟨gg', hGG', _, _, g1⟩ := hgc' (k * 2 + 1) (by omega)
          subst hGG
          injection hGG' with hGG'
          injection hGG' with hGG'
          subst hGG'
          rw [row_get _ _ _ (by omega)] at g0 g1
          have e0 : genAt s (k * 2) = .int .u32 0 := by unfold genAt; rw [if_pos (by omega)]
          have e1 : genAt s (k * 2 + 1) = .int .u32 (rr : Int) := by unfold genAt; rw [if_neg (by omega), show (k * 2 + 1) / 2 = k by omega, hrr]
          rw [e0] at g0
          rw [e1] at g1
          clear hrr e0 e1 hgc' a1
          go_upto_region 10 with fail
          obtain ⟨w2, e2⟩ : ∃ w2, w2 = wr.alloc (.cells #[.int .u32 0, .int .u32 (rr : Int)] 69) := ⟨_, rfl⟩
          have hb12 : Below wr.heap.size wr w2 := by rw [e2]; exact below_at (Below.refl _ _) _
          have h69 : Blk w2 wr.heap.size 69 [.int .u32 0, .int .u32 (rr : Int)] := by rw [e2]; exact Blk.new wr 69 _
          have HX2 := Lib.hid (HPS.out.later hb12)
          rw [← e2]
          clear e2 hb12 g0 g1
          have c50 := HX2.out.b50.get 0 rfl
          have q0 := h69.get 0 rfl
          have q1 := h69.get 1 rfl
          have HTX := Lib.hid (HT.out.grown HX2.out.gr HN.out.1)
          go_wp2_with fail
          refine (HG.out _ rr hrm HTX.out).mono ?_
          rintro e w3 ⟨b3, tb, to_, rfl, rfl⟩
          have HX3 := Lib.hid (HX2.out.later b3)
          have HT3 := Lib.hid (HTX.out.below b3)
          clear b3 HX2 HTX c50 q0 q1 h69
          have HPL := Lib.hid (HP.out rr hrm)
          obtain ⟨r8, r7, r1⟩ := HT3.out.cells hrm HPL.out.1
          have hroom : n1 < maxLen := by have := HBB.out; simp only [maxLen]; omega
          obtain ⟨y, hy⟩ : ∃ y, Y rr = y := ⟨_, rfl⟩
          have HY := Lib.hid hy
          rw [hy] at r8 r7 r1 HPL
          have hnl : y.name.size ≤ maxLen := by have := HPL.out.2; simp only [maxLen]; omega
          clear hy
          by_cases hk0 : y.k = 0
          · have HKE := Lib.hid (show y.kept = true by simp [Sy.kept, hk0])
            rw [hk0] at r8
            clear hk0
            go_wp2_with (first
              | (at_mapUpdate; refine wpList_mapUpdate_own _ rfl _ _ _ 43 rfl 9 35 key9 Tryd.underlying43 _ bN n1 N1 rfl HX3.out.nm.1 hroom _ _ _ rfl rfl (WideMaps.keyOf_string_mk Tryd.underlying9 hnl) _ [] (plainElem_int Tryd.underlying35 (by decide)) ?_; intro w5 hown5 hg5)
              | fail)
            have HX5 := Lib.hid (HX3.out.store (n' := n1 + 1) hg5 ⟨hown5, HX3.out.nm.2.put _ _⟩)
            have HD5 := Lib.hid (HDN.out.more (N1.put (key y.name) (.lit (.int .u32 1))) (fun l hl => put_has HX3.out.nm.2 _ _ l (.inl hl)) (fun _ => put_has HX3.out.nm.2 _ _ _ (.inr (by rw [HRE.out]; simp [HY.out]))))
            clear hown5 hg5
            go_roundg (s.gn - (k + 1))
            case measure => have := HKQ.out; omega
            case rel => exact ⟨k + 1, val_int (by omega), ⟨n1 + 1, _, by have := HKQ.out; omega, HX5.out, HD5.out, by omega⟩⟩
          · have hk0' : (y.k == 0) = false := by simp [hk0]
            rcases HPL.out.1.2.2 with hf | hf
            · have HKE := Lib.hid (show y.kept = false by simp [Sy.kept, hk0', hf])
              rw [hf] at r7
              clear hf hk0
              go_wp2_with fail
              refine (HF.out 0 (.inl rfl) _).mono ?_
              rintro e w4 ⟨rfl, rfl⟩
              go_wp2_with fail
              have HD5 := Lib.hid (HDN.out.more N1 (fun l hl => hl) (fun hke => by rw [HRE.out] at hke; simp only [Int.toNat_natCast, HY.out, HKE.out] at hke; cases hke))
              go_roundg (s.gn - (k + 1))
              case measure => have := HKQ.out; omega
              case rel => exact ⟨k + 1, val_int (by omega), ⟨n1, _, by have := HKQ.out; omega, HX3.out, HD5.out, by omega⟩⟩
            · have HKE := Lib.hid (show y.kept = true by simp [Sy.kept, hf])
              rw [hf] at r7
              clear hf hk0
              go_wp2_with fail
              refine (HF.out 1 (.inr rfl) _).mono ?_
              rintro e w4 ⟨rfl, rfl⟩
              go_wp2_with (first
                | (at_mapUpdate; refine wpList_mapUpdate_own _ rfl _ _ _ 43 rfl 9 35 key9 Tryd.underlying43 _ bN n1 N1 rfl HX3.out.nm.1 hroom _ _ _ rfl rfl (WideMaps.keyOf_string_mk Tryd.underlying9 hnl) _ [] (plainElem_int Tryd.underlying35 (by decide)) ?_; intro w5 hown5 hg5)
                | fail)
              have HX5 := Lib.hid (HX3.out.store (n' := n1 + 1) hg5 ⟨hown5, HX3.out.nm.2.put _ _⟩)
              have HD5 := Lib.hid (HDN.out.more (N1.put (key y.name) (.lit (.int .u32 1))) (fun l hl => put_has HX3.out.nm.2 _ _ l (.inl hl)) (fun _ => put_has HX3.out.nm.2 _ _ _ (.inr (by rw [HRE.out]; simp [HY.out]))))
              clear hown5 hg5
              go_roundg (s.gn - (k + 1))
              case measure => have := HKQ.out; omega
              case rel => exact ⟨k + 1, val_int (by omega), ⟨n1 + 1, _, by have := HKQ.out; omega, HX5.out, HD5.out, by omega⟩⟩
        · have hkg : k = s.gn := by have := HKQ.out; omega
          subst hkg
          have c11 := H1R.out.cells.get 11 rfl
          rw [HPE.out, hev] at c11
          go_wp2_with fail
          go_returns
          exact ⟨rfl, HPS.out.gr, N1, ⟨HPS.out.nm.1.mono (by omega), HPS.out.nm.2⟩, HDN.out⟩
    · intro x rr kl yd yp w1 cnt1 hkey hlk hv hat hrg1 hlt hg1 hs1 hen
      obtain ⟨x', ex, hkl, hxl⟩ := WideMaps.string_of_keyOf Tryd.underlying9 hkey
      injection ex with ex
      subst ex
      replace hkl : kl = key x := hkl
      have hy : yd = .lit (.int .u32 (rr : Int)) := by rw [refE_mk] at hv; injection hv with hv; injection hv with hv _; exact hv.symm
      subst hy
      have hhas := Maps.has_true_of_atKey hat
      obtain ⟨k0, hk0, hkk⟩ := H1.out.memOK.only kl hhas
      have hrr : ∀ k, k < s.n → key (s.names k) = kl → s.refs k = rr := by
        intro k hk e
        have h1 := (H1.out.memOK.at_ k hk).2 (.map [])
        rw [e, hat] at h1
        injection h1 with h1
        injection h1 with _ h1
        exact h1.symm
      have hrm : rr < m := by have := hrr k0 hk0 hkk.symm; have := (HR.out k0 hk0).2; omega
      have HRR := Lib.hid hrr
      have hen' : (Instr.entry (.pointer (some ⟨r, 0, none⟩))).run Tryd.prog w1 = .ok (.tuple #[.string x, .agg #[.int .u32 0, .int .u32 (rr : Int), .int .i32 0]]) w1 := hen
      have HRG1 := Lib.hid hrg1
      have HG1 := Lib.hid hg1
      clear hrg hkey hlk hv hat hrg1 hg1 hs1 hen hhas hk0 hkk hrr hxl
      go_upto_region 4 with fail
      obtain ⟨w2, e2⟩ : ∃ w2, w2 = w1.alloc (.cells #[.int .u32 0, .int .u32 (rr : Int), .int .i32 0] 82) := ⟨_, rfl⟩
      have hb12 : Below w1.heap.size w1 w2 := by rw [e2]; exact below_at (Below.refl _ _) _
      have h82 : Blk w2 w1.heap.size 82 [.int .u32 0, .int .u32 (rr : Int), .int .i32 0] := by rw [e2]; exact Blk.new w1 82 _
      have HX2 := Lib.hid (HS.out.step HRG1.out HG1.out hb12)
      rw [← e2]
      clear e2 hen' HRG1 HG1 hb12
      have c50 := HX2.out.2.2.2.1.get 0 rfl
      have q0 := h82.get 0 rfl
      have q1 := h82.get 1 rfl
      have HTX := Lib.hid (HT.out.grown HX2.out.2.2.1 HN.out.1)
      go_wp2_with fail
      refine (HG.out _ rr hrm HTX.out).mono ?_
      rintro e w3 ⟨b3, tb, to_, rfl, rfl⟩
      have HX3 := Lib.hid (HX2.out.later b3)
      have HT3 := Lib.hid (HTX.out.below b3)
      clear b3 HX2 HTX c50 q0 q1 h82
      have HPL := Lib.hid (HP.out rr hrm)
      obtain ⟨r8, r7, r1⟩ := HT3.out.cells hrm HPL.out.1
      have hroom : n1 < maxLen := by have := HBB.out; simp only [maxLen]; omega
      obtain ⟨y, hy⟩ : ∃ y, Y rr = y := ⟨_, rfl⟩
      have HY := Lib.hid hy
      rw [hy] at r8 r7 r1 HPL
      have hnl : y.name.size ≤ maxLen := by have := HPL.out.2; simp only [maxLen]; omega
      clear hy
      by_cases hk0 : y.k = 0
      · have HKE := Lib.hid (show y.kept = true by simp [Sy.kept, hk0])
        rw [hk0] at r8
        clear hk0
        go_wp2_with (first
          | (at_mapUpdate; refine wpList_mapUpdate_own _ rfl _ _ _ 43 rfl 9 35 key9 Tryd.underlying43 _ bN n1 N1 rfl HX3.out.2.1.1 hroom _ _ _ rfl rfl (WideMaps.keyOf_string_mk Tryd.underlying9 hnl) _ [] (plainElem_int Tryd.underlying35 (by decide)) ?_; intro w5 hown5 hg5)
          | fail)
        go_frame
        have HX5 := Lib.hid (HX3.out.store (n' := n1 + 1) (by rw [← HME.out]; exact HNE.out) hg5 ⟨hown5, HX3.out.2.1.2.put _ _⟩)
        have HD5 := Lib.hid (HS.out.dn.next kl (N1.put (key y.name) (.lit (.int .u32 1))) (fun l hl => put_has HX3.out.2.1.2 _ _ l (.inl hl)) (fun k hk e _ => put_has HX3.out.2.1.2 _ _ _ (.inr (by rw [HRR.out k hk e]; simp [HY.out]))))
        clear hown5 hg5
        go_roundg cnt1
        case measure => exact hlt
        case rel => exact ⟨_, n1 + 1, _, Scan.of HX5.out HD5.out, by omega, by omega⟩
      · have hk0' : (y.k == 0) = false := by simp [hk0]
        rcases HPL.out.1.2.2 with hf | hf
        · have HKE := Lib.hid (show y.kept = false by simp [Sy.kept, hk0', hf])
          rw [hf] at r7
          clear hf hk0
          go_wp2_with fail
          refine (HF.out 0 (.inl rfl) _).mono ?_
          rintro e w4 ⟨rfl, rfl⟩
          go_wp2_with fail
          have HD5 := Lib.hid (HS.out.dn.next kl N1 (fun l hl => hl) (fun k hk e hke => by rw [HRR.out k hk e] at hke; simp only [Int.toNat_natCast, HY.out, HKE.out] at hke; cases hke))
          go_roundg cnt1
          case measure => exact hlt
          case rel => exact ⟨_, n1, _, Scan.of HX3.out HD5.out, by omega, by omega⟩
        · have HKE := Lib.hid (show y.kept = true by simp [Sy.kept, hf])
          rw [hf] at r7
          clear hf hk0
          go_wp2_with fail
          refine (HF.out 1 (.inr rfl) _).mono ?_
          rintro e w4 ⟨rfl, rfl⟩
          go_wp2_with (first
            | (at_mapUpdate; refine wpList_mapUpdate_own _ rfl _ _ _ 43 rfl 9 35 key9 Tryd.underlying43 _ bN n1 N1 rfl HX3.out.2.1.1 hroom _ _ _ rfl rfl (WideMaps.keyOf_string_mk Tryd.underlying9 hnl) _ [] (plainElem_int Tryd.underlying35 (by decide)) ?_; intro w5 hown5 hg5)
            | fail)
          go_frame
          have HX5 := Lib.hid (HX3.out.store (n' := n1 + 1) (by rw [← HME.out]; exact HNE.out) hg5 ⟨hown5, HX3.out.2.1.2.put _ _⟩)
          have HD5 := Lib.hid (HS.out.dn.next kl (N1.put (key y.name) (.lit (.int .u32 1))) (fun l hl => put_has HX3.out.2.1.2 _ _ l (.inl hl)) (fun k hk e _ => put_has HX3.out.2.1.2 _ _ _ (.inr (by rw [HRR.out k hk e]; simp [HY.out]))))
          clear hown5 hg5
          go_roundg cnt1
          case measure => exact hlt
          case rel => exact ⟨_, n1 + 1, _, Scan.of HX5.out HD5.out, by omega, by omega⟩
end Go.Proofs.YtofdoaollanbpaaDoor.Res
