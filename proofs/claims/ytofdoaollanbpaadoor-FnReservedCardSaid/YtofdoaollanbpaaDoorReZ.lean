/- Arguments and laid variables, opened to what the walk asks. No program is walked. -/
import Derived.Test.YtofdoaollanbpaaDoorReY
import Derived.Test.YtofdoaollanbpaaDoorRows
import Derived.Deep.Slices
import Derived.Deep.Fields
import Derived.ChangeSame
import Derived.ChangeSlices
import Derived.SliceStrings
import Derived.LaidMore
import Derived.MakeChecks
import Derived.WideKeyElems2
import Derived.Maps.OwnSet
import Derived.WideKeyArgs
namespace Go.Proofs.YtofdoaollanbpaaDoor.Res
open Go.RowKit Go.Proofs.YtofdoaollanbpaaDoor.Aid
open Go.ChangeShapes Go.WideShapes Go.Deep
set_option linter.unusedVariables false
section
variable {H : Type} {enc : TypeId × Value → H} {P : Program} {w : World} {base : Nat} {spare : Nat → Bool} {held : Bool}
/-- A slice of structs, opened field by field (the guide's, extra-structs). -/
theorem open_slice_fields {t e : TypeId} {fs : Array Field} {fuel : Nat} {cs : List Value} {x : DataW H × List MemPlace} (ht : P.underlying t = some (.slice e)) (he : P.underlying e = some (.struct fs))
    (hone : oneCellFields P fs = true) (hC : P.cellsOf e = fs.size) (h : DataW.trod enc P w base spare held fuel t cs = some x) :
    (cs = [.slice none 0 0] ∧ x = (.nil, [])) ∨
    ∃ (a : Addr) (len cap m : Nat) (D : Nat → DataW H) (Pl : Nat → List MemPlace), cs = [.slice (some a) len cap] ∧ base ≤ a.block ∧ len ≤ cap ∧ cap ≤ maxLen ∧ m = (if spare a.block then cap else len) ∧
      x = (.slice ((List.range len).map D) ((List.range (m - len)).map fun j => D (len + j)), MemPlace.row a (m * fs.size) ++ (List.range m).flatMap Pl) ∧
      ∀ i, i < m → ∃ (ys : List (DataW H × List MemPlace)) (n : Nat), D i = .agg (ys.map (·.1)) ∧ Pl i = ys.flatMap (·.2) ∧ ys.length = fs.size ∧
        ∀ (j : Nat) (f : Field), fs[j]? = some f → ∃ (v : Value) (y : DataW H × List MemPlace), w.cell? (a.add (i * fs.size + j)) = some v ∧ ys[j]? = some y ∧ DataW.trod enc P w base spare held n f.type [v] = some y := by
  rcases open_slice ht h with h0 | ⟨a, len, cap, m, n, D, Pl, hcs, hb, hl, hm, hmm, hx, hi⟩
  · exact .inl h0
  · refine .inr ⟨a, len, cap, m, D, Pl, hcs, hb, hl, hm, hmm, by rw [hC] at hx; exact hx, fun i him => ?_⟩
    obtain ⟨cs', hc, ht'⟩ := hi i him
    rw [hC] at hc
    obtain ⟨ys, n', hn', hy, hlen, hyl, hf⟩ := DataW.trod_struct he ht'
    obtain ⟨_, hcl, hat⟩ := World.cells?_some hc
    simp only [Prod.mk.injEq] at hy
    refine ⟨ys, n', hy.1, hy.2, hyl, fun j f hj => ?_⟩
    obtain ⟨ho, hk⟩ := hone_of hone j f hj
    have hjl : j < fs.size := (Array.getElem?_eq_some_iff.1 hj).1
    have hcell := hat j hjl
    have hv : cs'[j]? = some (cs'[j]'(by omega)) := List.getElem?_eq_getElem (by omega)
    have h1 := hf j f hj
    rw [ho, hk] at h1
    have hone' : (cs'.drop j).take 1 = [cs'[j]'(by omega)] := by
      rw [List.drop_eq_getElem_cons (by omega)]
      rfl
    rw [hone'] at h1
    have hys : ys[j]? = some (ys[j]'(by omega)) := List.getElem?_eq_getElem (by omega)
    refine ⟨_, _, ?_, hys, h1.trans hys⟩
    rw [← Go.Deep.add_add, hcell, hv]
end
section
variable {H : Type} {enc : TypeId × Value → H} {W : World} {spare : Nat → Bool} {held : Bool} {fuel : Nat}
theorem plain_addr {a : Addr} {v : Value} (h : W.cell? (a.add 0) = some v) : ∃ b o, a = ⟨b, o, none⟩ ∧ b < W.heap.size := by
  obtain ⟨b, o, s⟩ := a
  cases s with
  | none =>
    rw [add_at] at h
    exact ⟨b, o, rfl, World.block_lt_of_cell? W _ h⟩
  | some k =>
    exfalso
    unfold Addr.add at h
    rw [if_pos rfl] at h
    unfold World.cell? at h
    split at h <;> simp at h
theorem open_nums {v : Value} {x : DataW H × List MemPlace} (h : DataW.trod enc Tryd.prog W 0 spare held fuel 32 [v] = some x) :
    ∃ A n c, ∃ f : Nat → Int, v = .slice A n c ∧ Reads W A n (fun i => .int .i64 (f i)) ∧ (A = none → c = 0) ∧ n ≤ c ∧ c ≤ 9223372036854775807 := by
  rcases open_ints Tryd.underlying32 Tryd.underlying3 (by kernel_rfl) h with ⟨hcs, _⟩ | ⟨a, l, c, zs, hcs, _, hl, hm, hz, _, hcell, _⟩
  · injection hcs with hcs
    exact ⟨none, 0, 0, fun _ => 0, hcs, fun i hi => by omega, fun _ => rfl, by omega, by omega⟩
  · injection hcs with hcs
    refine ⟨some a, l, c, fun i => zs.getD i 0, hcs, fun i hi => ?_, fun h => (by cases h), hl, hm⟩
    obtain ⟨b, o, ha, hb⟩ := plain_addr (hcell 0 (by rw [hz]; split <;> omega))
    have hc := hcell i (by rw [hz]; split <;> omega)
    subst ha
    rw [add_at] at hc
    exact ⟨b, o, rfl, hb, hc⟩
theorem open_texts {v : Value} {x : DataW H × List MemPlace} (h : DataW.trod enc Tryd.prog W 0 spare held fuel 28 [v] = some x) :
    ∃ A n c, ∃ f : Nat → ByteArray, v = .slice A n c ∧ Reads W A n (fun i => .string (f i)) ∧ (A = none → c = 0) ∧ n ≤ c ∧ c ≤ 9223372036854775807 := by
  rcases open_strings Tryd.underlying28 Tryd.underlying9 (by kernel_rfl) h with ⟨hcs, _⟩ | ⟨a, l, c, zs, hcs, _, hl, hm, hz, _, hcell, _⟩
  · injection hcs with hcs
    exact ⟨none, 0, 0, fun _ => ByteArray.empty, hcs, fun i hi => by omega, fun _ => rfl, by omega, by omega⟩
  · injection hcs with hcs
    refine ⟨some a, l, c, fun i => zs.getD i ByteArray.empty, hcs, fun i hi => ?_, fun h => (by cases h), hl, hm⟩
    obtain ⟨b, o, ha, hb⟩ := plain_addr (hcell 0 (by rw [hz]; split <;> omega))
    have hc := hcell i (by rw [hz]; split <;> omega)
    subst ha
    rw [add_at] at hc
    exact ⟨b, o, rfl, hb, hc⟩
theorem one_int {q : IntKind} {t : TypeId} (ht : Tryd.prog.underlying t = some (.int q)) {v : Value} {x : DataW H × List MemPlace} (h : DataW.trod enc Tryd.prog W 0 spare held fuel t [v] = some x) : ∃ n, v = .int q n := by
  obtain ⟨n, e, _⟩ := DataW.trod_int ht h
  injection e with e
  exact ⟨n, e⟩
theorem open_symbols {A : Option Addr} {n c : Nat} {x : DataW H × List MemPlace} (h : DataW.trod enc Tryd.prog W 0 spare held fuel 23 [.slice A n c] = some x) :
    n ≤ 9223372036854775807 ∧ ∃ Y, RSy W A n Y := by
  rcases open_slice_fields Tryd.underlying23 Tryd.underlying37 (by kernel_rfl) (by kernel_rfl) h with ⟨hcs, _⟩ | ⟨a, l, cap, m, D, Pl, hcs, _, hl, hm, hmm, _, hi⟩
  · injection hcs with hcs
    injection hcs with h1 h2 h3
    subst h1 h2 h3
    exact ⟨by omega, fun _ => ⟨ByteArray.empty, 0, 0, 0⟩, fun i hi => by omega⟩
  · injection hcs with hcs
    injection hcs with h1 h2 h3
    subst h1 h2 h3
    refine ⟨Nat.le_trans hl hm, ?_⟩
    have hall : ∀ i, ∃ y : Sy, i < n → ∃ b o, some a = some ⟨b, o, none⟩ ∧ b < W.heap.size ∧ y.name.size ≤ 9223372036854775807 ∧
        W.cell? ⟨b, o + i * 4, none⟩ = some (.string y.name) ∧ W.cell? ⟨b, o + i * 4 + 1, none⟩ = some (.int .u32 y.u) ∧ W.cell? ⟨b, o + i * 4 + 2, none⟩ = some (.int .i64 y.fl) ∧ W.cell? ⟨b, o + i * 4 + 3, none⟩ = some (.int .i64 y.k) := by
      intro i
      by_cases hin : i < n
      · obtain ⟨ys, q, _, _, _, hf⟩ := hi i (by rw [hmm]; split <;> omega)
        obtain ⟨v0, y0, c0, _, t0⟩ := hf 0 _ rfl
        obtain ⟨v1, y1, c1, _, t1⟩ := hf 1 _ rfl
        obtain ⟨v2, y2, c2, _, t2⟩ := hf 2 _ rfl
        obtain ⟨v3, y3, c3, _, t3⟩ := hf 3 _ rfl
        obtain ⟨s, e0, _, hs⟩ := DataW.trod_string Tryd.underlying9 t0
        injection e0 with e0
        obtain ⟨n1, rfl⟩ := one_int Tryd.underlying35 t1
        obtain ⟨n2, rfl⟩ := one_int Tryd.underlying3 t2
        obtain ⟨n3, rfl⟩ := one_int Tryd.underlying3 t3
        subst e0
        obtain ⟨v0', hv0'⟩ : ∃ v, W.cell? (a.add 0) = some v := by
          obtain ⟨ys', q', _, _, _, hf'⟩ := hi 0 (by rw [hmm]; split <;> omega)
          obtain ⟨v0', y0', c0', _⟩ := hf' 0 _ rfl
          rw [Nat.zero_mul, Nat.add_zero] at c0'
          exact ⟨v0', c0'⟩
        obtain ⟨b, o, ha, hb⟩ := plain_addr hv0'
        subst ha
        rw [add_at] at c0 c1 c2 c3
        exact ⟨⟨s, n1, n2, n3⟩, fun _ => ⟨b, o, rfl, hb, hs, c0, c1, c2, c3⟩⟩
      · exact ⟨⟨ByteArray.empty, 0, 0, 0⟩, fun h => absurd h hin⟩
    obtain ⟨Y, hY⟩ := Classical.axiomOfChoice hall
    exact ⟨Y, fun i hi => hY i hi⟩
theorem open_scopes {A : Option Addr} {n c : Nat} {x : DataW H × List MemPlace} (h : DataW.trod enc Tryd.prog W 0 spare held fuel 22 [.slice A n c] = some x) :
    n ≤ 9223372036854775807 ∧ ∃ S, RSc W A n S := by
  have s0 : Sc := { p := 0, k := 0, A := none, n := 0, c := 0, R := none, rn := 0, rc := 0, G := none, gn := 0, gc := 0, l := 0, ev := false, names := fun _ => ByteArray.empty, refs := fun _ => 0, gens := fun _ => 0 }
  rcases open_slice_fields Tryd.underlying22 Tryd.underlying39 (by kernel_rfl) (by kernel_rfl) h with ⟨hcs, _⟩ | ⟨a, l, cap, m, D, Pl, hcs, _, hl, hm, hmm, _, hi⟩
  · injection hcs with hcs
    injection hcs with h1 h2 h3
    subst h1 h2 h3
    exact ⟨by omega, fun _ => s0, fun i hi => by omega⟩
  · injection hcs with hcs
    injection hcs with h1 h2 h3
    subst h1 h2 h3
    refine ⟨Nat.le_trans hl hm, ?_⟩
    have hall : ∀ i, ∃ s : Sc, i < n → s.In W ∧ ∃ b o, some a = some ⟨b, o, none⟩ ∧ b < W.heap.size ∧
        W.cell? ⟨b, o + i * 7, none⟩ = some (.int .i64 s.p) ∧ W.cell? ⟨b, o + i * 7 + 1, none⟩ = some (.int .i64 s.k) ∧ W.cell? ⟨b, o + i * 7 + 2, none⟩ = some (.slice s.A s.n s.c) ∧
        W.cell? ⟨b, o + i * 7 + 3, none⟩ = some (.slice s.R s.rn s.rc) ∧ W.cell? ⟨b, o + i * 7 + 4, none⟩ = some (.slice s.G s.gn s.gc) ∧ W.cell? ⟨b, o + i * 7 + 5, none⟩ = some (.int .i64 s.l) ∧ W.cell? ⟨b, o + i * 7 + 6, none⟩ = some (.bool s.ev) := by
      intro i
      by_cases hin : i < n
      · obtain ⟨ys, q, _, _, _, hf⟩ := hi i (by rw [hmm]; split <;> omega)
        obtain ⟨v0, y0, c0, _, t0⟩ := hf 0 _ rfl
        obtain ⟨v1, y1, c1, _, t1⟩ := hf 1 _ rfl
        obtain ⟨v2, y2, c2, _, t2⟩ := hf 2 _ rfl
        obtain ⟨v3, y3, c3, _, t3⟩ := hf 3 _ rfl
        obtain ⟨v4, y4, c4, _, t4⟩ := hf 4 _ rfl
        obtain ⟨v5, y5, c5, _, t5⟩ := hf 5 _ rfl
        obtain ⟨v6, y6, c6, _, t6⟩ := hf 6 _ rfl
        obtain ⟨n0, rfl⟩ := one_int Tryd.underlying3 t0
        obtain ⟨n1, rfl⟩ := one_int Tryd.underlying3 t1
        obtain ⟨A2, l2, p2, f2, rfl, r2, z2, q2, w2⟩ := open_texts t2
        obtain ⟨A3, l3, p3, f3, rfl, r3, z3, q3, w3⟩ := open_nums t3
        obtain ⟨A4, l4, p4, f4, rfl, r4, z4, q4, w4⟩ := open_nums t4
        obtain ⟨n5, rfl⟩ := one_int Tryd.underlying3 t5
        obtain ⟨b6, e6, _⟩ := DataW.trod_bool Tryd.underlying4 t6
        injection e6 with e6
        subst e6
        obtain ⟨v0', hv0'⟩ : ∃ v, W.cell? (a.add 0) = some v := by
          obtain ⟨ys', q', _, _, _, hf'⟩ := hi 0 (by rw [hmm]; split <;> omega)
          obtain ⟨v0', y0', c0', _⟩ := hf' 0 _ rfl
          rw [Nat.zero_mul, Nat.add_zero] at c0'
          exact ⟨v0', c0'⟩
        obtain ⟨b, o, ha, hb⟩ := plain_addr hv0'
        subst ha
        rw [add_at] at c0 c1 c2 c3 c4 c5 c6
        exact ⟨{ p := n0, k := n1, A := A2, n := l2, c := p2, R := A3, rn := l3, rc := p3, G := A4, gn := l4, gc := p4, l := n5, ev := b6, names := f2, refs := f3, gens := f4 }, fun _ =>
          ⟨⟨Nat.le_trans q2 w2, Nat.le_trans q3 w3, Nat.le_trans q4 w4, r2, r3, r4, q2, z3, z4⟩, b, o, rfl, hb, c0, c1, c2, c3, c4, c5, c6⟩⟩
      · exact ⟨s0, fun h => absurd h hin⟩
    obtain ⟨S, hS⟩ := Classical.axiomOfChoice hall
    exact ⟨S, fun i hi => hS i hi⟩
end
theorem gI : Tryd.prog.globalNamed "given.example/pub-frisket/pub/esbuild/inner/ast.InvalidRef" = some 2 := by kernel_rfl
theorem gK : Tryd.prog.globalNamed "given.example/pub-frisket/pub/esbuild/inner/js_lexer.Keywords" = some 0 := by kernel_rfl
theorem gS : Tryd.prog.globalNamed "given.example/pub-frisket/pub/esbuild/inner/js_lexer.StrictModeReservedWords" = some 1 := by kernel_rfl
theorem tI : (Tryd.prog.globals[2]?).map (·.type) = some 69 := by kernel_rfl
theorem tK : (Tryd.prog.globals[0]?).map (·.type) = some 63 := by kernel_rfl
theorem tS : (Tryd.prog.globals[1]?).map (·.type) = some 64 := by kernel_rfl
theorem c69 : Tryd.prog.cellsOf 69 = 2 := by kernel_rfl
theorem c35 : Tryd.prog.cellsOf 35 = 1 := by kernel_rfl
theorem elemAt_plainElem_bool {H : Type} {enc : TypeId × Value → H} {P : Program} {base : Nat} {held : Bool} {e : TypeId} (he : P.underlying e = some .bool) {W : World} {sp : Nat → Bool} {m : Nat} {v : Value} {z : DataW H × List MemPlace}
    (h : WideElems.elemAt enc P W base sp held m e v = some z) : plainElem P e v = some z := by
  obtain ⟨b, rfl, rfl⟩ := WideElems.elemAt_bool he h
  exact plainElem_bool he b
set_option maxRecDepth 100000 in
theorem laid_of {W : World} (h : laidMetH Tryd.prog Rows.fnReservedRow.laid W) : ∃ kb sb y0 y1, Laid (H := Unit) W kb 36 sb 9 Rows.laid_given_example_pub_frisket_pub_esbuild_inner_js_lexer_Keywords Rows.laid_given_example_pub_frisket_pub_esbuild_inner_js_lexer_StrictModeReservedWords y0 y1 := by
  rw [MakeChecks.laidMetH_plain _ _ _ (by kernel_rfl)] at h
  obtain ⟨ps, ⟨g0, t0, cs0, f0, p0, q0, hg0, ht0, hv0, hd0, ⟨g1, t1, cs1, f1, p1, q1, hg1, ht1, hv1, hd1, ⟨g2, t2, cs2, f2, p2, q2, hg2, ht2, hv2, hd2, _, _⟩, _⟩, _⟩, _, _⟩ := h
  obtain rfl := Option.some.inj (gI.symm.trans hg0)
  obtain rfl := Option.some.inj (gK.symm.trans hg1)
  obtain rfl := Option.some.inj (gS.symm.trans hg2)
  obtain rfl := Option.some.inj (tI.symm.trans ht0)
  obtain rfl := Option.some.inj (tK.symm.trans ht1)
  obtain rfl := Option.some.inj (tS.symm.trans ht2)
  obtain ⟨z0, z1, nf, _, hl, u0, u1⟩ := trod_struct2 Tryd.underlying69 hd0
  rw [c69] at hl
  obtain ⟨l0⟩ := cs0
  match l0, hl with
  | [ca, cb], _ =>
    simp only [c35, List.drop_zero, List.take_succ_cons, List.take_zero, List.drop_succ_cons] at u0 u1
    obtain ⟨y0, e0, _, _⟩ := DataW.trod_int Tryd.underlying35 u0
    obtain ⟨y1, e1, _, _⟩ := DataW.trod_int Tryd.underlying35 u1
    obtain rfl : ca = .int .u32 y0 := by injection e0
    obtain rfl : cb = .int .u32 y1 := by injection e1
    have k0 : W.cell? ⟨2, 0, none⟩ = some (.int .u32 y0) := by simpa using World.var?_cell gI hv0 0
    have k1 : W.cell? ⟨2, 1, none⟩ = some (.int .u32 y1) := by simpa using World.var?_cell gI hv0 1
    rcases WideElems.open_map Tryd.underlying63 hd1 with ⟨_, hx⟩ | ⟨kb, es, clock, m, _, hcs, hb, _, F, hx⟩
    · simp [Rows.laid_given_example_pub_frisket_pub_esbuild_inner_js_lexer_Keywords] at hx
    rcases WideElems.open_map Tryd.underlying64 hd2 with ⟨_, hx'⟩ | ⟨sb, es', clock', m', _, hcs', hb', _, F', hx'⟩
    · simp [Rows.laid_given_example_pub_frisket_pub_esbuild_inner_js_lexer_StrictModeReservedWords] at hx'
    have o1 := World.ownsMap_of_fit hb F (fun x _ z hz => elemAt_plainElem_int Tryd.underlying138 hz)
    have o2 := World.ownsMap_of_fit hb' F' (fun x _ z hz => elemAt_plainElem_bool Tryd.underlying4 hz)
    have hx1 := (Prod.mk.inj hx).1
    have hx2 := (Prod.mk.inj hx').1
    have l1 := length_read (P := Tryd.prog) (k := 9) (R0 := WideElems.elemAt (fun _ => ()) Tryd.prog W 0 (fun _ => true) false m 138) es
    have l2 := length_read (P := Tryd.prog) (k := 9) (R0 := WideElems.elemAt (fun _ => ()) Tryd.prog W 0 (fun _ => true) false m' 4) es'
    rw [← hx1] at o1
    rw [← hx2] at o2
    injection hx1 with hx1
    injection hx2 with hx2
    rw [← hx1] at l1
    rw [← hx2] at l2
    refine ⟨kb, sb, y0, y1, o1.mono (by rw [← l1]; decide), o2.mono (by rw [← l2]; decide), ?_, ?_, k0, k1, World.block_lt_of_cell? W _ k0, by omega, by omega⟩
    · have := World.var?_cell gK hv1 0
      rw [Array.eq_one_of_toList hcs] at this
      simpa using this
    · have := World.var?_cell gS hv2 0
      rw [Array.eq_one_of_toList hcs'] at this
      simpa using this
theorem words_in (i : Nat) (hi : i < 45) : Maps.has (Rows.laid_given_example_pub_frisket_pub_esbuild_inner_js_lexer_Keywords (H := Unit)) (.string (wordAt i).data.toList) = true ∨ Maps.has (Rows.laid_given_example_pub_frisket_pub_esbuild_inner_js_lexer_StrictModeReservedWords (H := Unit)) (.string (wordAt i).data.toList) = true := by
  have key : ∀ i : Fin 45, (Maps.has (Rows.laid_given_example_pub_frisket_pub_esbuild_inner_js_lexer_Keywords (H := Unit)) (.string (wordAt i.val).data.toList) || Maps.has (Rows.laid_given_example_pub_frisket_pub_esbuild_inner_js_lexer_StrictModeReservedWords (H := Unit)) (.string (wordAt i.val).data.toList)) = true := by decide +kernel
  simpa using key ⟨i, hi⟩
theorem lawRow {H : Type} {enc : TypeId × Value → H} {spare spare' : Nat → Bool} {held held' : Bool} {fuel fuel' : Nat} {x x' : DataW H × List MemPlace} (A : Option Addr) (n c : Nat) (B : Option Addr) (m mc : Nat) (W : World)
    (h0 : DataW.trod enc Tryd.prog W 0 spare held fuel 22 [.slice A n c] = some x) (h1 : DataW.trod enc Tryd.prog W 0 spare' held' fuel' 23 [.slice B m mc] = some x') (hL : laidMetH Tryd.prog Rows.fnReservedRow.laid W) :
    Calls Tryd.prog 3 #[.slice A n c, .slice B m mc] W fun e w' => e = .returned (.bool true) ∧ Below W.heap.size W w' := by
  obtain ⟨hn, S, hS⟩ := open_scopes h0
  obtain ⟨hm, Y, hY⟩ := open_symbols h1
  obtain ⟨kb, sb, y0, y1, hLa⟩ := laid_of hL
  refine (law A n c S B m mc Y y0 y1 kb 36 sb 9 _ _ W hS hY hLa hn hm words_in (by decide +kernel)).mono ?_
  rintro e w' ⟨hb, rfl⟩
  exact ⟨rfl, hb⟩
end Go.Proofs.YtofdoaollanbpaaDoor.Res
