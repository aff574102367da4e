/- The names of a builder: the map, and the quoted texts. No walk in sight. -/
import Derived.Test.YtobhlppdolekoaaChE
import Derived.Test.YtobhlppdolekoaaWtfN
import Derived.Maps.OwnSet
namespace Go.Proofs.Ytobhlppdolekoaa.Ch
open Go.RowKit Go.Proofs.Ytobhlppdolekoaa.Aid Go.Proofs.Ytobhlppdolekoaa.Bytes Go.Proofs.Ytobhlppdolekoaa.Wtf
open Go.Maps (IsMap)
set_option linter.unusedVariables false
/-- A name as a map's key. -/
def key (s : ByteArray) : Lit := .string s.data.toList
theorem key_inj {s t : ByteArray} (h : key s = key t) : s = t := by
  unfold key at h
  injection h with h
  exact ByteArray.ext (Array.toList_inj.1 h)
theorem key_is (s : ByteArray) : WideAt.IsKeyLit (key s) := trivial
/-- What the map of names holds: each name's number. -/
structure NMap (D : DataW Unit) (ns : List ByteArray) : Prop where
  isMap : IsMap D
  has : ∀ s, Maps.has D (key s) = true ↔ s ∈ ns
  at_ : ∀ (i : Nat) s, ns[i]? = some s → D.atKey (key s) (.lit (.int .u32 0)) = .lit (.int .u32 i)
theorem NMap.nil : NMap (.map []) [] := ⟨Maps.isMap_empty, fun s => by simp [Maps.has_eq], fun i s h => by simp at h⟩
theorem NMap.put {D : DataW Unit} {ns : List ByteArray} (h : NMap D ns) (s : ByteArray) (hs : s ∉ ns) : NMap (D.put (key s) (.lit (.int .u32 ns.length))) (ns ++ [s]) := by
  refine ⟨h.isMap.put _ _, fun t => ?_, fun i t ht => ?_⟩
  · by_cases e : t = s
    · subst e
      rw [Maps.has_put_same h.isMap (key_is _)]
      simp
    · rw [Maps.has_put_other (fun k => e (key_inj k)), h.has t]
      simp [e]
  · rcases Nat.lt_or_ge i ns.length with hi | hi
    · rw [List.getElem?_append_left hi] at ht
      have : t ≠ s := by rintro rfl; exact hs (List.mem_of_getElem? ht)
      rw [Maps.atKey_put_other (fun k => this (key_inj k)), h.at_ i t ht]
    · rw [List.getElem?_append_right hi] at ht
      have hz : i - ns.length = 0 := by
        rcases Nat.eq_zero_or_pos (i - ns.length) with h' | h'
        · exact h'
        · rw [List.getElem?_eq_none (by simp; omega)] at ht; cases ht
      rw [hz] at ht
      simp at ht
      subst ht
      rw [Maps.atKey_put_same h.isMap (key_is _), show i = ns.length by omega]
/-- The quoted texts, each in a block of its own. -/
def QText (w : World) (B : Nat) (v : Value) (asc : Bool) (s : ByteArray) (q : Value) : Prop :=
  w.ownsRow B 5 1 q (Q34 asc s).length (ncells (Q34 asc s)) ∧ q.ownBlock ≠ v.ownBlock
theorem Q34_len (asc : Bool) (s : ByteArray) : 2 ≤ (Q34 asc s).length := by simp [Q34]
theorem QText.block {w : World} {B : Nat} {v q : Value} {asc : Bool} {s : ByteArray} (h : QText w B v asc s q) : ∃ g c, q = .slice (some ⟨g, 0, none⟩) (Q34 asc s).length c ∧ B ≤ g ∧ g < w.heap.size ∧ q.ownBlock = some g := by
  obtain ⟨A, c, e, hr⟩ := own_form h.1
  obtain ⟨g, e', h1, h2, _⟩ := hr 0 (by have := Q34_len asc s; omega)
  subst e e'
  exact ⟨g, c, rfl, h1, h2, rfl⟩
structure Nms (w : World) (B bm : Nat) (v qv : Value) (asc : Bool) (ns : List ByteArray) : Prop where
  map : ∃ D : DataW Unit, w.ownsMap Try.prog 9 (plainElem Try.prog 51) bm ns.length D ∧ NMap D ns
  bm : B ≤ bm
  row : ∃ qs : List Value, w.ownsRow B 25 1 qv ns.length qs ∧ qs.length = ns.length ∧ ∀ (i : Nat) s, ns[i]? = some s → ∃ q, qs[i]? = some q ∧ QText w B v asc s q
/-- A map's block is no row's and no cells'. -/
theorem map_ne_own {w : World} {H : Type} {R : Value → Option (DataW H × List MemPlace)} {k bm n base : Nat} {D : DataW H} {e : TypeId} {size m : Nat} {v : Value} {xs : List Value} (h : w.ownsMap Try.prog k R bm n D) (ho : w.ownsRow base e size v m xs) : some bm ≠ v.ownBlock := by
  obtain ⟨es, clock, hb, _⟩ := h
  rcases ho.2 with ⟨rfl, _⟩ | ⟨j, cap, cur, rfl, _, hh, _⟩
  · simp [Value.ownBlock]
  · intro e'
    have : bm = j := by simpa [Value.ownBlock] using e'
    subst this
    rw [hb] at hh
    injection hh with hh
    cases hh
theorem map_ne_blk {w : World} {H : Type} {R : Value → Option (DataW H × List MemPlace)} {k bm n g : Nat} {D : DataW H} {e : TypeId} {cs : List Value} (h : w.ownsMap Try.prog k R bm n D) (ho : Blk w g e cs) : bm ≠ g := by
  obtain ⟨es, clock, hb, _⟩ := h
  rintro rfl
  rw [Blk, hb] at ho
  injection ho with ho
  cases ho
theorem map_two {w w' : World} {H : Type} {R : Value → Option (DataW H × List MemPlace)} {k bm n g : Nat} {D : DataW H} {r : Option Nat} (h : w.ownsMap Try.prog k R bm n D) (t : Two w w' g r) (h1 : bm ≠ g) (h2 : some bm ≠ r) : w'.ownsMap Try.prog k R bm n D := by
  have hlt := h.lt
  obtain ⟨es, clock, hb, F, hs, hD⟩ := h
  exact ⟨es, clock, (t.block bm hlt h1 h2).trans hb, F, hs, hD⟩
/-- The names stay while the builder and its bytes turn. -/
theorem Nms.two {w w' : World} {B g bm : Nat} {v v' qv : Value} {asc : Bool} {ns : List ByteArray} {l : List Nat} {cs : List Value} (h : Nms w B bm v qv asc ns) (t : Two w w' g v.ownBlock) (hc : Blk w g 83 cs) (hb : Buf w B v l)
    (hv : v'.ownBlock = v.ownBlock ∨ ∃ k, v'.ownBlock = some k ∧ w.heap.size ≤ k) : Nms w' B bm v' qv asc ns := by
  obtain ⟨⟨D, hD, hN⟩, hbm, qs, hrow, hlen, hall⟩ := h
  refine ⟨⟨D, map_two hD t (map_ne_blk hD hc) (map_ne_own hD hb), hN⟩, hbm, qs, t.own hrow (own_ne hrow hc (by decide)) (own_row_ne hrow hb (by decide)), hlen, fun i s hs => ?_⟩
  obtain ⟨q, hq, ht⟩ := hall i s hs
  obtain ⟨gi, ci, e, _, hlt, hob⟩ := ht.block
  refine ⟨q, hq, t.own ht.1 (own_ne ht.1 hc (by decide)) (.inr ht.2), ?_⟩
  rcases hv with hv | ⟨k, hv, hk⟩
  · rw [hv]; exact ht.2
  · rw [hv, hob]; intro e'; injection e' with e'; omega
/-- The names stay while a block that is none of theirs turns. -/
theorem Nms.only {w w' : World} {B bm : Nat} {v qv : Value} {asc : Bool} {ns : List ByteArray} {r : Option Nat} (h : Nms w B bm v qv asc ns) (t : w.grownBy w' r) (h1 : some bm ≠ r) (h2 : qv.ownBlock = none ∨ qv.ownBlock ≠ r) (h3 : ∀ s q, QText w B v asc s q → q.ownBlock ≠ r) : Nms w' B bm v qv asc ns := by
  obtain ⟨⟨D, hD, hN⟩, hbm, qs, hrow, hlen, hall⟩ := h
  refine ⟨⟨D, hD.kept t h1, hN⟩, hbm, qs, hrow.kept t h2, hlen, fun i s hs => ?_⟩
  obtain ⟨q, hq, ht⟩ := hall i s hs
  exact ⟨q, hq, ht.1.kept t (.inr (h3 s q ht)), ht.2⟩
theorem Nms.below {w w' : World} {B bm : Nat} {v qv : Value} {asc : Bool} {ns : List ByteArray} (h : Nms w B bm v qv asc ns) (hb : Below w.heap.size w w') : Nms w' B bm v qv asc ns :=
  h.only (only_of_below hb none) (by simp) (by cases h : qv.ownBlock <;> simp) (fun s q hq => by obtain ⟨_, _, _, _, _, e⟩ := hq.block; rw [e]; simp)
/-- The builder's cells turn. -/
theorem Nms.cells {w w' : World} {B bm g : Nat} {v qv : Value} {asc : Bool} {ns : List ByteArray} {t : TypeId} {cs : List Value} (h : Nms w B bm v qv asc ns) (hc : Blk w g t cs) (ht5 : t ≠ 5) (ht25 : t ≠ 25) (hg : w.grownBy w' (some g)) : Nms w' B bm v qv asc ns := by
  obtain ⟨D, hD, hN⟩ := h.map
  obtain ⟨qs, hrow, _⟩ := h.row
  exact h.only hg (fun e => map_ne_blk hD hc (by injection e)) (.inr fun e => own_ne hrow hc (Ne.symm ht25) e.symm) (fun s q hq e => own_ne hq.1 hc (Ne.symm ht5) e.symm)
/-- Nothing below B has turned but block g. -/
structure Bel (B g : Nat) (w w' : World) : Prop where
  le : B ≤ w.heap.size
  os : w'.os = w.os
  tape : w'.tape = w.tape
  output : w'.output = w.output
  size : w.heap.size ≤ w'.heap.size
  block : ∀ i, i < B → i ≠ g → w'.heap[i]? = w.heap[i]?
theorem Bel.refl {B : Nat} (g : Nat) {w : World} (h : B ≤ w.heap.size) : Bel B g w w := ⟨h, rfl, rfl, rfl, Nat.le_refl _, fun _ _ _ => rfl⟩
theorem Bel.of_below {B g : Nat} {w w' : World} (hB : B ≤ w.heap.size) (h : Below B w w') : Bel B g w w' := ⟨hB, h.os, h.tape, h.output, h.size, fun i hi _ => h.block i hi⟩
theorem Bel.trans {B g : Nat} {a b c : World} (h : Bel B g a b) (k : Bel B g b c) : Bel B g a c :=
  ⟨h.le, k.os.trans h.os, k.tape.trans h.tape, k.output.trans h.output, Nat.le_trans h.size k.size, fun i hi hg => (k.block i hi hg).trans (h.block i hi hg)⟩
theorem Bel.big {B g : Nat} {w w' : World} (h : Bel B g w w') : B ≤ w'.heap.size := Nat.le_trans h.le h.size
theorem Bel.below {B g : Nat} {w wr w' : World} (h : Bel B g w wr) (k : Below wr.heap.size wr w') : Bel B g w w' := h.trans (Bel.of_below h.big (k.mono h.big))
theorem Bel.only {B g : Nat} {w wr w' : World} {r : Option Nat} (h : Bel B g w wr) (k : wr.grownBy w' r) (hr : ∀ j, r = some j → B ≤ j ∨ j = g) : Bel B g w w' :=
  h.trans ⟨h.big, k.os, k.tape, k.output, k.size, fun i hi hg => k.block i (Nat.lt_of_lt_of_le hi h.big) (fun e => by rcases hr i e.symm with h1 | h1 <;> omega)⟩
theorem Bel.two {B g : Nat} {w wr w' : World} {r : Option Nat} (h : Bel B g w wr) (k : Two wr w' g r) (hr : ∀ j, r = some j → B ≤ j) : Bel B g w w' :=
  h.trans ⟨h.big, k.os, k.tape, k.output, k.size, fun i hi hg => k.block i (Nat.lt_of_lt_of_le hi h.big) hg (fun e => by have := hr i e.symm; omega)⟩
theorem Bel.cell {B g : Nat} {w w' : World} (h : Bel B g w w') {b o : Nat} {v : Option Value} (hb : b < B) (hg : b ≠ g) (hv : w.cell? ⟨b, o, none⟩ = v) : w'.cell? ⟨b, o, none⟩ = v :=
  (World.cell?_of_block (a := ⟨b, o, none⟩) (h.block b hb hg)).trans hv
open Classical in
/-- The names behind a name more. -/
noncomputable def put (ns : List ByteArray) (s : ByteArray) : List ByteArray := if s = ByteArray.empty ∨ s ∈ ns then ns else ns ++ [s]
theorem info25 : (Try.prog.info? 25).map (fun i => (i.zero, i.size, i.bytes)) = some (some (.slice none 0 0), 1, 24) := by kernel_rfl
theorem law9 : Go.Maps.Keyed Try.prog 9 := Go.Maps.string_keyed Try.underlying9
end Go.Proofs.Ytobhlppdolekoaa.Ch
