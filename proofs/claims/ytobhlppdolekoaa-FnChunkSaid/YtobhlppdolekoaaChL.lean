/- appendMapping: a name's number, and the mapping. The walk. -/
import Derived.Test.YtobhlppdolekoaaChK
import Derived.Test.YtobhlppdolekoaaChD
import Derived.BigQuiet
namespace Go.Proofs.Ytobhlppdolekoaa.Ch
open Go.RowKit Go.Proofs.Ytobhlppdolekoaa.Aid Go.Proofs.Ytobhlppdolekoaa.Bytes Go.Proofs.Ytobhlppdolekoaa.Wtf
attribute [local go_sem ↓] Go.wp_at_zero Go.wp_at_succ
set_option linter.unusedVariables false
set_option linter.unusedSimpArgs false
/-- A mapping's state with its name's number. -/
def Named (ns : List ByteArray) (s : ByteArray) (q q' : Sm) : Prop := (s = ByteArray.empty ∧ q' = q) ∨ (s ≠ ByteArray.empty ∧ ∃ i : Nat, ns[i]? = some s ∧ q' = { q with nm := i, has := true })
/-- The builder while a name is looked up. -/
structure Mid (w wr : World) (B g bm : Nat) (d : Bd) (l : List Nat) (qv : Value) (ns : List ByteArray) : Prop where
  cells : Blk wr g 83 ({ d with q := qv } : Bd).cells
  buf : Buf wr B d.v l
  nms : Nms wr B bm d.v qv d.asc ns
  low : Bel B g w wr
theorem Mid.below {w wr w' : World} {B g bm : Nat} {d : Bd} {l : List Nat} {qv : Value} {ns : List ByteArray} (h : Mid w wr B g bm d l qv ns) (hB : B ≤ wr.heap.size) (hb : Below wr.heap.size wr w') : Mid w w' B g bm d l qv ns :=
  ⟨h.cells.below hb h.cells.lt, own_keep h.buf hb, h.nms.below hb, h.low.below hb⟩
theorem Mid.other {w wr w' : World} {B g bm b : Nat} {d : Bd} {l : List Nat} {qv : Value} {ns : List ByteArray} {cs : List Value} (h : Mid w wr B g bm d l qv ns) (hB : B ≤ wr.heap.size) (hk : Blk wr b 58 cs) (hb : B ≤ b) (hg : wr.grownBy w' (some b)) : Mid w w' B g bm d l qv ns :=
  ⟨h.cells.grown hg (fun e => blk_ne h.cells hk (by decide) (by injection e)), h.buf.kept hg (.inr fun e => own_ne h.buf hk (by decide) e.symm), h.nms.cells hk (by decide) (by decide) hg, h.low.only hg (fun k hk => .inl (by injection hk with hk; omega))⟩
theorem own_base {w : World} {base B : Nat} {e : TypeId} {size n : Nat} {v : Value} {xs : List Value} (h : w.ownsRow base e size v n xs) (hB : B ≤ base) : w.ownsRow B e size v n xs := by
  refine ⟨h.1, ?_⟩
  rcases h.2 with hn | ⟨k, cap, cur, e1, hb, hh⟩
  · exact .inl hn
  · exact .inr ⟨k, cap, cur, e1, Nat.le_trans hB hb, hh⟩
/-- A text that is new. -/
theorem QText.new {w w1 : World} {B : Nat} {v q : Value} {asc : Bool} {s : ByteArray} {l : List Nat} (h : w1.ownsRow w.heap.size 5 1 q (Q34 asc s).length (ncells (Q34 asc s))) (hB : B ≤ w.heap.size) (hb : Buf w B v l) : QText w1 B v asc s q := by
  refine ⟨own_base h hB, fun e => ?_⟩
  obtain ⟨_, _, _, _, _, e1⟩ := QText.block (v := .pointer none) (asc := asc) (s := s) ⟨h, by
    obtain ⟨A, c, e', hr⟩ := own_form h
    obtain ⟨g, e2, _⟩ := hr 0 (by have := Q34_len asc s; omega)
    rw [e', e2]
    simp [Value.ownBlock]⟩
  have h1 := own_below h _ e1
  have h2 := (hb.lt _ (e ▸ e1)).2
  omega
/-- The builder while a name is laid down. -/
structure Pre (w wr : World) (B g bm : Nat) (d : Bd) (l : List Nat) (qc qv : Value) (ns ns' : List ByteArray) : Prop where
  cells : Blk wr g 83 ({ d with q := qc } : Bd).cells
  buf : Buf wr B d.v l
  map : ∃ D : DataW Unit, wr.ownsMap Try.prog 9 (plainElem Try.prog 51) bm ns.length D ∧ NMap D ns
  bm : B ≤ bm
  row : ∃ qs : List Value, wr.ownsRow B 25 1 qv ns'.length qs ∧ qs.length = ns'.length ∧ ∀ (i : Nat) s, ns'[i]? = some s → ∃ q, qs[i]? = some q ∧ QText wr B d.v d.asc s q
  low : Bel B g w wr
theorem Mid.append {w wr w3 : World} {B g bm : Nat} {d : Bd} {l : List Nat} {qv qv' qn : Value} {ns : List ByteArray} {s : ByteArray} {qs : List Value} (h : Mid w wr B g bm d l qv ns) (hrow : wr.ownsRow B 25 1 qv ns.length qs) (hlen : qs.length = ns.length) (hall : ∀ (i : Nat) s, ns[i]? = some s → ∃ q, qs[i]? = some q ∧ QText wr B d.v d.asc s q)
    (hq : QText wr B d.v d.asc s qn) (hown : w3.ownsRow B 25 1 qv' (ns.length + 1) (qs ++ [qn])) (hgr : wr.grownBy w3 qv.ownBlock) (hB : B ≤ wr.heap.size) : Pre w w3 B g bm d l qv qv' ns (ns ++ [s]) := by
  have hk : ∀ s q, QText wr B d.v d.asc s q → QText w3 B d.v d.asc s q := fun s q hq => ⟨hq.1.kept hgr (own_row_ne hq.1 hrow (by decide)), hq.2⟩
  refine ⟨h.cells.grown hgr (own_ne hrow h.cells (by decide)), h.buf.kept hgr (own_row_ne h.buf hrow (by decide)), ?_, h.nms.bm, ?_, h.low.only hgr (fun k hk => .inl (own_below hrow k hk))⟩
  · obtain ⟨D, hD, hN⟩ := h.nms.map
    exact ⟨D, hD.kept hgr (map_ne_own hD hrow), hN⟩
  · refine ⟨qs ++ [qn], by simpa using hown, by simp [hlen], fun i s' hs => ?_⟩
    rcases Nat.lt_or_ge i ns.length with hi | hi
    · rw [List.getElem?_append_left hi] at hs
      obtain ⟨q, h1, h2⟩ := hall i s' hs
      exact ⟨q, by rw [List.getElem?_append_left (by omega)]; exact h1, hk _ _ h2⟩
    · rw [List.getElem?_append_right hi] at hs
      have hz : i - ns.length = 0 := by
        rcases Nat.eq_zero_or_pos (i - ns.length) with h' | h'
        · exact h'
        · rw [List.getElem?_eq_none (by simp; omega)] at hs; cases hs
      rw [hz] at hs
      simp at hs
      subst hs
      exact ⟨qn, by rw [List.getElem?_append_right (by omega), show i - qs.length = 0 by omega]; rfl, hk _ _ hq⟩
theorem Pre.store {w wr : World} {B g bm : Nat} {d : Bd} {l : List Nat} {qc qv : Value} {ns ns' : List ByteArray} (h : Pre w wr B g bm d l qc qv ns ns') : Pre w (wr.setCell ⟨g, 2, none⟩ qv) B g bm d l qv qv ns ns' := by
  have hgr : wr.grownBy (wr.setCell ⟨g, 2, none⟩ qv) (some g) := only_setCell (World.grownBy.refl _ _) (.inl rfl) _
  refine ⟨h.cells.set_ 2 qv, h.buf.kept hgr (.inr fun e => own_ne h.buf h.cells (by decide) e.symm), ?_, h.bm, ?_, h.low.only hgr (fun k hk => .inr (by injection hk with hk; exact hk.symm))⟩
  · obtain ⟨D, hD, hN⟩ := h.map
    exact ⟨D, hD.kept hgr (fun e => map_ne_blk hD h.cells (by injection e)), hN⟩
  · obtain ⟨qs, h1, h2, h3⟩ := h.row
    refine ⟨qs, h1.kept hgr (.inr fun e => own_ne h1 h.cells (by decide) e.symm), h2, fun i s hs => ?_⟩
    obtain ⟨q, k1, k2⟩ := h3 i s hs
    exact ⟨q, k1, k2.1.kept hgr (.inr fun e => own_ne k2.1 h.cells (by decide) e.symm), k2.2⟩
theorem Pre.below {w wr w' : World} {B g bm : Nat} {d : Bd} {l : List Nat} {qc qv : Value} {ns ns' : List ByteArray} (h : Pre w wr B g bm d l qc qv ns ns') (hB : B ≤ wr.heap.size) (hb : Below wr.heap.size wr w') : Pre w w' B g bm d l qc qv ns ns' := by
  refine ⟨h.cells.below hb h.cells.lt, own_keep h.buf hb, ?_, h.bm, ?_, h.low.below hb⟩
  · obtain ⟨D, hD, hN⟩ := h.map
    exact ⟨D, hD.kept (only_of_below hb none) (by simp), hN⟩
  · obtain ⟨qs, h1, h2, h3⟩ := h.row
    refine ⟨qs, own_keep h1 hb, h2, fun i s hs => ?_⟩
    obtain ⟨q, k1, k2⟩ := h3 i s hs
    exact ⟨q, k1, own_keep k2.1 hb, k2.2⟩
theorem Pre.update {w wr w' : World} {B g bm : Nat} {d : Bd} {l : List Nat} {qv : Value} {ns : List ByteArray} {s : ByteArray} {D : DataW Unit} (h : Pre w wr B g bm d l qv qv ns (ns ++ [s])) (hB : B ≤ wr.heap.size) (hD0 : wr.ownsMap Try.prog 9 (plainElem Try.prog 51) bm ns.length D) (hN : NMap D ns) (hs : s ∉ ns)
    (hD : w'.ownsMap Try.prog 9 (plainElem Try.prog 51) bm (ns.length + 1) (D.put (key s) (.lit (.int .u32 ns.length)))) (hgr : wr.grownBy w' (some bm)) : Mid w w' B g bm d l qv (ns ++ [s]) := by
  have hne : ∀ {v : Value} {e : TypeId} {size n : Nat} {xs : List Value}, wr.ownsRow B e size v n xs → v.ownBlock = none ∨ v.ownBlock ≠ some bm := fun ho => .inr fun e => map_ne_own hD0 ho e.symm
  refine ⟨h.cells.grown hgr (fun e => map_ne_blk hD0 h.cells (by injection e with e; exact e.symm)), h.buf.kept hgr (hne h.buf), ⟨⟨_, by simpa using hD, hN.put s hs⟩, h.bm, ?_⟩, h.low.only hgr (fun k hk => .inl (by injection hk with hk; have := h.bm; omega))⟩
  obtain ⟨qs, h1, h2, h3⟩ := h.row
  refine ⟨qs, h1.kept hgr (hne h1), h2, fun i s hs => ?_⟩
  obtain ⟨q, k1, k2⟩ := h3 i s hs
  exact ⟨q, k1, k2.1.kept hgr (hne k2.1), k2.2⟩
theorem zero51 (w : World) : (zeroValue 51).run Try.prog w = .ok (.int .u32 0) w := by kernel_rfl
theorem loop_ne (s : ByteArray) (m : Nat) : ∀ (i : Nat) (r : List UInt8), s.size - i = m → r ≠ [] → ByteArray.toList.loop s i r ≠ [] := by
  induction m with
  | zero =>
    intro i r hm hr
    rw [ByteArray.toList.loop.eq_def, if_neg (by omega)]
    simpa using hr
  | succ m ih =>
    intro i r hm hr
    rw [ByteArray.toList.loop.eq_def, if_pos (by omega)]
    exact ih _ _ (by omega) (by simp)
theorem isEmpty_of {s : ByteArray} (h : s ≠ ByteArray.empty) : s.toList.isEmpty = false := by
  have h0 : 0 < s.size := by
    rcases Nat.eq_zero_or_pos s.size with h0 | h0
    · exact absurd (ByteArray.size_eq_zero_iff.1 h0) h
    · exact h0
  have : s.toList ≠ [] := by
    rw [ByteArray.toList, ByteArray.toList.loop.eq_def, if_pos h0]
    exact loop_ne s _ _ _ rfl (by simp)
  cases hs : s.toList with
  | nil => exact absurd hs this
  | cons x xs => rfl
theorem isEmpty_empty : ByteArray.empty.toList.isEmpty = true := by rw [ByteArray.toList_empty]; rfl
theorem put_in {ns : List ByteArray} {s : ByteArray} (h : s = ByteArray.empty ∨ s ∈ ns) : put ns s = ns := by unfold put; rw [if_pos h]
theorem put_new {ns : List ByteArray} {s : ByteArray} (h : s ≠ ByteArray.empty) (h' : s ∉ ns) : put ns s = ns ++ [s] := by unfold put; rw [if_neg (by rintro (h1 | h1) <;> contradiction)]
set_option maxRecDepth 100000 in
set_option maxHeartbeats 8000000 in
theorem appendMapping (B g bm : Nat) (d : Bd) (l : List Nat) (q : Sm) (s : ByteArray) (ns : List ByteArray) (w : World) (hc : Blk w g 83 d.cells) (h : Buf w B d.v l) (hN : Nms w B bm d.v d.q d.asc ns) (hm : d.m = .map (some bm)) (hB : B ≤ w.heap.size)
    (hl : l.length ≤ 1000000000) (hl8 : ∀ b ∈ l, b < 256) (hp : d.st.Small) (hq : q.Small) (hqh : q.has = false) (hns : ns.length ≤ 100000) (hs : s.size ≤ 100000) (hfit : Fit (nats s)) :
    Calls Try.prog 40 #[.pointer (some ⟨g, 0, none⟩), .string s, q.val] w fun e w' => e = .returned (.tuple #[]) ∧ ∃ v' fo' qv' q', Named (put ns s) s q q' ∧ Blk w' g 83 (({ d with q := qv' } : Bd).mapped v' q' fo').cells ∧ Buf w' B v' (l ++ (sep (lastOf l) ++ seg d.st q')) ∧ Nms w' B bm v' qv' d.asc (put ns s) ∧ Bel B g w w' := by
  obtain ⟨i25, hi, hz0, hz1, hz2⟩ := info_parts info25
  have HM0 := Lib.hid (show Mid w w B g bm d l d.q ns from ⟨hc, h, hN, Bel.refl g hB⟩)
  have HP := Lib.hid hp
  have HQ := Lib.hid hq
  have HL8 := Lib.hid hl8
  have HFIT := Lib.hid hfit
  have HQH := Lib.hid hqh
  have HMM := Lib.hid hm
  have hgs : g < w.heap.size := hc.lt
  have HL := Lib.hid hl
  clear h hp hq hc hl8 hN hfit hqh hm hl
  unfold Sm.val
  go_enter Try.func40, Try.ntmps40
  go_upto_region 1 with fail
  obtain ⟨W, hW⟩ : ∃ W, W = w.alloc (.cells q.cells.toArray 58) := ⟨_, rfl⟩
  have B0 : Below w.heap.size w W := by rw [hW]; exact below_at (Below.refl _ _) _
  have KQ : Hid (Blk W w.heap.size 58 q.cells) := Lib.hid (by rw [hW]; exact Blk.new w 58 q.cells)
  have KM : Hid (Mid w W B g bm d l d.q ns) := Lib.hid (HM0.out.below hB B0)
  rw [show w.alloc (.cells #[.int .i64 q.gl, .int .i64 q.gc, .int .i64 q.src, .int .i64 q.ol, .int .i64 q.oc, .int .i64 q.nm, .bool q.has] 58) = W from hW.symm]
  have HWS : Hid (B ≤ W.heap.size) := Lib.hid (Nat.le_trans hB B0.size)
  clear hW B0 HM0
  obtain ⟨b, hb⟩ : ∃ b, b = w.heap.size := ⟨_, rfl⟩
  have hBb : B ≤ b := by omega
  rw [← hb] at KQ hgs ⊢
  clear hb
  have c0 : W.cell? ⟨g, 0, none⟩ = some (.pointer none) := KM.out.cells.get 0 rfl
  go_upto_if 65 with fail
  obtain ⟨z, hz⟩ : ∃ z, (!s.toList.isEmpty) = z := ⟨_, rfl⟩
  rw [hz]
  have HZ := Lib.hid hz
  clear hz
  go_cut [] (fun wx => Hid (∃ qv' q', Named (put ns s) s q q' ∧ Blk wx b 58 q'.cells ∧ Mid w wx B g bm d l qv' (put ns s)))
  case first =>
    cases z with
    | false =>
      have HE : Hid (s = ByteArray.empty) := Lib.hid (by
        by_cases he : s = ByteArray.empty
        · exact he
        · have := HZ.out; rw [isEmpty_of he] at this; cases this)
      go_wp2_with fail
      go_meet
      refine Lib.hid ⟨d.q, q, .inl ⟨HE.out, rfl⟩, KQ.out, ?_⟩
      rw [put_in (.inl HE.out)]
      exact KM.out
    | true =>
      have HE : Hid (s ≠ ByteArray.empty) := Lib.hid (by
        intro he
        have := HZ.out
        rw [he, isEmpty_empty] at this
        cases this)
      obtain ⟨D, hD, hND⟩ := KM.out.nms.map
      have HND := Lib.hid hND
      have HD := Lib.hid hD
      have hkey : keyOf Try.prog 9 (.string s) = some (key s) := Go.WideMaps.keyOf_string_mk Try.underlying9 (by unfold maxLen; omega)
      have HKEY := Lib.hid hkey
      have c3 : W.cell? ⟨g, 3, none⟩ = some (.map (some bm)) := by rw [← HMM.out]; exact KM.out.cells.get 3 rfl
      clear hD hND hkey
      go_upto_if 76 with (at_lookup; refine wpList_lookup_own_ok_int _ rfl _ _ 78 rfl 9 51 .u32 law9 Try.underlying78 Try.underlying51 (zero51 _) bm ns.length D rfl HD.out _ (key s) rfl HKEY.out ?_; intro c hat hwc)
      obtain ⟨zh, hzh⟩ : ∃ z, Maps.has D (key s) = z := ⟨_, rfl⟩
      rw [hzh]
      have HZH := Lib.hid hzh
      have HAT := Lib.hid hat
      clear hzh hat hwc c3
      go_cut [7] (fun t wx => Hid (∃ i : Nat, t = .int .u32 i ∧ (put ns s)[i]? = some s ∧ Blk wx b 58 q.cells ∧ ∃ qv', Mid w wx B g bm d l qv' (put ns s)))
      case first =>
        cases zh with
        | true =>
          have hin : s ∈ ns := (HND.out.has s).1 HZH.out
          have hpi := put_in (ns := ns) (s := s) (.inr hin)
          obtain ⟨i, hgi⟩ := List.getElem?_of_mem hin
          have hc := HND.out.at_ i s hgi
          rw [HAT.out] at hc
          have hci : c = (i : Int) := by injection hc with hc; injection hc
          have HX : Hid (put ns s = ns ∧ ns[i]? = some s ∧ c = (i : Int)) := Lib.hid ⟨hpi, hgi, hci⟩
          clear hin hpi hgi hc hci
          go_wp2_with fail
          go_meet
          exact Lib.hid ⟨i, by rw [HX.out.2.2], by rw [HX.out.1]; exact HX.out.2.1, KQ.out, d.q, by rw [HX.out.1]; exact KM.out⟩
        | false =>
          have HNIN : Hid (s ∉ ns) := Lib.hid (fun hin => by
            have h1 := (HND.out.has s).2 hin
            rw [HZH.out] at h1
            cases h1)
          obtain ⟨qs, hrow, hlen, hall⟩ := KM.out.nms.row
          obtain ⟨A, cq, hdq⟩ := own_slice hrow
          have HDQ := Lib.hid hdq
          have HLEN := Lib.hid hlen
          have hu : IntKind.u32.wrap (ns.length : Int) = ns.length := by simp only [IntKind.wrap, IntKind.bits, IntKind.signed]; simp; omega
          have k2 : W.cell? ⟨g, 2, none⟩ = some (.slice A ns.length cq) := by rw [← hdq]; exact KM.out.cells.get 2 rfl
          clear hrow hlen hall hdq
          go_upto_region 13 with fail
          obtain ⟨S1, hS1⟩ : ∃ S1 : World → Prop, S1 = fun w' => w'.cell? ⟨g, 19, none⟩ = some (.bool d.asc) := ⟨_, rfl⟩
          obtain ⟨SG, hSG⟩ : ∃ SG : World → Prop, SG = fun w' => w'.cell? ⟨g, 2, none⟩ = some (.slice A ns.length cq) := ⟨_, rfl⟩
          have h1 : S1 W.drew := by rw [hS1]; exact KM.out.cells.get 19 rfl
          have hg : SG W.drew := by rw [hSG]; exact k2
          have HS1 := Lib.hid hS1
          have HSG := Lib.hid hSG
          clear hS1 hSG
          refine Hoist.start (S := fun L w' => S1 w' ∧ (L.getD 15 true = false → SG w')) (by kernel_rfl) ?_
          refine Hoist.take (i := 0) (T := S1) (G := fun _ => True) (v := ?va0) rfl (by kernel_rfl) (by kernel_rfl) (by kernel_rfl) (fun _ _ _ h => h) (S_si 15 0 (by decide)) (fun _ _ _ _ _ _ => trivial) (fun _ _ _ h => h.1) trivial (Or.inl ⟨by rfl, ?hya0⟩) ⟨h1, fun _ => hg⟩ ?resta0
          case hya0 =>
            intro w' hSw
            rw [HS1.out] at hSw
            go_simp
            rfl
          simp only [Act.put, List.setIfInBounds_toArray, List.set_cons_zero, List.set_cons_succ]
          refine Hoist.take (i := 1) (T := S1) (G := fun _ => True) (v := ?va1) rfl (by kernel_rfl) (by kernel_rfl) (by kernel_rfl) (fun _ _ _ h => h) (S_si 15 1 (by decide)) (fun _ _ _ _ _ _ => trivial) (fun _ _ _ h => h.1) trivial (Or.inl ⟨by rfl, ?hya1⟩) ⟨h1, fun _ => hg⟩ ?resta1
          case hya1 =>
            intro w' hSw
            rw [HS1.out] at hSw
            go_simp
            rfl
          simp only [Act.put, List.setIfInBounds_toArray, List.set_cons_zero, List.set_cons_succ]
          refine Hoist.take (i := 2) (T := S1) (G := fun _ => True) (v := ?va2) rfl (by kernel_rfl) (by kernel_rfl) (by kernel_rfl) (fun _ _ _ h => h) (S_si 15 2 (by decide)) (fun _ _ _ _ _ _ => trivial) (fun _ _ _ h => h.1) trivial (Or.inl ⟨by rfl, ?hya2⟩) ⟨h1, fun _ => hg⟩ ?resta2
          case hya2 =>
            intro w' hSw
            rw [HS1.out] at hSw
            go_simp
            rfl
          simp only [Act.put, List.setIfInBounds_toArray, List.set_cons_zero, List.set_cons_succ]
          refine Hoist.take (i := 3) (T := S1) (G := fun _ => True) (v := ?va3) rfl (by kernel_rfl) (by kernel_rfl) (by kernel_rfl) (fun _ _ _ h => h) (S_si 15 3 (by decide)) (fun _ _ _ _ _ _ => trivial) (fun _ _ _ h => h.1) trivial (Or.inl ⟨by rfl, ?hya3⟩) ⟨h1, fun _ => hg⟩ ?resta3
          case hya3 =>
            intro w' hSw
            rw [HS1.out] at hSw
            go_simp
            rfl
          simp only [Act.put, List.setIfInBounds_toArray, List.set_cons_zero, List.set_cons_succ]
          refine Hoist.take (i := 4) (T := fun w' => S1 w' ∧ SG w') (G := fun L => L.getD 15 true = false) (v := ?va4) rfl (by kernel_rfl) (by kernel_rfl) (by kernel_rfl) (fun _ _ _ h => h) (S_si 15 4 (by decide)) (Hoist.waits 15 4 (by kernel_rfl)) (fun _ _ hg h => ⟨h.1, h.2 hg⟩) (by kernel_rfl) (Or.inl ⟨by rfl, ?hya4⟩) ⟨h1, fun _ => hg⟩ ?resta4
          case hya4 =>
            intro w' hSw
            obtain ⟨hSw, hSG⟩ := hSw
            rw [HSG.out] at hSG
            rw [HS1.out] at hSw
            go_simp
            rfl
          simp only [Act.put, List.setIfInBounds_toArray, List.set_cons_zero, List.set_cons_succ]
          refine Hoist.take (i := 5) (T := S1) (G := fun _ => True) (v := ?va5) rfl (by kernel_rfl) (by kernel_rfl) (by kernel_rfl) (fun _ _ _ h => h) (S_si 15 5 (by decide)) (fun _ _ _ _ _ _ => trivial) (fun _ _ _ h => h.1) trivial (Or.inl ⟨by rfl, ?hya5⟩) ⟨h1, fun _ => hg⟩ ?resta5
          case hya5 =>
            intro w' hSw
            rw [HS1.out] at hSw
            go_simp
            rfl
          simp only [Act.put, List.setIfInBounds_toArray, List.set_cons_zero, List.set_cons_succ]
          refine Hoist.take (i := 6) (T := S1) (G := fun _ => True) (v := ?va6) rfl (by kernel_rfl) (by kernel_rfl) (by kernel_rfl) (fun _ _ _ h => h) (S_si 15 6 (by decide)) (fun _ _ _ _ _ _ => trivial) (fun _ _ _ h => h.1) trivial (Or.inl ⟨by rfl, ?hya6⟩) ⟨h1, fun _ => hg⟩ ?resta6
          case hya6 =>
            intro w' hSw
            rw [HS1.out] at hSw
            go_simp
            rfl
          simp only [Act.put, List.setIfInBounds_toArray, List.set_cons_zero, List.set_cons_succ]
          refine Hoist.take (i := 7) (T := S1) (G := fun _ => True) (v := ?va7) rfl (by kernel_rfl) (by kernel_rfl) (by kernel_rfl) (fun _ _ _ h => h) (S_si 15 7 (by decide)) (fun _ _ _ _ _ _ => trivial) (fun _ _ _ h => h.1) trivial (Or.inl ⟨by rfl, ?hya7⟩) ⟨h1, fun _ => hg⟩ ?resta7
          case hya7 =>
            intro w' hSw
            rw [HS1.out] at hSw
            go_simp
            rfl
          simp only [Act.put, List.setIfInBounds_toArray, List.set_cons_zero, List.set_cons_succ]
          refine Hoist.take (i := 8) (T := S1) (G := fun _ => True) (v := ?va8) rfl (by kernel_rfl) (by kernel_rfl) (by kernel_rfl) (fun _ _ _ h => h) (S_si 15 8 (by decide)) (fun _ _ _ _ _ _ => trivial) (fun _ _ _ h => h.1) trivial (Or.inl ⟨by rfl, ?hya8⟩) ⟨h1, fun _ => hg⟩ ?resta8
          case hya8 =>
            intro w' hSw
            rw [HS1.out] at hSw
            go_simp
            rfl
          simp only [Act.put, List.setIfInBounds_toArray, List.set_cons_zero, List.set_cons_succ]
          refine Hoist.take (i := 9) (T := S1) (G := fun _ => True) (v := ?va9) rfl (by kernel_rfl) (by kernel_rfl) (by kernel_rfl) (fun _ _ _ h => h) (S_si 15 9 (by decide)) (fun _ _ _ _ _ _ => trivial) (fun _ _ _ h => h.1) trivial (Or.inl ⟨by rfl, ?hya9⟩) ⟨h1, fun _ => hg⟩ ?resta9
          case hya9 =>
            intro w' hSw
            rw [HS1.out] at hSw
            go_simp
            rfl
          simp only [Act.put, List.setIfInBounds_toArray, List.set_cons_zero, List.set_cons_succ]
          refine Hoist.only (i := 10) rfl (by kernel_rfl) ?_
          intro K' hK
          go_simp
          refine (quoteForJson s d.asc W.drew (by omega) HFIT.out).mono ?_
          rintro e w1 ⟨qn, rfl, hown1, hb1⟩
          have KM1 := Lib.hid (KM.out.below HWS.out (((Below.refl W.heap.size W).drew).trans hb1))
          have KQ1 := Lib.hid (KQ.out.below (((Below.refl W.heap.size W).drew).trans hb1) KQ.out.lt)
          have HQT1 := Lib.hid (QText.new (w := W.drew) hown1 HWS.out (own_keep KM.out.buf (below_drewN (Below.refl _ _) 1)))
          obtain ⟨gi, ci, eqn, _⟩ := HQT1.out.block
          obtain ⟨nq, hnq⟩ : ∃ n, n = (Q34 d.asc s).length := ⟨_, rfl⟩
          rw [← hnq] at eqn
          subst eqn
          clear hnq
          have HS1w : Hid (B ≤ w1.heap.size) := Lib.hid (Nat.le_trans HWS.out hb1.size)
          have g1 : SG w1 := by rw [HSG.out, ← HDQ.out]; exact KM1.out.cells.get 2 rfl
          have a1 : S1 w1 := by rw [HS1.out]; exact KM1.out.cells.get 19 rfl
          refine hK _ _ ⟨a1, fun _ => g1⟩ ?_
          clear hK K' h1 hg a1 g1 hown1 hb1
          refine Hoist.only (i := 11) rfl (by kernel_rfl) ?_
          intro K' hK
          go_simp
          obtain ⟨w2, e2⟩ : ∃ w2, w2 = w1.alloc (.cells #[.slice (some ⟨gi, 0, none⟩) nq ci] 25) := ⟨_, rfl⟩
          have b2 : Below w1.heap.size w1 w2 := by rw [e2]; exact below_at (Below.refl _ _) _
          have KM2 := Lib.hid (KM1.out.below HS1w.out b2)
          have KQ2 := Lib.hid (KQ1.out.below b2 KQ1.out.lt)
          have HQT2 := Lib.hid (show QText w2 B d.v d.asc s (.slice (some ⟨gi, 0, none⟩) nq ci) from ⟨own_keep HQT1.out.1 b2, HQT1.out.2⟩)
          have hE2 : Hid (Blk w2 w1.heap.size 25 [.slice (some ⟨gi, 0, none⟩) nq ci]) := Lib.hid (by rw [e2]; exact Blk.new w1 25 [.slice (some ⟨gi, 0, none⟩) nq ci])
          have HS2w : Hid (B ≤ w2.heap.size) := Lib.hid (Nat.le_trans HS1w.out b2.size)
          have g2 : SG w2 := by rw [HSG.out, ← HDQ.out]; exact KM2.out.cells.get 2 rfl
          have a2 : S1 w2 := by rw [HS1.out]; exact KM2.out.cells.get 19 rfl
          rw [← e2]
          refine hK _ _ ⟨a2, fun _ => g2⟩ ?_
          clear hK K' a2 g2 e2 b2
          obtain ⟨qs2, hrow2, hlen2, hall2⟩ := KM2.out.nms.row
          have HROW2 := Lib.hid hrow2
          have HLEN2 := Lib.hid hlen2
          have HALL2 := Lib.hid hall2
          have hrow3 : Hid (w2.ownsRow B 25 1 (.slice A ns.length cq) ns.length qs2) := Lib.hid (by rw [← HDQ.out]; exact hrow2)
          have hqn1 : Hid (∀ u ∈ [Value.slice (some ⟨gi, 0, none⟩) nq ci], u.oneCell' = true) := Lib.hid (by
            intro u hu
            simp only [List.mem_cons, List.not_mem_nil, or_false] at hu
            rw [hu]
            rfl)
          clear hrow2 hlen2 hall2
          refine Hoist.only (i := 12) rfl (by kernel_rfl) ?_
          intro K' hK
          refine step_append_el (by rfl) (.tmp 87) (.tmp 94) 56 (by rfl) B 25 i25 _ 1 24 Try.underlying56 hi hz0 hz1 hz2 rfl (by omega) (.slice A ns.length cq) ns.length qs2 (by rfl) hrow3.out w1.heap.size (by rfl) [.slice (some ⟨gi, 0, none⟩) nq ci] hE2.out rfl hqn1.out (by unfold maxLen; omega) (by omega) HS2w.out ?_
          intro gq cap w3 hown3 hgr3 hloc3 _
          have KP3 := Lib.hid (show Pre w w3 B g bm d l d.q (.slice (some ⟨gq, 0, none⟩) (ns.length + 1) cap) ns (ns ++ [s]) from KM2.out.append HROW2.out HLEN2.out HALL2.out HQT2.out (hown3) (by rw [HDQ.out]; exact hgr3) HS2w.out)
          have KQ3 := Lib.hid (KQ2.out.grown hgr3 (own_ne hrow3.out KQ2.out (by decide)))
          have HS3w : Hid (B ≤ w3.heap.size) := Lib.hid (Nat.le_trans HS2w.out hgr3.size)
          have a3 : S1 w3 := by rw [HS1.out]; exact KP3.out.cells.get 19 rfl
          have g3 : SG w3 := by rw [HSG.out, ← HDQ.out]; exact KP3.out.cells.get 2 rfl
          refine hK _ _ ⟨a3, fun _ => g3⟩ ?_
          simp only [Act.put, List.setIfInBounds_toArray, List.set_cons_zero, List.set_cons_succ]
          clear hK K' hown3 hgr3 hloc3 hE2 hqn1 hrow3 HROW2 HLEN2 HALL2 HQT1 HQT2 KM1 KM2 KQ1 KQ2
          refine Hoist.only (i := 13) rfl (by kernel_rfl) ?_
          intro K' hK
          go_simp
          refine hK _ _ ⟨a3, fun _ => g3⟩ ?_
          clear hK K'
          refine Hoist.only (i := 14) rfl (by kernel_rfl) ?_
          intro K' hK
          go_simp
          refine hK _ _ ⟨a3, fun _ => g3⟩ ?_
          clear hK K'
          have y2 := KP3.out.cells.get 2 rfl
          have f2 := KP3.out.cells.frozen 2
          refine Hoist.only (i := 15) rfl (by kernel_rfl) ?_
          intro K' hK
          go_simp
          obtain ⟨w4, e4⟩ : ∃ w4, w4 = w3.setCell ⟨g, 2, none⟩ (.slice (some ⟨gq, 0, none⟩) (ns.length + 1) cap) := ⟨_, rfl⟩
          have KP4 := Lib.hid (show Pre w w4 B g bm d l (.slice (some ⟨gq, 0, none⟩) (ns.length + 1) cap) (.slice (some ⟨gq, 0, none⟩) (ns.length + 1) cap) ns (ns ++ [s]) by rw [e4]; exact KP3.out.store)
          have KQ4 := Lib.hid (show Blk w4 b 58 q.cells by rw [e4]; exact KQ3.out.far (p := ⟨g, 2, none⟩) (by show b ≠ g; omega) _)
          have HS4w : Hid (B ≤ w4.heap.size) := Lib.hid (by rw [e4]; simpa using HS3w.out)
          have a4 : S1 w4 := by rw [HS1.out]; exact KP4.out.cells.get 19 rfl
          rw [← e4]
          refine hK _ _ ⟨a4, fun hL => absurd hL (by simp)⟩ ?_
          clear hK K' a3 g3 y2 f2 e4 KP3 KQ3 HS3w
          refine Hoist.over (by kernel_rfl) ?_ _
          clear HS1 HSG a4 S1 SG
          obtain ⟨D4, hD4, hN4⟩ := KP4.out.map
          have HD4 := Lib.hid hD4
          have HN4 := Lib.hid hN4
          have c34 : w4.cell? ⟨g, 3, none⟩ = some (.map (some bm)) := by rw [← HMM.out]; exact KP4.out.cells.get 3 rfl
          clear hD4 hN4
          have hwf : (Lit.int .u32 (ns.length : Int)).wf = true := WalkArith.wf_u32 ⟨by omega, by omega⟩
          have hval : plainElem (H := Unit) Try.prog 51 (.int .u32 ns.length) = some (.lit (.int .u32 ns.length), []) := plainElem_int Try.underlying51 hwf
          have hroom : ns.length < maxLen := by unfold maxLen; omega
          have HVAL := Lib.hid hval
          have HROOM := Lib.hid hroom
          clear hwf hval hroom
          go_wp2_with (at_mapUpdate; refine wpList_mapUpdate_own _ rfl _ _ _ 78 rfl 9 51 law9 Try.underlying78 _ bm ns.length D4 rfl HD4.out HROOM.out _ _ (key s) rfl rfl HKEY.out (.lit (.int .u32 ns.length)) [] HVAL.out ?_)
          intro w5 hown5 hgr5
          have KM5 := Lib.hid (KP4.out.update HS4w.out HD4.out HN4.out HNIN.out hown5 hgr5)
          have KQ5 := Lib.hid (KQ4.out.grown hgr5 (fun e => map_ne_blk HD4.out KQ4.out (by injection e with e; exact e.symm)))
          clear hown5 hgr5 c34
          go_wp2_with fail
          go_meet
          exact Lib.hid ⟨ns.length, rfl, by rw [put_new HE.out HNIN.out]; simp, KQ5.out, (.slice (some ⟨gq, 0, none⟩) (ns.length + 1) cap), by rw [put_new HE.out HNIN.out]; exact KM5.out⟩
      case rest =>
        obtain ⟨i, rfl, hgi, hbk, qv, hmid⟩ := hcut.out
        obtain ⟨W2, hW2⟩ : ∃ W2, W2 = wc := ⟨_, rfl⟩
        subst hW2
        have HGI := Lib.hid hgi
        have HBK := Lib.hid hbk
        have HMID := Lib.hid hmid
        have hil : i < 4294967296 := by
          have hlt : i < (put ns s).length := by
            rcases Nat.lt_or_ge i (put ns s).length with h | h
            · exact h
            · rw [List.getElem?_eq_none h] at hgi; cases hgi
          have : (put ns s).length ≤ ns.length + 1 := by unfold put; split <;> simp
          omega
        have hwi : IntKind.i64.wrap (i : Int) = i := by rw [IntKind.wrap_i64]; omega
        have f5 := HBK.out.frozen 5
        have f6 := HBK.out.frozen 6
        have z5 := HBK.out.get 5 rfl
        have z6 := HBK.out.get 6 rfl
        have HBW : Hid (B ≤ W2.heap.size) := Lib.hid (Nat.le_trans hB HMID.out.low.size)
        clear hgi hbk hmid hcut HD
        go_wp2_with fail
        go_meet
        have g1 : W2.grownBy ((W2.setCell ⟨b, 5, none⟩ (.int .i64 i)).setCell ⟨b, 6, none⟩ (.bool true)) (some b) := only_setCell (p := ⟨b, 6, none⟩) (only_setCell (p := ⟨b, 5, none⟩) (World.grownBy.refl _ _) (.inl rfl) _) (.inl rfl) _
        exact Lib.hid ⟨qv, { q with nm := i, has := true }, .inr ⟨HE.out, i, HGI.out, rfl⟩, (HBK.out.set_ 5 (.int .i64 i)).set_ 6 (.bool true), HMID.out.other HBW.out HBK.out hBb g1⟩
  case rest =>
    obtain ⟨qv, q', hnamed, hbk, hmid⟩ := hcut.out
    obtain ⟨W2, hW2⟩ : ∃ W2, W2 = wc := ⟨_, rfl⟩
    subst hW2
    have HNA := Lib.hid hnamed
    have HBK := Lib.hid hbk
    have HMID := Lib.hid hmid
    have HBW : Hid (B ≤ W2.heap.size) := Lib.hid (Nat.le_trans hB HMID.out.low.size)
    have HQ' : Hid (q'.Small) := Lib.hid (by
      rcases hnamed with ⟨_, rfl⟩ | ⟨_, i, hgi, rfl⟩
      · exact HQ.out
      · have hlt : i < (put ns s).length := by
          rcases Nat.lt_or_ge i (put ns s).length with h | h
          · exact h
          · rw [List.getElem?_eq_none h] at hgi; cases hgi
        have : (put ns s).length ≤ ns.length + 1 := by unfold put; split <;> simp
        obtain ⟨h1, h2, h3, h4, h5, h6⟩ := HQ.out
        exact ⟨h1, h2, h3, h4, h5, ⟨by show (0 : Int) ≤ i; omega, by show (i : Int) < 2147483648; omega⟩⟩)
    have q0 : W2.cell? ⟨b, 0, none⟩ = some (.int .i64 q'.gl) := hbk.get 0 rfl
    have q1 : W2.cell? ⟨b, 1, none⟩ = some (.int .i64 q'.gc) := hbk.get 1 rfl
    have q2 : W2.cell? ⟨b, 2, none⟩ = some (.int .i64 q'.src) := hbk.get 2 rfl
    have q3 : W2.cell? ⟨b, 3, none⟩ = some (.int .i64 q'.ol) := hbk.get 3 rfl
    have q4 : W2.cell? ⟨b, 4, none⟩ = some (.int .i64 q'.oc) := hbk.get 4 rfl
    have q5 : W2.cell? ⟨b, 5, none⟩ = some (.int .i64 q'.nm) := hbk.get 5 rfl
    have q6 : W2.cell? ⟨b, 6, none⟩ = some (.bool q'.has) := hbk.get 6 rfl
    clear hnamed hbk hmid hcut
    go_upto_region 17 with fail
    go_wp2_with fail
    have HAP := appendPlain B g { d with q := qv } l q' W2 HMID.out.cells HMID.out.buf HBW.out HL.out HL8.out HP.out HQ'.out
    refine HAP.mono ?_
    rintro e w3 ⟨rfl, v', fo', hst⟩
    have HST := Lib.hid hst
    clear hst HAP q0 q1 q2 q3 q4 q5 q6
    go_wp2_with fail
    go_returns
    refine ⟨rfl, v', fo', qv, q', HNA.out, HST.out.cells, HST.out.buf, ?_, ?_⟩
    · exact HMID.out.nms.two HST.out.two HMID.out.cells HMID.out.buf HST.out.nx
    · exact HMID.out.low.two HST.out.two (fun k hk => own_below HMID.out.buf k hk)
end Go.Proofs.Ytobhlppdolekoaa.Ch
