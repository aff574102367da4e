/- What is known between two marks, in memory; a mark. The walk of one step. -/
import Derived.Test.YtobhlppdolekoaaChR
import Derived.Test.YtobhlppdolekoaaChS
import Derived.Test.YtobhlppdolekoaaChT
import Derived.Test.YtobhlppdolekoaaChN
import Derived.Test.YtobhlppdolekoaaCiJ
import Derived.Lib.ConvBytes
import Derived.Test.YtobhlppdolekoaaHoist
import Derived.Test.YtobhlppdolekoaaClF
import Derived.Test.YtobhlppdolekoaaClB
namespace Go.Proofs.Ytobhlppdolekoaa.Ch
open Go.RowKit Go.Proofs.Ytobhlppdolekoaa.Aid Go.Proofs.Ytobhlppdolekoaa.Bytes Go.Proofs.Ytobhlppdolekoaa.Runes Go.Proofs.Ytobhlppdolekoaa.Wtf
attribute [local go_sem ↓] Go.wp_at_zero Go.wp_at_succ
set_option linter.unusedVariables false
set_option linter.unusedSimpArgs false
/-- The builder that the closure begins with. -/
structure Begun (w0 w : World) (B g bm : Nat) (tv : Value) (asc : Bool) (src : ByteArray) : Prop where
  built : Built w B g bm (Bd.new tv bm asc) Ab.new (.slice none 0 0) 0 [] (table src) 0
  below : Below w0.heap.size w0 w
  big : w0.heap.size ≤ B
  g : w0.heap.size ≤ g
theorem Bel.low {B g n : Nat} {w w' : World} (h : Bel B g w w') (h1 : n ≤ B) (h2 : n ≤ g) : Below n w w' := ⟨h.os, h.tape, h.output, h.size, fun i hi => h.block i (by omega) (by omega)⟩
theorem begun {w0 w1 wF : World} {B0 g bm : Nat} {tv : Value} {cs : List Value} {asc : Bool} {src : ByteArray} (hT : Told w1 B0 tv (table src) cs) (hlen : 0 < (table src).length) (h01 : Below w0.heap.size w0 w1) (hg : w0.heap.size ≤ g) (hk : ∀ k, B0 ≤ k → k < w1.heap.size → k ≠ g)
    (h1F : Bel w1.heap.size g w1 wF) (hM : wF.ownsMap Try.prog 9 (plainElem (H := Unit) Try.prog 51) bm 0 (.map [])) (hbm : w1.heap.size ≤ bm) (hG : Blk wF g 83 (Bd.new tv bm asc).cells) : Begun w0 wF w1.heap.size g bm tv asc src := by
  refine ⟨⟨hG, own_nil _ _ _ _, ⟨⟨.map [], hM, NMap.nil⟩, hbm, [], own_nil _ _ _ _, rfl, (fun i s h => by simp at h)⟩, rfl, (Told.lines (w' := w1) hT hlen (Nat.le_refl _) hk).bel h1F, Ab.Lim.new, h1F.size⟩, ?_, h01.size, hg⟩
  exact h01.trans (h1F.low h01.size hg)
def zeros22 : List Value := [.pointer none, .slice none 0 0, .slice none 0 0, .map none, .slice none 0 0, .string ⟨#[]⟩, .int .i64 0, .int .i64 0, .int .i64 0, .int .i64 0, .int .i64 0, .int .i64 0, .bool false, .int .i64 0, .int .i64 0, .int .i64 0, .int .i32 0, .int .u32 0, .bool false, .bool false, .bool false, .bool false]
theorem new_one (A : Option Addr) (n c bm : Nat) (asc : Bool) : ∀ u ∈ (Bd.new (.slice A n c) bm asc).cells, u.oneCell' = true := by
  intro u hu
  simp only [Bd.cells, Bd.new, List.mem_cons, List.not_mem_nil, or_false] at hu
  rcases hu with rfl | rfl | rfl | rfl | rfl | rfl | rfl | rfl | rfl | rfl | rfl | rfl | rfl | rfl | rfl | rfl | rfl | rfl | rfl | rfl | rfl | rfl <;> rfl
theorem Built.keep {w W : World} {B g bm : Nat} {d : Bd} {a : Ab} {v : Value} {fo : Int} {ns : List ByteArray} {TL : List Ln} {n : Nat} (h : Built w B g bm d a v fo ns TL n) (hb : Below w.heap.size w W) : Built W B g bm d a v fo ns TL n :=
  ⟨h.cells.below hb h.cells.lt, own_keep h.buf hb, h.nms.below hb, h.map, h.lines.bel (Bel.of_below h.B (hb.mono h.B)), h.lim, Nat.le_trans h.B hb.size⟩
theorem lies_bytes (w : World) (s : ByteArray) : Lies (Lib.bytesWorld w 5 s) w.heap.size s := by
  refine ⟨by rw [Lib.bytesWorld_size]; omega, fun i hi => ?_⟩
  rw [Lib.bytesWorld_cell w 5 s i hi]
  have h := nats_get s i hi
  rw [nats, List.getElem?_map] at h
  rw [List.getD_eq_getElem?_getD]
  cases hx : s.data.toList[i]? with
  | none => rw [hx] at h; cases h
  | some x =>
    rw [hx] at h
    injection h with h
    rw [Option.getD_some, ← h]
/-- Marks in memory. -/
def Marks (w : World) (A : Option Addr) (ms : List Mk) : Prop := ∀ (i : Nat) k, ms[i]? = some k → ∃ b o, A = some ⟨b, o, none⟩ ∧ b < w.heap.size ∧ w.cell? ⟨b, o + i * 3, none⟩ = some (.int .i64 k.at) ∧ w.cell? ⟨b, o + i * 3 + 1, none⟩ = some (.int .i64 k.loc) ∧ w.cell? ⟨b, o + i * 3 + 2, none⟩ = some (.string k.name)
theorem Marks.below {w w' : World} {A : Option Addr} {ms : List Mk} (h : Marks w A ms) (hb : Below w.heap.size w w') : Marks w' A ms := fun i k hi => by
  obtain ⟨b, o, hA, hlt, h0, h1, h2⟩ := h i k hi
  exact ⟨b, o, hA, Nat.lt_of_lt_of_le hlt hb.size, bcell hb hlt h0, bcell hb hlt h1, bcell hb hlt h2⟩
/-- The builder's fields and the last mark that counts. -/
def Last (ms : List Mk) (i : Nat) (d : Bd) : Prop := match upTo ms i with
  | none => d.ploc = -1 ∧ d.upd = 0
  | some u => d.ploc = (u.loc : Int) ∧ d.pn = u.name ∧ d.upd = (u.at : Int) ∧ d.plen = (u.at : Int)
/-- What is known ahead of a mark. -/
structure St (w0 w : World) (B g bm : Nat) (src out : ByteArray) (ms : List Mk) (asc : Bool) (i : Nat) (d : Bd) (a : Ab) (v : Value) (fo : Int) (ns : List ByteArray) (D : List Mp) (n0 : Nat) : Prop where
  built : Built w B g bm d a v fo ns (table src) n0
  law : Law src out ms i a D ns
  last : Last ms i d
  asc : d.asc = asc
  n0 : n0 ≤ 2 * upAt ms i + 2 * i
  len : ns.length ≤ i
  names : ∀ s ∈ ns, ∃ k ∈ ms, k.name = s
  below : Below w0.heap.size w0 w
  big : w0.heap.size ≤ B
  g : w0.heap.size ≤ g
theorem Begun.st {w0 w : World} {B g bm : Nat} {tv : Value} {asc : Bool} {src : ByteArray} (h : Begun w0 w B g bm tv asc src) (out : ByteArray) (ms : List Mk) : St w0 w B g bm src out ms asc 0 (Bd.new tv bm asc) Ab.new (.slice none 0 0) 0 [] [] 0 :=
  ⟨h.built, Law.new src out ms, ⟨rfl, rfl⟩, rfl, Nat.zero_le _, Nat.le_refl _, (fun s h => by cases h), h.below, h.big, h.g⟩
theorem St.keep {w0 w W : World} {B g bm : Nat} {src out : ByteArray} {ms : List Mk} {asc : Bool} {i : Nat} {d : Bd} {a : Ab} {v : Value} {fo : Int} {ns : List ByteArray} {D : List Mp} {n0 : Nat} (h : St w0 w B g bm src out ms asc i d a v fo ns D n0) (hb : Below w.heap.size w W) : St w0 W B g bm src out ms asc i d a v fo ns D n0 :=
  ⟨h.built.keep hb, h.law, h.last, h.asc, h.n0, h.len, h.names, up h.below hb, h.big, h.g⟩
theorem up_at {src out : ByteArray} {ms : List Mk} (hf : MFit src out ms) {i : Nat} {k : Mk} (hk : ms[i]? = some k) : upAt ms i ≤ k.at ∧ Pt out (upAt ms i) ∧ (again ms i = true → upAt ms i < k.at) := by
  have hil : i < ms.length := by
    rcases Nat.lt_or_ge i ms.length with h' | h'
    · exact h'
    · rw [List.getElem?_eq_none h'] at hk; cases hk
  unfold upAt
  cases hu : upTo ms i with
  | none => exact ⟨Nat.zero_le _, Pt.zero out, fun h => by
      obtain ⟨u, h1, _⟩ := (again_up hf.asc hk).1 h
      rw [hu] at h1; cases h1⟩
  | some u =>
    simp only
    cases i with
    | zero => cases hu
    | succ i =>
      have hc : ms[i]? = some (ms[i]'(by omega)) := List.getElem?_eq_getElem (by omega)
      obtain ⟨u', g1, _, _, g4, g5, _⟩ := up_like ms hf.asc i _ hc
      rw [hu] at g1
      injection g1 with g1
      subst g1
      have := hf.asc i _ k hc hk
      obtain ⟨e1, e2, _⟩ := hf.each u g5
      exact ⟨by omega, Pt.of hf.wout e1 e2, fun _ => by omega⟩
theorem mem_put {ns : List ByteArray} {s t : ByteArray} (h : t ∈ put ns s) : t ∈ ns ∨ t = s := by
  unfold put at h
  split at h
  · exact .inl h
  · rw [List.mem_append] at h
    rcases h with h | h
    · exact .inl h
    · exact .inr (by simpa using h)
theorem place_le (s : ByteArray) (i : Nat) (h : i ≤ s.size) : (placeOf s i).1 ≤ s.size ∧ (placeOf s i).2 ≤ 2 * s.size := by
  have hz : (s.extract 0 i).size = i := by rw [ByteArray.size_extract]; omega
  have := places_le (s.extract 0 i) _ 0 (0, 0) rfl (Nat.zero_le _) (Nat.le_refl _) (Nat.zero_le _)
  unfold placeOf
  omega
set_option maxRecDepth 100000 in
theorem markStep {w0 w : World} {B g bm : Nat} {src out : ByteArray} {ms : List Mk} {asc : Bool} {i : Nat} {d : Bd} {a : Ab} {v : Value} {fo : Int} {ns : List ByteArray} {D : List Mp} {n0 : Nat} (h : St w0 w B g bm src out ms asc i d a v fo ns D n0) (hf : MFit src out ms) {k : Mk} (hk : ms[i]? = some k)
    (b c : Nat) (hl : Lies w b (out.extract 0 k.at)) (hBb : B ≤ b) (hbg : b ≠ g) (hbv : some b ≠ v.ownBlock) (hcap : k.at ≤ c) (hcap2 : c ≤ 9223372036854775807) :
    Calls Try.prog 29 #[.pointer (some ⟨g, 0, none⟩), .agg #[.int .i32 k.loc], .string k.name, .slice (some ⟨b, 0, none⟩) k.at c] w fun e w' => e = .returned (.tuple #[]) ∧ ∃ d' a' v' fo' ns' D' n0', St w0 w' B g bm src out ms asc (i + 1) d' a' v' fo' ns' D' n0' := by
  have hil : i < ms.length := by
    rcases Nat.lt_or_ge i ms.length with h' | h'
    · exact h'
    · rw [List.getElem?_eq_none h'] at hk; cases hk
  have hlen := hf.len
  obtain ⟨f1, f2, f3, f4, f5, f6⟩ := hf.each k (List.mem_of_getElem? hk)
  obtain ⟨u1, u2, u3⟩ := up_at hf hk
  obtain ⟨pc, pl, pr, pw, pwh, pp⟩ := piece hf.wout u1 f1 u2 (Pt.of hf.wout f1 f2)
  have hsz : (out.extract 0 k.at).size = k.at := by rw [ByteArray.size_extract]; omega
  have hSZ : (out.extract 0 (upAt ms i) ++ out.extract (upAt ms i) k.at).size = k.at := by rw [pc, hsz]
  have hos := hf.outs
  have hss := hf.srcs
  have hn0 := h.n0
  have hnl := h.len
  obtain ⟨q1, q2⟩ := place_le src k.loc f3
  have hupd : d.upd = ((out.extract 0 (upAt ms i)).size : Nat) := by
    rw [pl]
    have hla := h.last
    unfold Last at hla
    unfold upAt
    cases hu : upTo ms i with
    | none => rw [hu] at hla; exact hla.2
    | some u => rw [hu] at hla; exact hla.2.2.1
  have hpl : d.plen ≠ ((out.extract 0 (upAt ms i) ++ out.extract (upAt ms i) k.at).size : Nat) ∨ d.ploc ≠ k.loc := by
    rw [hSZ]
    have hla := h.last
    unfold Last at hla
    cases hu : upTo ms i with
    | none => rw [hu] at hla; right; rw [hla.1]; omega
    | some u =>
      rw [hu] at hla
      left
      rw [hla.2.2.2]
      have : upAt ms i = u.at := by unfold upAt; rw [hu]
      cases i with
      | zero => cases hu
      | succ i =>
        have hc : ms[i]? = some (ms[i]'(by omega)) := List.getElem?_eq_getElem (by omega)
        obtain ⟨u', g1, _, _, g4, g5, _⟩ := up_like ms hf.asc i _ hc
        rw [hu] at g1
        injection g1 with g1
        subst g1
        have := hf.asc i _ k hc hk
        omega
  have hiff : (d.ploc = k.loc ∧ d.pn = k.name) ↔ again ms i = true := by
    rw [again_up hf.asc hk]
    have hla := h.last
    unfold Last at hla
    cases hu : upTo ms i with
    | none =>
      rw [hu] at hla
      constructor
      · rintro ⟨x, _⟩; rw [hla.1] at x; omega
      · rintro ⟨u, x, _⟩; cases x
    | some u =>
      rw [hu] at hla
      constructor
      · rintro ⟨x, y⟩
        exact ⟨u, rfl, by rw [hla.1] at x; omega, by rw [← hla.2.1]; exact y⟩
      · rintro ⟨u', x, y, z⟩
        injection x with x
        subst x
        exact ⟨by rw [hla.1, y], by rw [hla.2.1, z]⟩
  have hadd := addMapping B g bm b c d a v fo ns (table src) n0 (out.extract 0 (upAt ms i)) (out.extract (upAt ms i) k.at) k.name k.loc (placeOf src k.loc).1 (placeOf src k.loc).2 w h.built (by omega) (by omega) (by omega) hupd (by rw [pc]; exact hl) hBb hbg hbv (by rw [hSZ]; exact hcap) hcap2 pw (by omega)
    (place_lies src hf.wsrc (by omega) k.loc f3 f4) (by have := (table_len src hf.wsrc).2; omega) (by omega) (by omega) (by omega) (wf_fit f6) hpl
  rw [hSZ] at hadd
  refine hadd.mono ?_
  rintro e w' ⟨rfl, hbel, hp1, hp2⟩
  refine ⟨rfl, ?_⟩
  have hbw : Below w0.heap.size w0 w' := h.below.trans (hbel.low h.big h.g)
  by_cases hag : again ms i = true
  · have hup : upTo ms (i + 1) = upTo ms i := by rw [upTo, if_pos hag]
    have hat : upAt ms (i + 1) = upAt ms i := by unfold upAt; rw [hup]
    exact ⟨d, a, v, fo, ns, D, n0, hp1 (hiff.2 hag), h.law.skip hf hk hag, by unfold Last; rw [hup]; exact h.last, h.asc, by rw [hat]; omega, by omega, h.names, hbw, h.big, h.g⟩
  · obtain ⟨v', fo', qv, q, hq, hb'⟩ := hp2 (fun x => hag (hiff.1 x))
    have hag' : again ms i = false := by simpa using hag
    have hup : upTo ms (i + 1) = some k := by rw [upTo, if_neg hag]; exact hk
    have hat : upAt ms (i + 1) = k.at := by unfold upAt; rw [hup]
    have hpn := put_len ns k.name
    obtain ⟨E, hlaw⟩ := h.law.mark hf hk hag' h.built.lim (q := q) (by omega) (by omega) hq (by omega) (by omega)
    refine ⟨_, _, v', fo', _, D ++ E, _, hb', hlaw, ?_, h.asc, by rw [hat]; omega, by omega, fun s hs => ?_, hbw, h.big, h.g⟩
    · unfold Last
      rw [hup]
      exact ⟨rfl, rfl, rfl, rfl⟩
    · rcases mem_put hs with hs | rfl
      · exact h.names s hs
      · exact ⟨k, List.mem_of_getElem? hk, rfl⟩
end Go.Proofs.Ytobhlppdolekoaa.Ch
