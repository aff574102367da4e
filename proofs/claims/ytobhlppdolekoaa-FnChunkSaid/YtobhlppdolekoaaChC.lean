/- MakeIndex32, IsValid, appendMappingToBuffer: a mapping is written behind bytes. The walks. -/
import Derived.Test.YtobhlppdolekoaaChB
namespace Go.Proofs.Ytobhlppdolekoaa.Ch
open Go.RowKit Go.Proofs.Ytobhlppdolekoaa.Aid Go.Proofs.Ytobhlppdolekoaa.Bytes
attribute [local go_sem ↓] Go.wp_at_zero Go.wp_at_succ
set_option linter.unusedVariables false
/-- Where a source map is (sourcemap.SourceMapState). -/
structure Sm where
  gl : Int
  gc : Int
  src : Int
  ol : Int
  oc : Int
  nm : Int
  has : Bool
def Sm.cells (s : Sm) : List Value := [.int .i64 s.gl, .int .i64 s.gc, .int .i64 s.src, .int .i64 s.ol, .int .i64 s.oc, .int .i64 s.nm, .bool s.has]
def Sm.val (s : Sm) : Value := .agg #[.int .i64 s.gl, .int .i64 s.gc, .int .i64 s.src, .int .i64 s.ol, .int .i64 s.oc, .int .i64 s.nm, .bool s.has]
/-- Its numbers are whole numbers of 31 bits. -/
structure Sm.Small (s : Sm) : Prop where
  gl : 0 ≤ s.gl ∧ s.gl < 2147483648
  gc : 0 ≤ s.gc ∧ s.gc < 2147483648
  src : 0 ≤ s.src ∧ s.src < 2147483648
  ol : 0 ≤ s.ol ∧ s.ol < 2147483648
  oc : 0 ≤ s.oc ∧ s.oc < 2147483648
  nm : 0 ≤ s.nm ∧ s.nm < 2147483648
theorem Grew.fresh {a b c : World} {u v : Value} {g : Nat} (h : Grew a b u v) (k : b.grownBy c (some g)) (hg : a.heap.size ≤ g) : Grew a c u v :=
  ⟨⟨k.os.trans h.by_.os, k.tape.trans h.by_.tape, k.output.trans h.by_.output, Nat.le_trans h.by_.size k.size, fun i hi hne => (k.block i (Nat.lt_of_lt_of_le hi h.by_.size) (fun e => by injection e with e; omega)).trans (h.by_.block i hi hne)⟩, h.nx⟩
/-- The comma ahead of a mapping; a mapping. -/
def sep (last : Nat) : List Nat := if last = 0 ∨ last = 59 ∨ last = 34 then [] else [44]
def seg (p q : Sm) : List Nat := vlq (q.gc - p.gc) ++ vlq (q.src - p.src) ++ vlq (q.ol - p.ol) ++ vlq (q.oc - p.oc) ++ if q.has then vlq (q.nm - p.nm) else []
set_option maxRecDepth 100000 in
theorem isValid (x : Int) (w : World) : Calls Try.prog 46 #[.agg #[.int .u32 x]] w fun e w' => Below w.heap.size w w' ∧ ∃ z, e = .returned (.bool z) := by
  go_enter Try.func46, Try.ntmps46
  go_wp2_with fail
  go_returns
  exact ⟨below_at (Below.refl _ _) _, _, rfl⟩
set_option maxRecDepth 100000 in
theorem makeIndex (x : Int) (w : World) : Calls Try.prog 54 #[.int .u32 x] w fun e w' => Below w.heap.size w w' ∧ ∃ z, e = .returned (.agg #[.int .u32 z]) := by
  go_enter Try.func54, Try.ntmps54
  go_wp2_with fail
  all_goals
    go_returns
    exact ⟨below_at (Below.refl _ _) _, _, rfl⟩
set_option maxRecDepth 100000 in
set_option maxHeartbeats 4000000 in
theorem toBuffer (B : Nat) (v : Value) (l : List Nat) (last : Nat) (p q : Sm) (w : World) (h : Buf w B v l) (hB : B ≤ w.heap.size) (hl : l.length ≤ 10000000000) (hp : p.Small) (hq : q.Small) (hlast : last < 256) :
    Calls Try.prog 45 #[v, .int .u8 last, p.val, q.val, .bool false] w fun e w' => ∃ v' f, e = .returned (.tuple #[v', .agg #[.int .u32 f]]) ∧ Buf w' B v' (l ++ (sep last ++ seg p q)) ∧ Grew w w' v v' := by
  obtain ⟨i0, hi, hz0, hz1, hz2⟩ := info_parts Wtf.info5
  obtain ⟨A, c, rfl⟩ := own_slice h
  have HBUF := Lib.hid h
  have HP := Lib.hid hp
  have HQ := Lib.hid hq
  clear h hp hq
  unfold Sm.val
  go_enter Try.func45, Try.ntmps45
  go_upto_region 1 with fail
  obtain ⟨W, hW⟩ : ∃ W, W = (((w.alloc (.cells p.cells.toArray 58)).alloc (.cells q.cells.toArray 58)).alloc (.cells #[.int .u32 0] 53)) := ⟨_, rfl⟩
  have B0 : Below w.heap.size w W := by rw [hW]; exact ((below_at (Below.refl _ _) _).alloc (by simp) _).alloc (by simp; omega) _
  have K0 : Blk W w.heap.size 58 p.cells := by rw [hW]; exact ((Blk.new w 58 p.cells).alloc _).alloc _
  have K1 : Blk W (w.heap.size + 1) 58 q.cells := by rw [hW]; simpa using (Blk.new (w.alloc (.cells p.cells.toArray 58)) 58 q.cells).alloc _
  have K2 : Blk W (w.heap.size + 1 + 1) 53 [.int .u32 0] := by rw [hW]; simpa using (Blk.new ((w.alloc (.cells p.cells.toArray 58)).alloc (.cells q.cells.toArray 58)) 53 [.int .u32 0])
  rw [show (((w.alloc (.cells #[.int .i64 p.gl, .int .i64 p.gc, .int .i64 p.src, .int .i64 p.ol, .int .i64 p.oc, .int .i64 p.nm, .bool p.has] 58)).alloc (.cells #[.int .i64 q.gl, .int .i64 q.gc, .int .i64 q.src, .int .i64 q.ol, .int .i64 q.oc, .int .i64 q.nm, .bool q.has] 58)).alloc (.cells #[.int .u32 0] 53)) = W from hW.symm]
  have HB0 : Hid (Buf W B (.slice A l.length c) l ∧ Grew w W (.slice A l.length c) (.slice A l.length c)) := Lib.hid ⟨own_keep HBUF.out B0, only_of_below B0 _, .inl rfl⟩
  have HK : Hid (Blk W w.heap.size 58 p.cells ∧ Blk W (w.heap.size + 1) 58 q.cells ∧ Blk W (w.heap.size + 1 + 1) 53 [.int .u32 0]) := Lib.hid ⟨K0, K1, K2⟩
  have HBW : Hid (B ≤ W.heap.size) := Lib.hid (Nat.le_trans hB B0.size)
  have KEEP : Hid (∀ (L : List Nat) (v v' : Value) (a b : World), Buf a B v L → Grew a b v v' → (Blk a w.heap.size 58 p.cells ∧ Blk a (w.heap.size + 1) 58 q.cells ∧ Blk a (w.heap.size + 1 + 1) 53 [.int .u32 0]) → Blk b w.heap.size 58 p.cells ∧ Blk b (w.heap.size + 1) 58 q.cells ∧ Blk b (w.heap.size + 1 + 1) 53 [.int .u32 0]) :=
    Lib.hid fun L v v' a b hb hg hk => ⟨hk.1.grown hg.by_ (own_ne hb hk.1 (by decide)), hk.2.1.grown hg.by_ (own_ne hb hk.2.1 (by decide)), hk.2.2.grown hg.by_ (own_ne hb hk.2.2 (by decide))⟩
  clear hW B0 K0 K1 K2
  obtain ⟨b, hb⟩ : ∃ b, b = w.heap.size := ⟨_, rfl⟩
  rw [← hb] at HK KEEP ⊢
  have hbw : w.heap.size ≤ b := by omega
  clear hb
  have hcm : ∃ z, (z = false ∧ sep last = [] ∧ (last = 0 ∨ last = 59 ∨ last = 34) ∨ z = true ∧ sep last = [44] ∧ ¬ (last = 0 ∨ last = 59 ∨ last = 34)) := by
    unfold sep
    by_cases h : last = 0 ∨ last = 59 ∨ last = 34
    · rw [if_pos h]; exact ⟨false, .inl ⟨rfl, rfl, h⟩⟩
    · rw [if_neg h]; exact ⟨true, .inr ⟨rfl, rfl, h⟩⟩
  obtain ⟨z, hcm⟩ := hcm
  go_cut [22] (fun t wx => t = .bool z ∧ wx = W)
  case first =>
    rcases hcm with ⟨rfl, hs, rfl | rfl | rfl⟩ | ⟨rfl, hs, hn⟩
    · go_wp2_with fail
      go_meet
      exact ⟨rfl, rfl⟩
    · go_wp2_with fail
      go_meet
      exact ⟨rfl, rfl⟩
    · go_wp2_with fail
      go_meet
      exact ⟨rfl, rfl⟩
    · have n0 : ((last : Int) != 0) = true := by simp; omega
      have n1 : ((last : Int) != 59) = true := by simp; omega
      have n2 : ((last : Int) != 34) = true := by simp; omega
      go_wp2_with fail
      go_meet
      exact ⟨rfl, rfl⟩
  case rest =>
    obtain ⟨rfl, rfl⟩ := hcut
    go_upto_if 22 with fail
    go_cut [0] (fun t wx => Hid (Buf wx B t (l ++ sep last) ∧ Grew w wx (.slice A l.length c) t ∧ Blk wx b 58 p.cells ∧ Blk wx (b + 1) 58 q.cells ∧ Blk wx (b + 1 + 1) 53 [.int .u32 0]))
    case first =>
      rcases hcm with ⟨rfl, hs, _⟩ | ⟨rfl, hs, _⟩
      · have HS := Lib.hid hs
        clear hs
        go_wp2_with fail
        go_meet
        exact Lib.hid ⟨by rw [HS.out]; simpa using HB0.out.1, HB0.out.2, HK.out⟩
      · have HS := Lib.hid hs
        clear hs
        go_wp2_with (at_builtin; refine wpList_append_new rfl _ _ 25 rfl B 5 i0 _ 1 1 Try.underlying25 hi hz0 hz1 hz2 rfl (by omega) (.slice A l.length c) l.length (ncells l) rfl HB0.out.1 [.int .u8 44] rfl rfl (one_int _ _) ?c3 ?c4 HBW.out ?_)
        case c3 => unfold maxLen; omega
        case c4 => omega
        intro g cap w' hown hg hnx
        have HG := Lib.hid (step_grew (n := l.length + 1) (c := cap) hg hnx)
        have HO := Lib.hid hown
        clear hown hg hnx
        go_wp2_with fail
        go_meet
        exact Lib.hid ⟨by rw [HS.out]; exact Buf.more (x := [44]) HO.out rfl, HB0.out.2.trans HG.out, KEEP.out _ _ _ _ _ HB0.out.1 HG.out HK.out⟩
    case rest =>
      obtain ⟨W0, hW0⟩ : ∃ W0, W0 = wc := ⟨_, rfl⟩
      subst hW0
      have HLL : Hid ((l ++ sep last).length ≤ 10000000001) := Lib.hid (by
        rcases hcm with ⟨_, hs, _⟩ | ⟨_, hs, _⟩ <;> rw [hs] <;> simp <;> omega)
      obtain ⟨L0, hL0⟩ : ∃ L0, L0 = l ++ sep last := ⟨_, rfl⟩
      rw [← hL0] at hcut HLL
      have HL0 := Lib.hid hL0
      have HB1 : Hid (B ≤ W0.heap.size) := Lib.hid (Nat.le_trans hB hcut.out.2.1.by_.size)
      obtain ⟨⟨p1, p2⟩, ⟨p3, p4⟩, ⟨p5, p6⟩, ⟨p7, p8⟩, ⟨p9, p10⟩, ⟨p11, p12⟩⟩ := HP.out
      obtain ⟨⟨q1, q2⟩, ⟨q3, q4⟩, ⟨q5, q6⟩, ⟨q7, q8⟩, ⟨q9, q10⟩, ⟨q11, q12⟩⟩ := HQ.out
      clear hcm hL0 HB0 HK
      have HF := hcut
      clear hcut
      have cp0 : W0.cell? ⟨b, 1, none⟩ = some (.int .i64 p.gc) := HF.out.2.2.1.get 1 rfl
      have cq0 : W0.cell? ⟨b + 1, 1, none⟩ = some (.int .i64 q.gc) := HF.out.2.2.2.1.get 1 rfl
      have HE0 := Lib.hid (encode B u0 L0 (q.gc - p.gc) W0 HF.out.1 HB1.out (by have := HLL.out; omega) (by omega) (by omega))
      have hl0 := vlq_len (n := q.gc - p.gc) (by omega) (by omega)
      have HLL' : Hid ((L0 ++ vlq (q.gc - p.gc)).length ≤ 10000000008) := Lib.hid (by rw [List.length_append]; have := HLL.out; omega)
      clear HLL
      have HLL := HLL'
      clear HLL' hl0
      have hw0 : IntKind.i64.wrap (q.gc - p.gc) = q.gc - p.gc := by rw [IntKind.wrap_i64]; omega
      go_wp2_with fail
      refine (HE0.out).mono ?_
      rintro e w1 ⟨v1, rfl, hb, hg⟩
      have HG := Lib.hid hg
      have HF' : Hid (Buf w1 B v1 (L0 ++ vlq (q.gc - p.gc)) ∧ Grew w w1 (.slice A l.length c) v1 ∧ Blk w1 b 58 p.cells ∧ Blk w1 (b + 1) 58 q.cells ∧ Blk w1 (b + 1 + 1) 53 [.int .u32 0]) := Lib.hid ⟨hb, HF.out.2.1.trans hg, KEEP.out _ _ _ _ _ HF.out.1 hg HF.out.2.2⟩
      have HB1' : Hid (B ≤ w1.heap.size) := Lib.hid (Nat.le_trans HB1.out hg.by_.size)
      clear HF HB1 HG hb hg cp0 cq0 HE0 hw0
      have HF := HF'
      have HB1 := HB1'
      clear HF' HB1'
      obtain ⟨L1, hL1⟩ : ∃ L', L' = L0 ++ vlq (q.gc - p.gc) := ⟨_, rfl⟩
      rw [← hL1] at HF HLL
      have HL1 := Lib.hid hL1
      clear hL1
      have cp1 : w1.cell? ⟨b, 2, none⟩ = some (.int .i64 p.src) := HF.out.2.2.1.get 2 rfl
      have cq1 : w1.cell? ⟨b + 1, 2, none⟩ = some (.int .i64 q.src) := HF.out.2.2.2.1.get 2 rfl
      have HE1 := Lib.hid (encode B v1 L1 (q.src - p.src) w1 HF.out.1 HB1.out (by have := HLL.out; omega) (by omega) (by omega))
      have hl1 := vlq_len (n := q.src - p.src) (by omega) (by omega)
      have HLL' : Hid ((L1 ++ vlq (q.src - p.src)).length ≤ 10000000015) := Lib.hid (by rw [List.length_append]; have := HLL.out; omega)
      clear HLL
      have HLL := HLL'
      clear HLL' hl1
      have hw1 : IntKind.i64.wrap (q.src - p.src) = q.src - p.src := by rw [IntKind.wrap_i64]; omega
      go_wp2_with fail
      refine (HE1.out).mono ?_
      rintro e w2 ⟨v2, rfl, hb, hg⟩
      have HG := Lib.hid hg
      have HF' : Hid (Buf w2 B v2 (L1 ++ vlq (q.src - p.src)) ∧ Grew w w2 (.slice A l.length c) v2 ∧ Blk w2 b 58 p.cells ∧ Blk w2 (b + 1) 58 q.cells ∧ Blk w2 (b + 1 + 1) 53 [.int .u32 0]) := Lib.hid ⟨hb, HF.out.2.1.trans hg, KEEP.out _ _ _ _ _ HF.out.1 hg HF.out.2.2⟩
      have HB1' : Hid (B ≤ w2.heap.size) := Lib.hid (Nat.le_trans HB1.out hg.by_.size)
      clear HF HB1 HG hb hg cp1 cq1 HE1 hw1
      have HF := HF'
      have HB1 := HB1'
      clear HF' HB1'
      obtain ⟨L2, hL2⟩ : ∃ L', L' = L1 ++ vlq (q.src - p.src) := ⟨_, rfl⟩
      rw [← hL2] at HF HLL
      have HL2 := Lib.hid hL2
      clear hL2
      have cp2 : w2.cell? ⟨b, 3, none⟩ = some (.int .i64 p.ol) := HF.out.2.2.1.get 3 rfl
      have cq2 : w2.cell? ⟨b + 1, 3, none⟩ = some (.int .i64 q.ol) := HF.out.2.2.2.1.get 3 rfl
      have HE2 := Lib.hid (encode B v2 L2 (q.ol - p.ol) w2 HF.out.1 HB1.out (by have := HLL.out; omega) (by omega) (by omega))
      have hl2 := vlq_len (n := q.ol - p.ol) (by omega) (by omega)
      have HLL' : Hid ((L2 ++ vlq (q.ol - p.ol)).length ≤ 10000000022) := Lib.hid (by rw [List.length_append]; have := HLL.out; omega)
      clear HLL
      have HLL := HLL'
      clear HLL' hl2
      have hw2 : IntKind.i64.wrap (q.ol - p.ol) = q.ol - p.ol := by rw [IntKind.wrap_i64]; omega
      go_wp2_with fail
      refine (HE2.out).mono ?_
      rintro e w3 ⟨v3, rfl, hb, hg⟩
      have HG := Lib.hid hg
      have HF' : Hid (Buf w3 B v3 (L2 ++ vlq (q.ol - p.ol)) ∧ Grew w w3 (.slice A l.length c) v3 ∧ Blk w3 b 58 p.cells ∧ Blk w3 (b + 1) 58 q.cells ∧ Blk w3 (b + 1 + 1) 53 [.int .u32 0]) := Lib.hid ⟨hb, HF.out.2.1.trans hg, KEEP.out _ _ _ _ _ HF.out.1 hg HF.out.2.2⟩
      have HB1' : Hid (B ≤ w3.heap.size) := Lib.hid (Nat.le_trans HB1.out hg.by_.size)
      clear HF HB1 HG hb hg cp2 cq2 HE2 hw2
      have HF := HF'
      have HB1 := HB1'
      clear HF' HB1'
      obtain ⟨L3, hL3⟩ : ∃ L', L' = L2 ++ vlq (q.ol - p.ol) := ⟨_, rfl⟩
      rw [← hL3] at HF HLL
      have HL3 := Lib.hid hL3
      clear hL3
      have cp3 : w3.cell? ⟨b, 4, none⟩ = some (.int .i64 p.oc) := HF.out.2.2.1.get 4 rfl
      have cq3 : w3.cell? ⟨b + 1, 4, none⟩ = some (.int .i64 q.oc) := HF.out.2.2.2.1.get 4 rfl
      have HE3 := Lib.hid (encode B v3 L3 (q.oc - p.oc) w3 HF.out.1 HB1.out (by have := HLL.out; omega) (by omega) (by omega))
      have hl3 := vlq_len (n := q.oc - p.oc) (by omega) (by omega)
      have HLL' : Hid ((L3 ++ vlq (q.oc - p.oc)).length ≤ 10000000029) := Lib.hid (by rw [List.length_append]; have := HLL.out; omega)
      clear HLL
      have HLL := HLL'
      clear HLL' hl3
      have hw3 : IntKind.i64.wrap (q.oc - p.oc) = q.oc - p.oc := by rw [IntKind.wrap_i64]; omega
      go_wp2_with fail
      refine (HE3.out).mono ?_
      rintro e w4 ⟨v4, rfl, hb, hg⟩
      have HG := Lib.hid hg
      have HF' : Hid (Buf w4 B v4 (L3 ++ vlq (q.oc - p.oc)) ∧ Grew w w4 (.slice A l.length c) v4 ∧ Blk w4 b 58 p.cells ∧ Blk w4 (b + 1) 58 q.cells ∧ Blk w4 (b + 1 + 1) 53 [.int .u32 0]) := Lib.hid ⟨hb, HF.out.2.1.trans hg, KEEP.out _ _ _ _ _ HF.out.1 hg HF.out.2.2⟩
      have HB1' : Hid (B ≤ w4.heap.size) := Lib.hid (Nat.le_trans HB1.out hg.by_.size)
      clear HF HB1 HG hb hg cp3 cq3 HE3 hw3
      have HF := HF'
      have HB1 := HB1'
      clear HF' HB1'
      obtain ⟨L4, hL4⟩ : ∃ L', L' = L3 ++ vlq (q.oc - p.oc) := ⟨_, rfl⟩
      rw [← hL4] at HF HLL
      have HL4 := Lib.hid hL4
      clear hL4
      obtain ⟨A4, c4, rfl⟩ := own_slice HF.out.1
      obtain ⟨z6, hz6⟩ : ∃ z, q.has = z := ⟨_, rfl⟩
      have ch : w4.cell? ⟨b + 1, 6, none⟩ = some (.bool z6) := by rw [← hz6]; exact HF.out.2.2.2.1.get 6 rfl
      have HZ6 := Lib.hid hz6
      clear hz6
      have hne : b + 1 < w4.heap.size := HF.out.2.2.2.1.lt
      go_upto_if 57 with fail
      obtain ⟨W4, hW4⟩ : ∃ W, W = w4.alloc (.cells #[.int .u32 0] 53) := ⟨_, rfl⟩
      obtain ⟨g4, hg4⟩ : ∃ g, g = w4.heap.size := ⟨_, rfl⟩
      have B4 : Below w4.heap.size w4 W4 := by rw [hW4]; exact below_at (Below.refl _ _) _
      have K4 : Blk W4 g4 53 [.int .u32 0] := by rw [hW4, hg4]; exact Blk.new w4 53 [.int .u32 0]
      have HF4 : Hid (Buf W4 B (.slice A4 L4.length c4) L4 ∧ Grew w W4 (.slice A l.length c) (.slice A4 L4.length c4) ∧ Blk W4 b 58 p.cells ∧ Blk W4 (b + 1) 58 q.cells ∧ Blk W4 (b + 1 + 1) 53 [.int .u32 0] ∧ Blk W4 g4 53 [.int .u32 0]) :=
        Lib.hid ⟨own_keep HF.out.1 B4, HF.out.2.1.trans ⟨only_of_below B4 _, .inl rfl⟩, HF.out.2.2.1.below B4 HF.out.2.2.1.lt, HF.out.2.2.2.1.below B4 HF.out.2.2.2.1.lt, HF.out.2.2.2.2.below B4 HF.out.2.2.2.2.lt, K4⟩
      have hb4 : B ≤ W4.heap.size := Nat.le_trans HB1.out B4.size
      have hgw : w.heap.size ≤ g4 := by rw [hg4]; exact HF.out.2.1.by_.size
      have hgb : b + 1 + 1 < g4 := by rw [hg4]; exact HF.out.2.2.2.2.lt
      rw [← hW4, ← hg4]
      clear hW4 B4 K4 HF HB1 hg4
      go_cut [0] (fun t wx => Hid (∃ f, Buf wx B t (L4 ++ if q.has then vlq (q.nm - p.nm) else []) ∧ Grew w wx (.slice A l.length c) t ∧ Blk wx (b + 1 + 1) 53 [.int .u32 0] ∧ Blk wx g4 53 [.int .u32 f]))
      case first =>
        cases z6 with
        | false =>
          go_wp2_with fail
          go_meet
          exact Lib.hid ⟨0, by rw [HZ6.out]; simpa using HF4.out.1, HF4.out.2.1, HF4.out.2.2.2.2⟩
        | true =>
          have hlen4 : (L4.length : Int) ≤ 10000000100 := by have := HLL.out; omega
          have HMI := Lib.hid makeIndex
          go_wp2_with fail
          refine (HMI.out _ _).mono ?_
          rintro e w5 ⟨hb5, f, rfl⟩
          have k5 := HF4.out.2.2.2.2.2.below hb5 HF4.out.2.2.2.2.2.lt
          have g5 : w5.cell? ⟨g4, 0, none⟩ = some (.int .u32 0) := k5.get 0 rfl
          have f5 := k5.frozen 0
          have p5 : w5.cell? ⟨b, 5, none⟩ = some (.int .i64 p.nm) := (HF4.out.2.2.1.below hb5 HF4.out.2.2.1.lt).get 5 rfl
          have q5 : w5.cell? ⟨b + 1, 5, none⟩ = some (.int .i64 q.nm) := (HF4.out.2.2.2.1.below hb5 HF4.out.2.2.2.1.lt).get 5 rfl
          have HB5 := Lib.hid hb5
          clear hb5 k5
          obtain ⟨W6, hW6⟩ : ∃ W, W = w5.setCell ⟨g4, 0, none⟩ (.int .u32 f) := ⟨_, rfl⟩
          have HF6 : Hid (Buf W6 B (.slice A4 L4.length c4) L4 ∧ Grew w W6 (.slice A l.length c) (.slice A4 L4.length c4) ∧ Blk W6 b 58 p.cells ∧ Blk W6 (b + 1) 58 q.cells ∧ Blk W6 (b + 1 + 1) 53 [.int .u32 0] ∧ Blk W6 g4 53 [.int .u32 f]) := Lib.hid (by
            obtain ⟨a1, a2, a3, a4, a5, a6⟩ := HF4.out
            have b5 := HB5.out
            rw [hW6]
            have a1' := own_keep a1 b5
            have a6' := a6.below b5 a6.lt
            have hne : some g4 ≠ (Value.slice A4 L4.length c4).ownBlock := own_ne a1' a6' (by decide)
            have hgr : w5.grownBy (w5.setCell ⟨g4, 0, none⟩ (.int .u32 f)) (some g4) := only_setCell (World.grownBy.refl _ _) (.inl rfl) _
            refine ⟨a1'.kept hgr ?_, (a2.trans ⟨only_of_below b5 _, .inl rfl⟩).fresh hgr hgw, (a3.below b5 a3.lt).far (by simp; omega) _, (a4.below b5 a4.lt).far (by simp; omega) _, (a5.below b5 a5.lt).far (by simp; omega) _, a6'.set_ 0 _⟩
            · exact .inr fun e => hne e.symm)
          have p6 : W6.cell? ⟨b, 5, none⟩ = some (.int .i64 p.nm) := HF6.out.2.2.1.get 5 rfl
          have q6 : W6.cell? ⟨b + 1, 5, none⟩ = some (.int .i64 q.nm) := HF6.out.2.2.2.1.get 5 rfl
          have HB6 : Hid (B ≤ W6.heap.size) := Lib.hid (by rw [hW6]; have := HB5.out.size; simp [World.setCell]; omega)
          have HE := Lib.hid (encode B _ L4 (q.nm - p.nm) W6 HF6.out.1 HB6.out (by omega) (by omega) (by omega))
          have hw : IntKind.i64.wrap (q.nm - p.nm) = q.nm - p.nm := by rw [IntKind.wrap_i64]; omega
          go_wp2_with fail
          rw [← hW6]
          refine HE.out.mono ?_
          rintro e w7 ⟨v7, rfl, h7, g7⟩
          have h52 := g7.by_
          have K7 : Hid (∃ f, Buf w7 B v7 (L4 ++ vlq (q.nm - p.nm)) ∧ Grew w w7 (.slice A l.length c) v7 ∧ Blk w7 (b + 1 + 1) 53 [.int .u32 0] ∧ Blk w7 g4 53 [.int .u32 f]) := Lib.hid (by
            obtain ⟨a1, a2, a3, a4, a5, a6⟩ := HF6.out
            exact ⟨f, h7, a2.trans g7, a5.grown h52 (own_ne a1 a5 (by decide)), a6.grown h52 (own_ne a1 a6 (by decide))⟩)
          clear h7 g7 h52 hW6
          go_wp2_with fail
          go_meet
          have := HZ6.out
          rw [this]
          exact K7
      case rest =>
        obtain ⟨f, h1, h2, h3, h4⟩ := hcut.out
        obtain ⟨WW, hWW⟩ : ∃ WW, WW = wc := ⟨_, rfl⟩
        subst hWW
        have ca : WW.cell? ⟨b + 1 + 1, 0, none⟩ = some (.int .u32 0) := h3.get 0 rfl
        have fa := h3.frozen 0
        have cg : WW.cell? ⟨g4, 0, none⟩ = some (.int .u32 f) := h4.get 0 rfl
        have hne : b + 1 + 1 ≠ g4 := by omega
        have hne' : g4 ≠ b + 1 + 1 := by omega
        have H1 := Lib.hid h1
        have H2 := Lib.hid h2
        have H3 := Lib.hid h3
        have H4 := Lib.hid h4
        clear hcut h1 h2 h3 h4
        go_upto_region 12 with fail
        go_region
        all_goals
          go_wp2_with fail
          have k3 := (H3.out.set_ 0 (.int .u32 f)).drew
          have z3 : (WW.setCell ⟨b + 1 + 1, 0, none⟩ (.int .u32 f)).cell? ⟨b + 1 + 1, 0, none⟩ = some (.int .u32 f) := k3.get 0 rfl
          have hgr : WW.grownBy (WW.setCell ⟨b + 1 + 1, 0, none⟩ (.int .u32 f)).drew (some (b + 1 + 1)) := only_drew (only_setCell (World.grownBy.refl _ _) (.inl rfl) _)
          refine bodyPost_ret (v := .tuple #[u0, .agg #[.int .u32 f]]) (by simp [results, Try.results45, z3, go_sem]) rfl ?_
          refine ⟨_, _, rfl, ?_, H2.out.fresh hgr (by omega)⟩
          have e : l ++ (sep last ++ seg p q) = L4 ++ if q.has = true then vlq (q.nm - p.nm) else [] := by
            rw [HL4.out, HL3.out, HL2.out, HL1.out, HL0.out, seg]
            simp only [List.append_assoc]
          rw [e]
          refine H1.out.kept hgr (.inr fun e' => ?_)
          exact own_ne H1.out H3.out (by decide) e'.symm
end Go.Proofs.Ytobhlppdolekoaa.Ch
