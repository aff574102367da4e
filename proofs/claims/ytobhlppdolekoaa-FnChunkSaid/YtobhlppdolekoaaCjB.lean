/- The closure in chunk. The walk. -/
import Derived.Test.YtobhlppdolekoaaCjA
import Derived.Lib.AtoiErrMem
namespace Go.Proofs.Ytobhlppdolekoaa.Ch
open Go.RowKit Go.Proofs.Ytobhlppdolekoaa.Aid Go.Proofs.Ytobhlppdolekoaa.Bytes Go.Proofs.Ytobhlppdolekoaa.Runes Go.Proofs.Ytobhlppdolekoaa.Wtf
attribute [local go_sem ↓] Go.wp_at_zero Go.wp_at_succ
set_option linter.unusedVariables false
set_option linter.unusedSimpArgs false
/-- What a chunk tells. -/
structure Fin (w : World) (src out : ByteArray) (ms : List Mk) (asc : Bool) (B bm : Nat) (a : Ab) (v qv : Value) (ns : List ByteArray) (E : List Mp) (n0 : Nat) : Prop where
  buf : Buf w B v a.l
  nms : Nms w B bm v qv asc ns
  maps : Maps a E
  order : InOrder E
  each : ∀ m ∈ E, From src out ns ms m
  led : Led src out ms E
  gl : a.st.gl = ((placeOf out out.size).1 : Int)
  gcol : a.gcol = ((placeOf out out.size).2 : Int)
  lim : a.Lim n0
  n0 : n0 ≤ 40000
  len : ns.length ≤ 500
  names : ∀ s ∈ ns, ∃ k ∈ ms, k.name = s
/-- What the closure leaves: a chunk in block p. -/
structure Done (w0 w : World) (p : Nat) (src out : ByteArray) (ms : List Mk) (asc : Bool) (B bm : Nat) (a : Ab) (v qv : Value) (fo : Int) (z : Bool) (ns : List ByteArray) (E : List Mp) (n0 : Nat) : Prop where
  chunk : Blk w p 60 (chunkCells a v qv fo z)
  fin : Fin w src out ms asc B bm a v qv ns E n0
  big : w0.heap.size ≤ B
  keep : w0.grownBy w (some p)
theorem genStep {w0 w : World} {B g bm : Nat} {src out : ByteArray} {ms : List Mk} {asc : Bool} {d : Bd} {a : Ab} {v : Value} {fo : Int} {ns : List ByteArray} {D : List Mp} {n0 : Nat} (h : St w0 w B g bm src out ms asc ms.length d a v fo ns D n0) (hf : MFit src out ms)
    (b c : Nat) (hl : Lies w b out) (hbg : b ≠ g) (hbv : some b ≠ v.ownBlock) (hcap : out.size ≤ c) (hcap2 : c ≤ 9223372036854775807) :
    Calls Try.prog 30 #[.pointer (some ⟨g, 0, none⟩), .slice (some ⟨b, 0, none⟩) out.size c] w fun e w' => ∃ v1 fo1 z a1 E n1 qv, e = .returned (.agg (chunkCells a1 v1 qv fo1 z).toArray) ∧ Fin w' src out ms asc B bm a1 v1 qv ns E n1 ∧ Below w0.heap.size w0 w' ∧ Bel B g w w' := by
  have hlen := hf.len
  have hos := hf.outs
  have hn0 := h.n0
  have hnl := h.len
  have hfrom : upAt ms ms.length ≤ out.size ∧ Pt out (upAt ms ms.length) := by
    unfold upAt
    cases hu : upTo ms ms.length with
    | none => exact ⟨Nat.zero_le _, Pt.zero out⟩
    | some u =>
      simp only
      have hum : u ∈ ms := by
        obtain ⟨j, hj⟩ : ∃ j, j = ms.length := ⟨_, rfl⟩
        rw [← hj] at hu
        cases j with
        | zero => cases hu
        | succ j =>
          obtain ⟨u', g1, _, _, _, g5, _⟩ := up_like ms hf.asc j _ (List.getElem?_eq_getElem (by omega))
          rw [hu] at g1
          injection g1 with g1
          rw [g1]; exact g5
      obtain ⟨e1, e2, _⟩ := hf.each u hum
      exact ⟨e1, Pt.of hf.wout e1 e2⟩
  obtain ⟨pc, pl, pr, pw, pwh, pp⟩ := piece hf.wout hfrom.1 (Nat.le_refl _) hfrom.2 (Pt.of hf.wout (Nat.le_refl _) (rounded_end out))
  have hall : out.extract 0 out.size = out := extract_all out
  rw [hall] at pc
  have hupd : d.upd = ((out.extract 0 (upAt ms ms.length)).size : Nat) := by
    rw [pl]
    have hla := h.last
    unfold Last at hla
    unfold upAt
    cases hu : upTo ms ms.length with
    | none => rw [hu] at hla; exact hla.2
    | some u => rw [hu] at hla; exact hla.2.2.1
  have hgc := genChunk B g bm b c d a v fo ns (table src) n0 (out.extract 0 (upAt ms ms.length)) (out.extract (upAt ms ms.length) out.size) w h.built (by omega) (by omega) (by omega) hupd (by rw [pc]; exact hl) hbg hbv (by rw [pc]; exact hcap) hcap2 pw
  rw [pc] at hgc
  refine hgc.mono ?_
  rintro e w' ⟨v1, fo1, z, d1, rfl, hq, hasc, hb, hbel⟩
  obtain ⟨E, e1, e2, e3, e4, e5, e6⟩ := h.law.fin hf h.built.lim (by omega)
  refine ⟨v1, fo1, z, _, E, _, d.q, rfl, ⟨hb.buf, by have := hb.nms; rw [hq, hasc, h.asc] at this; exact this, e1, e2, e3, e4, e5, e6, hb.lim, by omega, by omega, h.names⟩, h.below.trans (hbel.low h.big h.g), hbel⟩
theorem chunk_one (a : Ab) (v qv : Value) (fo : Int) (z : Bool) (hv : v.oneCell' = true) (hq : qv.oneCell' = true) : ∀ u ∈ chunkCells a v qv fo z, u.oneCell' = true := by
  intro u hu
  simp only [chunkCells, List.mem_cons, List.not_mem_nil, or_false] at hu
  rcases hu with rfl | rfl | rfl | rfl | rfl | rfl | rfl | rfl | rfl | rfl | rfl | rfl
  · exact hv
  · rfl
  · exact hq
  all_goals rfl
theorem own_one {w : World} {base : Nat} {e : TypeId} {size n : Nat} {v : Value} {xs : List Value} (h : w.ownsRow base e size v n xs) : v.oneCell' = true := by
  obtain ⟨A, c, rfl⟩ := own_slice h
  rfl
set_option maxRecDepth 100000 in
set_option maxHeartbeats 8000000 in
theorem closure (src out : ByteArray) (ms : List Mk) (asc : Bool) (p0 p1 p2 p3 p4 : Nat) (cs4 : List Value) (w : World) (hs : src.size ≤ 16384) (hwf : wf src 0 = true)
    (h0 : w.cell? ⟨p0, 0, none⟩ = some (.string src)) (l0 : p0 < w.heap.size) (h1 : w.cell? ⟨p1, 0, none⟩ = some (.bool asc)) (l1 : p1 < w.heap.size)
    (A : Option Addr) (cm : Nat) (h2 : w.cell? ⟨p2, 0, none⟩ = some (.slice A ms.length cm)) (l2 : p2 < w.heap.size) (h3 : w.cell? ⟨p3, 0, none⟩ = some (.string out)) (l3 : p3 < w.heap.size) (hm : Marks w A ms) (hf : MFit src out ms)
    (h4 : Blk w p4 60 cs4) (hc4 : cs4.length = 12) :
    Calls Try.prog 26 #[.pointer (some ⟨p0, 0, none⟩), .pointer (some ⟨p1, 0, none⟩), .pointer (some ⟨p2, 0, none⟩), .pointer (some ⟨p3, 0, none⟩), .pointer (some ⟨p4, 0, none⟩)] w fun e w' => e = .returned (.tuple #[]) ∧ ∃ B bm a v qv fo z ns E n0, Done w w' p4 src out ms asc B bm a v qv fo z ns E n0 := by
  have HLT := Lib.hid (fun w => lineTables src w hs hwf)
  have HMB := Lib.hid makeBuilder
  have hlen := (table_len src hwf).1
  have H4 := Lib.hid h4
  have HM := Lib.hid hm
  have HF := Lib.hid hf
  clear hs hwf hm hf h4
  go_enter Try.func26, Try.ntmps26
  go_upto_region 0 with fail
  go_cut [5] (fun t wx => ∃ B g bm tv, t = .pointer (some ⟨g, 0, none⟩) ∧ Begun w wx B g bm tv asc src)
  case first =>
    refine Hoist.start (S := fun _ w' => Below w.heap.size w w') (by kernel_rfl) ?_
    have hb0 : Below w.heap.size w w.drew := below_drewN (Below.refl _ _) 1
    refine Hoist.takeS (i := 0) (v := ?va0) rfl (by kernel_rfl) (by kernel_rfl) (by kernel_rfl) (fun _ _ _ h => h) ⟨by rfl, ?hya0⟩ hb0 ?resta0
    case hya0 =>
      intro w' hSw
      have k0 := bcell hSw l0 h0
      go_simp
      rfl
    simp only [Act.put, List.setIfInBounds_toArray, List.set_cons_zero, List.set_cons_succ]
    refine Hoist.takeS (i := 2) (v := ?va2) rfl (by kernel_rfl) (by kernel_rfl) (by kernel_rfl) (fun _ _ _ h => h) ⟨by rfl, ?hya2⟩ hb0 ?resta2
    case hya2 =>
      intro w' hSw
      have k1 := bcell hSw l1 h1
      go_simp
      rfl
    simp only [Act.put, List.setIfInBounds_toArray, List.set_cons_zero, List.set_cons_succ]
    refine Hoist.pair (i := 1) (j := 4) rfl rfl (by kernel_rfl) ?h1 ?h4
    case h1 =>
      intro K' hK
      go_simp
      refine (HLT.out _).mono ?_
      rintro e w1 ⟨tv, cs, rfl, ht, hb1⟩
      obtain ⟨At, ct, htv⟩ := own_slice ht.row
      subst htv
      refine hK _ _ (hb0.trans (Below.mono_ hb1 (Nat.le_refl _))) ?_
      clear hK K'
      have h01 : Below w.heap.size w w1 := hb0.trans hb1
      refine Hoist.pair (i := 3) (j := 4) rfl rfl (by kernel_rfl) ?h34 ?h43
      case h34 =>
        intro K' hK
        go_simp
        refine (HMB.out _ _ _ _ _).mono ?_
        rintro e w2 ⟨bm, rfl, hm, hbm, hb2⟩
        have h02 : Below w.heap.size w w2 := up h01 hb2
        refine hK _ _ h02 ?_
        clear hK K'
        refine Hoist.only (i := 4) rfl (by kernel_rfl) ?_
        intro K' hK
        go_simp
        obtain ⟨w3, hw3⟩ : ∃ w3, w3 = w2.alloc (.cells #[.pointer none, .slice none 0 0, .slice none 0 0, .map none, .slice none 0 0, .string ⟨#[]⟩, .int .i64 0, .int .i64 0, .int .i64 0, .int .i64 0, .int .i64 0, .int .i64 0, .bool false, .int .i64 0, .int .i64 0, .int .i64 0, .int .i32 0, .int .u32 0, .bool false, .bool false, .bool false, .bool false] 83) := ⟨_, rfl⟩
        have kz : Blk w3 w2.heap.size 83 zeros22 := by rw [hw3]; exact Blk.new w2 83 zeros22
        have hb3 : Below w2.heap.size w2 w3 := by rw [hw3]; exact below_at (Below.refl _ _) _
        have hm3 : w3.ownsMap Try.prog 9 (plainElem (H := Unit) Try.prog 51) bm 0 (.map []) := hm.kept (only_of_below hb3 none) (by simp)
        rw [← hw3]
        clear hw3
        refine hK _ _ (up h02 hb3) ?_
        clear hK K'
        refine Hoist.only (i := 5) rfl (by kernel_rfl) ?_
        intro K' hK
        refine step_store_blk (by rfl) 83 (.tmp 5) (.tmp 11) (by rfl) w2.heap.size zeros22 (Bd.new (.slice At (table src).length ct) bm asc).cells 83 (by rfl) (by rfl) kz rfl info83 (new_one _ _ _ _ _) ?_
        intro w4 k4 g4 _
        have hF : Begun w w4 w1.heap.size w2.heap.size bm (.slice At (table src).length ct) asc src := by
          refine begun ht hlen h01 h02.size (fun k _ hk => by have := hb2.size; omega) ?_ (hm3.kept g4 (by have := hm.lt; intro e; injection e with e; omega)) hbm k4
          exact ((Bel.of_below (Nat.le_refl _) hb2).below hb3).only g4 (fun j hj => by injection hj with hj; exact .inr hj.symm)
        refine hK _ _ hF.below ?_
        clear hK K'
        simp only [Act.put, List.setIfInBounds_toArray, List.set_cons_zero, List.set_cons_succ]
        refine Hoist.over (by kernel_rfl) ?_ _
        go_wp2_with fail
        go_meet
        exact ⟨_, _, _, _, rfl, hF⟩
      case h43 =>
        intro K' hK
        go_simp
        obtain ⟨w3, hw3⟩ : ∃ w3, w3 = w1.alloc (.cells #[.pointer none, .slice none 0 0, .slice none 0 0, .map none, .slice none 0 0, .string ⟨#[]⟩, .int .i64 0, .int .i64 0, .int .i64 0, .int .i64 0, .int .i64 0, .int .i64 0, .bool false, .int .i64 0, .int .i64 0, .int .i64 0, .int .i32 0, .int .u32 0, .bool false, .bool false, .bool false, .bool false] 83) := ⟨_, rfl⟩
        have kz : Blk w3 w1.heap.size 83 zeros22 := by rw [hw3]; exact Blk.new w1 83 zeros22
        have hb3 : Below w1.heap.size w1 w3 := by rw [hw3]; exact below_at (Below.refl _ _) _
        have hlt3 : w1.heap.size < w3.heap.size := kz.lt
        rw [← hw3]
        clear hw3
        refine hK _ _ (up h01 hb3) ?_
        clear hK K'
        refine Hoist.only (i := 3) rfl (by kernel_rfl) ?_
        intro K' hK
        go_simp
        refine (HMB.out _ _ _ _ _).mono ?_
        rintro e w2 ⟨bm, rfl, hm, hbm, hb2⟩
        have h02 : Below w.heap.size w w2 := up (up h01 hb3) hb2
        have kz2 : Blk w2 w1.heap.size 83 zeros22 := kz.below hb2 hlt3
        refine hK _ _ h02 ?_
        clear hK K'
        refine Hoist.only (i := 5) rfl (by kernel_rfl) ?_
        intro K' hK
        refine step_store_blk (by rfl) 83 (.tmp 5) (.tmp 11) (by rfl) w1.heap.size zeros22 (Bd.new (.slice At (table src).length ct) bm asc).cells 83 (by rfl) (by rfl) kz2 rfl info83 (new_one _ _ _ _ _) ?_
        intro w4 k4 g4 _
        have hF : Begun w w4 w1.heap.size w1.heap.size bm (.slice At (table src).length ct) asc src := by
          refine begun ht hlen h01 h01.size (fun k _ hk => by omega) ?_ (hm.kept g4 (by intro e; injection e with e; omega)) (by omega) k4
          exact ((Bel.of_below (Nat.le_refl _) hb3).below hb2).only g4 (fun j hj => by injection hj with hj; exact .inr hj.symm)
        refine hK _ _ hF.below ?_
        clear hK K'
        simp only [Act.put, List.setIfInBounds_toArray, List.set_cons_zero, List.set_cons_succ]
        refine Hoist.over (by kernel_rfl) ?_ _
        go_wp2_with fail
        go_meet
        exact ⟨_, _, _, _, rfl, hF⟩
    case h4 =>
      intro K' hK
      go_simp
      obtain ⟨w3, hw3⟩ : ∃ w3, w3 = (w.alloc (.cells #[.pointer none, .slice none 0 0, .slice none 0 0, .map none, .slice none 0 0, .string ⟨#[]⟩, .int .i64 0, .int .i64 0, .int .i64 0, .int .i64 0, .int .i64 0, .int .i64 0, .bool false, .int .i64 0, .int .i64 0, .int .i64 0, .int .i32 0, .int .u32 0, .bool false, .bool false, .bool false, .bool false] 83)).drew := ⟨_, rfl⟩
      have kz : Blk w3 w.heap.size 83 zeros22 := by rw [hw3]; exact (Blk.new w 83 zeros22).drew
      have hb3 : Below w.heap.size w w3 := by rw [hw3]; exact below_drewN (below_at (Below.refl _ _) _) 1
      have hlt3 : w.heap.size < w3.heap.size := kz.lt
      rw [← hw3]
      clear hw3
      refine hK _ _ hb3 ?_
      clear hK K'
      refine Hoist.only (i := 1) rfl (by kernel_rfl) ?_
      intro K' hK
      go_simp
      refine (HLT.out _).mono ?_
      rintro e w1 ⟨tv, cs, rfl, ht, hb1⟩
      obtain ⟨At, ct, htv⟩ := own_slice ht.row
      subst htv
      have h01 : Below w.heap.size w w1 := up hb3 hb1
      have kz1 : Blk w1 w.heap.size 83 zeros22 := kz.below hb1 hlt3
      refine hK _ _ h01 ?_
      clear hK K'
      refine Hoist.only (i := 3) rfl (by kernel_rfl) ?_
      intro K' hK
      go_simp
      refine (HMB.out _ _ _ _ _).mono ?_
      rintro e w2 ⟨bm, rfl, hm, hbm, hb2⟩
      have h02 : Below w.heap.size w w2 := up h01 hb2
      have kz2 : Blk w2 w.heap.size 83 zeros22 := kz1.below hb2 kz1.lt
      refine hK _ _ h02 ?_
      clear hK K'
      refine Hoist.only (i := 5) rfl (by kernel_rfl) ?_
      intro K' hK
      refine step_store_blk (by rfl) 83 (.tmp 5) (.tmp 11) (by rfl) w.heap.size zeros22 (Bd.new (.slice At (table src).length ct) bm asc).cells 83 (by rfl) (by rfl) kz2 rfl info83 (new_one _ _ _ _ _) ?_
      intro w4 k4 g4 _
      have hF : Begun w w4 w1.heap.size w.heap.size bm (.slice At (table src).length ct) asc src := by
        refine begun ht hlen h01 (Nat.le_refl _) (fun k hk _ => by omega) ?_ (hm.kept g4 (by have := kz1.lt; intro e; injection e with e; omega)) hbm k4
        exact (Bel.of_below (Nat.le_refl _) hb2).only g4 (fun j hj => by injection hj with hj; exact .inr hj.symm)
      refine hK _ _ hF.below ?_
      clear hK K'
      simp only [Act.put, List.setIfInBounds_toArray, List.set_cons_zero, List.set_cons_succ]
      refine Hoist.over (by kernel_rfl) ?_ _
      go_wp2_with fail
      go_meet
      exact ⟨_, _, _, _, rfl, hF⟩
  case rest =>
    obtain ⟨B, g, bm, tv, rfl, hbg⟩ := hcut
    obtain ⟨W, hW⟩ : ∃ W, W = wc := ⟨_, rfl⟩
    subst hW
    have k0 := bcell hbg.below l0 h0
    have k2 := bcell hbg.below l2 h2
    have HST := Lib.hid (hbg.st out ms)
    have HCB := Lib.hid (fun (W2 : World) (h : Below w.heap.size w W2) => show W2.cell? ⟨p2, 0, none⟩ = some (.slice A ms.length cm) ∧ W2.cell? ⟨p3, 0, none⟩ = some (.string out) ∧ Marks W2 A ms from ⟨bcell h l2 h2, bcell h l3 h3, HM.out.below h⟩)
    clear hbg h0 h1 h2 h3 HM
    obtain ⟨n, hn⟩ : ∃ n, n = ms.length := ⟨_, rfl⟩
    have HN := Lib.hid hn
    rw [← hn] at k2 HCB
    clear hn
    have hn5 : n ≤ 500 := by rw [HN.out]; exact HF.out.len
    go_wp2_with fail
    go_loopg [14] n (fun m iv wr => ∃ i : Nat, i + m = n ∧ iv = .int .i64 i ∧ ∃ d a v fo ns D n0, Hid (St w wr B g bm src out ms asc i d a v fo ns D n0))
    case atStart => exact ⟨0, by omega, rfl, _, _, _, _, _, _, _, HST⟩
    case round =>
      obtain ⟨i, him, rfl, d, a, v, fo, ns, D, n0, HS⟩ := hrel
      by_cases hlt : i < n
      · obtain ⟨k, hk⟩ : ∃ k, ms[i]? = some k := ⟨_, List.getElem?_eq_getElem (by rw [← HN.out]; exact hlt)⟩
        obtain ⟨q2, q3, qm⟩ := HCB.out wr HS.out.below
        obtain ⟨b, o, hA, hb, m0, m1, m2⟩ := qm i k hk
        subst hA
        have HK := Lib.hid hk
        have hlt' : (i : Int) < n := by omega
        clear qm hk
        go_upto_region 4 with fail
        obtain ⟨W1, hW1⟩ : ∃ W1, W1 = wr.alloc (.cells #[.int .i64 k.at, .int .i64 k.loc, .string k.name] 45) := ⟨_, rfl⟩
        have b1 : Below wr.heap.size wr W1 := by rw [hW1]; exact below_at (Below.refl _ _) _
        have k7 : Blk W1 wr.heap.size 45 [.int .i64 k.at, .int .i64 k.loc, .string k.name] := by rw [hW1]; exact Blk.new wr 45 [.int .i64 k.at, .int .i64 k.loc, .string k.name]
        rw [← hW1]
        clear hW1 m0 m1 m2
        obtain ⟨b7, hb7⟩ : ∃ b7, b7 = wr.heap.size := ⟨_, rfl⟩
        have e0 : W1.cell? ⟨b7, 0, none⟩ = some (.int .i64 k.at) := by rw [hb7]; exact k7.get 0 rfl
        have e1 : W1.cell? ⟨b7, 1, none⟩ = some (.int .i64 k.loc) := by rw [hb7]; exact k7.get 1 rfl
        have e2 : W1.cell? ⟨b7, 2, none⟩ = some (.string k.name) := by rw [hb7]; exact k7.get 2 rfl
        have l7 : b7 < W1.heap.size := by rw [hb7]; exact k7.lt
        have HS1 := Lib.hid (HS.out.keep b1)
        have HW1 : Hid (Below w.heap.size w W1) := Lib.hid (up HS.out.below b1)
        have e3 : W1.cell? ⟨p3, 0, none⟩ = some (.string out) := (HCB.out W1 HW1.out).2.1
        have l3' : p3 < W1.heap.size := Nat.lt_of_lt_of_le l3 HW1.out.size
        rw [← hb7]
        clear b1 k7 hb7 q2 q3 hb
        obtain ⟨f1, f2, f3, f4, f5, f6⟩ := HF.out.each k (List.mem_of_getElem? HK.out)
        have HF2 := Lib.hid f2
        have HF4 := Lib.hid f4
        have HF5 := Lib.hid f5
        have HF6 := Lib.hid f6
        clear f2 f4 f5 f6
        have qw : IntKind.i32.wrap (k.loc : Int) = k.loc := by
          have := HF.out.srcs
          rw [IntKind.wrap_i32]; omega
        have hsl := Lib.hid (slice_to out k.at f1)
        obtain ⟨SG, hSG⟩ : ∃ SG : World → Prop, SG = fun w' => Below W1.heap.size W1 w' := ⟨_, rfl⟩
        have hg : SG W1.drew := by rw [hSG]; exact below_drewN (Below.refl _ _) 1
        have HSG := Lib.hid hSG
        clear hSG
        refine Hoist.start (S := fun L w' => L.getD 11 true = false → SG w') (by kernel_rfl) ?_
        refine Hoist.takeM (i := 0) 11 [1, 2, 3, 11] (v := ?vr0) rfl (by kernel_rfl) (by kernel_rfl) (by kernel_rfl) (by decide) (by kernel_rfl) (by decide) (by kernel_rfl) (fun _ _ _ h => h) ⟨by rfl, ?hyr0⟩ hg ?restr0
        case hyr0 =>
          intro w' hSw
          rw [HSG.out] at hSw
          have c0 := bcell hSw l7 e0
          have c1 := bcell hSw l7 e1
          have c2 := bcell hSw l7 e2
          have c3 := bcell hSw l3' e3
          go_simp
          rfl
        simp only [Act.put, List.setIfInBounds_toArray, List.set_cons_zero, List.set_cons_succ]
        refine Hoist.takeM (i := 1) 11 [2, 3, 11] (v := ?vr1) rfl (by kernel_rfl) (by kernel_rfl) (by kernel_rfl) (by decide) (by kernel_rfl) (by decide) (by kernel_rfl) (fun _ _ _ h => h) ⟨by rfl, ?hyr1⟩ hg ?restr1
        case hyr1 =>
          intro w' hSw
          rw [HSG.out] at hSw
          have c0 := bcell hSw l7 e0
          have c1 := bcell hSw l7 e1
          have c2 := bcell hSw l7 e2
          have c3 := bcell hSw l3' e3
          go_simp
          rfl
        simp only [Act.put, List.setIfInBounds_toArray, List.set_cons_zero, List.set_cons_succ]
        refine Hoist.takeM (i := 2) 11 [3, 11] (v := ?vr2) rfl (by kernel_rfl) (by kernel_rfl) (by kernel_rfl) (by decide) (by kernel_rfl) (by decide) (by kernel_rfl) (fun _ _ _ h => h) ⟨by rfl, ?hyr2⟩ hg ?restr2
        case hyr2 =>
          intro w' hSw
          rw [HSG.out] at hSw
          have c0 := bcell hSw l7 e0
          have c1 := bcell hSw l7 e1
          have c2 := bcell hSw l7 e2
          have c3 := bcell hSw l3' e3
          go_simp
          rfl
        simp only [Act.put, List.setIfInBounds_toArray, List.set_cons_zero, List.set_cons_succ]
        refine Hoist.takeM (i := 3) 11 [11] (v := ?vr3) rfl (by kernel_rfl) (by kernel_rfl) (by kernel_rfl) (by decide) (by kernel_rfl) (by decide) (by kernel_rfl) (fun _ _ _ h => h) ⟨by rfl, ?hyr3⟩ hg ?restr3
        case hyr3 =>
          intro w' hSw
          rw [HSG.out] at hSw
          have c0 := bcell hSw l7 e0
          have c1 := bcell hSw l7 e1
          have c2 := bcell hSw l7 e2
          have c3 := bcell hSw l3' e3
          go_simp
          rfl
        simp only [Act.put, List.setIfInBounds_toArray, List.set_cons_zero, List.set_cons_succ]
        refine Hoist.takeM (i := 4) 11 [5, 11] (v := ?vr4) rfl (by kernel_rfl) (by kernel_rfl) (by kernel_rfl) (by decide) (by kernel_rfl) (by decide) (by kernel_rfl) (fun _ _ _ h => h) ⟨by rfl, ?hyr4⟩ hg ?restr4
        case hyr4 =>
          intro w' hSw
          rw [HSG.out] at hSw
          have c0 := bcell hSw l7 e0
          have c1 := bcell hSw l7 e1
          have c2 := bcell hSw l7 e2
          have c3 := bcell hSw l3' e3
          go_simp
          rfl
        simp only [Act.put, List.setIfInBounds_toArray, List.set_cons_zero, List.set_cons_succ]
        refine Hoist.takeM (i := 5) 11 [11] (v := ?vr5) rfl (by kernel_rfl) (by kernel_rfl) (by kernel_rfl) (by decide) (by kernel_rfl) (by decide) (by kernel_rfl) (fun _ _ _ h => h) ⟨by rfl, ?hyr5⟩ hg ?restr5
        case hyr5 =>
          intro w' hSw
          rw [HSG.out] at hSw
          have c0 := bcell hSw l7 e0
          have c1 := bcell hSw l7 e1
          have c2 := bcell hSw l7 e2
          have c3 := bcell hSw l3' e3
          go_simp
          rfl
        simp only [Act.put, List.setIfInBounds_toArray, List.set_cons_zero, List.set_cons_succ]
        refine Hoist.takeM (i := 6) 11 [9, 10, 11] (v := ?vr6) rfl (by kernel_rfl) (by kernel_rfl) (by kernel_rfl) (by decide) (by kernel_rfl) (by decide) (by kernel_rfl) (fun _ _ _ h => h) ⟨by rfl, ?hyr6⟩ hg ?restr6
        case hyr6 =>
          intro w' hSw
          rw [HSG.out] at hSw
          have c0 := bcell hSw l7 e0
          have c1 := bcell hSw l7 e1
          have c2 := bcell hSw l7 e2
          have c3 := bcell hSw l3' e3
          go_simp
          rfl
        simp only [Act.put, List.setIfInBounds_toArray, List.set_cons_zero, List.set_cons_succ]
        refine Hoist.takeM (i := 7) 11 [8, 9, 10, 11] (v := ?vr7) rfl (by kernel_rfl) (by kernel_rfl) (by kernel_rfl) (by decide) (by kernel_rfl) (by decide) (by kernel_rfl) (fun _ _ _ h => h) ⟨by rfl, ?hyr7⟩ hg ?restr7
        case hyr7 =>
          intro w' hSw
          rw [HSG.out] at hSw
          have c0 := bcell hSw l7 e0
          have c1 := bcell hSw l7 e1
          have c2 := bcell hSw l7 e2
          have c3 := bcell hSw l3' e3
          go_simp
          rfl
        simp only [Act.put, List.setIfInBounds_toArray, List.set_cons_zero, List.set_cons_succ]
        refine Hoist.takeM (i := 8) 11 [9, 10, 11] (v := ?vr8) rfl (by kernel_rfl) (by kernel_rfl) (by kernel_rfl) (by decide) (by kernel_rfl) (by decide) (by kernel_rfl) (fun _ _ _ h => h) ⟨by rfl, ?hyr8⟩ hg ?restr8
        case hyr8 =>
          intro w' hSw
          rw [HSG.out] at hSw
          have c0 := bcell hSw l7 e0
          have c1 := bcell hSw l7 e1
          have c2 := bcell hSw l7 e2
          have c3 := bcell hSw l3' e3
          go_simp
          rfl
        simp only [Act.put, List.setIfInBounds_toArray, List.set_cons_zero, List.set_cons_succ]
        refine Hoist.only (i := 9) rfl (by kernel_rfl) ?_
        intro K' hK
        go_simp
        refine hK _ _ (fun _ => hg) ?_
        clear hK K'
        have hcv := fun (w : World) (s : ByteArray) => Lib.run_convert_string_bytes (P := Try.prog) w 9 25 5 s (u := .string) Try.underlying9 Try.underlying25 Try.underlying5
        refine Hoist.only (i := 10) rfl (by kernel_rfl) ?_
        intro K' hK
        go_simp
        obtain ⟨W2, hW2⟩ : ∃ W2, W2 = Lib.bytesWorld W1.drew 5 (out.extract 0 k.at) := ⟨_, rfl⟩
        have b2 : Below W1.heap.size W1 W2 := by rw [hW2]; exact (below_drewN (Below.refl _ _) 1 : Below W1.heap.size W1 (W1.drewN 1)).trans (Lib.bytesWorld_below (W1.drewN 1) 5 _)
        have hl2 : Lies W2 W1.heap.size (out.extract 0 k.at) := by rw [hW2]; exact lies_bytes W1.drew _
        obtain ⟨cp, hcp⟩ : ∃ cp, cp = grownCap W1.drew k.at 0 5 := ⟨_, rfl⟩
        have hc1 : k.at ≤ cp := by rw [hcp]; exact grownCap_ge _ _ _ _
        have hc2 : cp ≤ 9223372036854775807 := by rw [hcp]; exact grownCap_le_maxLen _ _ _ _ (by unfold maxLen; have := HF.out.outs; omega)
        have hg2 : SG W2 := by rw [HSG.out]; exact b2
        rw [← hW2, ← hcp]
        refine hK _ _ (fun _ => hg2) ?_
        clear hK K' hcv hW2 hcp
        have hst1 : St w W1 B g bm src out ms asc i d a v fo ns D n0 := HS1.out
        have hgW : g < W1.heap.size := hst1.built.cells.lt
        have hMS := Lib.hid (markStep (hst1.keep b2) HF.out HK.out W1.heap.size cp hl2 hst1.built.B (by omega) (fun e => by
          have := hst1.built.buf.lt W1.heap.size e.symm
          omega) hc1 hc2)
        clear hl2 b2 hst1 hgW
        refine Hoist.only (i := 11) rfl (by kernel_rfl) ?_
        intro K' hK
        go_simp
        refine (hMS.out).mono ?_
        rintro e w' ⟨rfl, d', a', v', fo', ns', D', n0', hst'⟩
        have HST' := Lib.hid hst'
        refine hK _ _ (fun h => absurd h (by simp)) ?_
        clear hK K' hst' hMS
        refine Hoist.over (by kernel_rfl) ?_ _
        go_wp2_with fail
        go_roundg (n - (i + 1))
        case rel => exact ⟨i + 1, by omega, rfl, d', a', v', fo', ns', D', n0', HST'⟩
        case measure => omega
      · have hii : ¬ (i : Int) < n := by omega
        have hin : i = ms.length := by rw [← HN.out]; omega
        rw [hin] at HS
        obtain ⟨_, q3, _⟩ := HCB.out wr HS.out.below
        have HQ3 := Lib.hid q3
        clear hin q3
        have q3 := HQ3.out
        have hcv := fun (w : World) (s : ByteArray) => Lib.run_convert_string_bytes (P := Try.prog) w 9 25 5 s (u := .string) Try.underlying9 Try.underlying25 Try.underlying5
        go_wp2_with fail
        obtain ⟨W2, hW2⟩ : ∃ W2, W2 = Lib.bytesWorld wr 5 out := ⟨_, rfl⟩
        have b2 : Below wr.heap.size wr W2 := by rw [hW2]; exact Lib.bytesWorld_below wr 5 _
        have hl2 : Lies W2 wr.heap.size out := by rw [hW2]; exact lies_bytes wr _
        obtain ⟨cp, hcp⟩ : ∃ cp, cp = grownCap wr out.size 0 5 := ⟨_, rfl⟩
        have hc1 : out.size ≤ cp := by rw [hcp]; exact grownCap_ge _ _ _ _
        have hc2 : cp ≤ 9223372036854775807 := by rw [hcp]; exact grownCap_le_maxLen _ _ _ _ (by unfold maxLen; have := HF.out.outs; omega)
        rw [← hW2, ← hcp]
        have hgW : g < wr.heap.size := HS.out.built.cells.lt
        have hMS := Lib.hid (genStep (HS.out.keep b2) HF.out wr.heap.size cp hl2 (by omega) (fun e => by
          have := HS.out.built.buf.lt wr.heap.size e.symm
          omega) hc1 hc2)
        clear hl2 b2 hgW q3 hcv hW2 hcp
        refine (hMS.out).mono ?_
        rintro e w5 ⟨v1, fo1, z, a1, E, n1, qv, rfl, hfin, hbw, hbel⟩
        have HFIN := Lib.hid hfin
        have HBW := Lib.hid hbw
        have k4 : Hid (Blk w5 p4 60 cs4) := Lib.hid (H4.out.below hbw H4.out.lt)
        have hone := Lib.hid (chunk_one a1 v1 qv fo1 z (own_one hfin.buf) (by obtain ⟨qs, hr, _⟩ := hfin.nms.row; exact own_one hr))
        clear hfin hbw hbel hMS
        go_wp2_with (refine wpList_store_blk rfl 60 (.tmp 4) (.tmp 33) rfl p4 cs4 (chunkCells a1 v1 qv fo1 z) 60 (by rfl) (by rfl) k4.out (by rw [hc4]; rfl) info60 hone.out ?_)
        intro w6 k6 g6 s6
        have hD : Hid (Done w w6 p4 src out ms asc B bm a1 v1 qv fo1 z ns E n1) := Lib.hid (by
          have hp4 := H4.out.lt
          have hbig := HS.out.big
          obtain ⟨f1, f2, f3, f4, f5, f6, f7, f8, f9, f10, f11, f12⟩ := HFIN.out
          exact ⟨k6, ⟨f1.kept g6 (.inr fun e => own_ne f1 k4.out (by decide) e.symm), f2.cells k4.out (by decide) (by decide) g6, f3, f4, f5, f6, f7, f8, f9, f10, f11, f12⟩, hbig, (only_of_below HBW.out (some p4)).trans g6⟩)
        clear k6 g6 s6 HFIN
        go_wp2_with fail
        go_returns
        exact ⟨rfl, _, _, _, _, _, _, _, _, _, _, hD.out⟩
end Go.Proofs.Ytobhlppdolekoaa.Ch
