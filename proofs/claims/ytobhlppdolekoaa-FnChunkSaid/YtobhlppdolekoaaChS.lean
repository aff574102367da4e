/- GenerateChunk. The walk. -/
import Derived.Test.YtobhlppdolekoaaChP
import Derived.Deep.CutBlock
import Derived.Deep.MidRow
namespace Go.Proofs.Ytobhlppdolekoaa.Ch
open Go.RowKit Go.Proofs.Ytobhlppdolekoaa.Aid Go.Proofs.Ytobhlppdolekoaa.Bytes Go.Proofs.Ytobhlppdolekoaa.Runes
attribute [local go_sem ↓] Go.wp_at_zero Go.wp_at_succ
set_option linter.unusedVariables false
set_option linter.unusedSimpArgs false
/-- A struct stored into its own block, told at a step of a region that draws its order. -/
theorem step_store_blk {P : Program} {ops : Array Oper} {op : Oper} {a : Act} {w : World} {K : Act → World → Prop} {Q : Exit → Act → World → Prop} {E : Prop} (hgd : op.guard = none) (ty : TypeId) (x y : Operand) (ho : op.op = .store ty x y)
    (g : Nat) (cs vs : List Value) (t : TypeId) (hx : a.eval x = .pointer (some ⟨g, 0, none⟩)) (hy : a.eval y = .agg vs.toArray) (hg : Blk w g t cs) (hl : vs.length = cs.length)
    (hi : (P.info? ty).map (·.size) = some vs.length) (h1 : ∀ v ∈ vs, v.oneCell' = true)
    (h : ∀ w', Blk w' g t vs → w.grownBy w' (some g) → w'.heap.size = w.heap.size → K (a.put op.dst undef) w') : if Region.wanted op (yielded ops a.tmps) = true then Oper.wp P op a w K Q else E := by
  obtain ⟨b1, b2, b3⟩ := blk_setCells vs 0 w cs hg (by omega)
  rw [if_pos (by simp [Region.wanted, hgd])]
  refine wp_store_mid ty x y ho g 0 vs.toArray hx hy ?_ (by simpa using hi) (by simpa using h1) ?_
  · intro j hj
    rw [Nat.zero_add, hg.cell, hg.frozen]
    refine ⟨?_, rfl⟩
    rw [List.getElem?_eq_getElem (by simpa [hl] using hj)]
    rfl
  · simp only [hl, Nat.zero_add, List.take_zero, List.nil_append, List.drop_length, List.append_nil] at b1
    simpa using h _ b1 b2 b3
theorem info60 : (Try.prog.info? 60).map (·.size) = some 12 := by kernel_rfl
/-- A chunk. -/
def chunkCells (a : Ab) (v qv : Value) (fo : Int) (z : Bool) : List Value := [v, .int .u32 fo, qv, .int .i64 a.st.gl, .int .i64 a.st.gc, .int .i64 a.st.src, .int .i64 a.st.ol, .int .i64 a.st.oc, .int .i64 a.st.nm, .bool a.st.has, .int .i64 a.gcol, .bool z]
set_option maxRecDepth 100000 in
set_option maxHeartbeats 8000000 in
theorem genChunk (B g bm b c : Nat) (d : Bd) (a : Ab) (v : Value) (fo : Int) (ns : List ByteArray) (TL : List Ln) (n0 : Nat) (S Z : ByteArray) (w : World) (hb : Built w B g bm d a v fo ns TL n0) (hn0 : n0 + 2 * Z.size < 800000) (hS : S.size ≤ 16384) (hZ : Z.size ≤ 16384)
    (hupd : d.upd = S.size) (hl : Lies w b (S ++ Z)) (hbg : b ≠ g) (hbv : some b ≠ v.ownBlock) (hcap : (S ++ Z).size ≤ c) (hcap2 : c ≤ 9223372036854775807) (hwf : wf Z 0 = true) :
    Calls Try.prog 30 #[.pointer (some ⟨g, 0, none⟩), .slice (some ⟨b, 0, none⟩) (S ++ Z).size c] w fun e w' => ∃ v1 fo1 z d1, e = .returned (.agg (chunkCells (Ab.upd Z 0 a) v1 d.q fo1 z).toArray) ∧ d1.q = d.q ∧ d1.asc = d.asc ∧ Built w' B g bm d1 (Ab.upd Z 0 a) v1 fo1 ns TL (n0 + 2 * Z.size) ∧ Bel B g w w' := by
  have HBU := Lib.hid hb
  have HLI := Lib.hid hl
  have HWF := Lib.hid hwf
  have HUPD := Lib.hid hupd
  have hgs : g < w.heap.size := hb.cells.lt
  have hbs : b < w.heap.size := hl.1
  have hBw := hb.B
  obtain ⟨N, hN⟩ : ∃ N, N = (S ++ Z).size := ⟨_, rfl⟩
  rw [← hN] at hcap ⊢
  have HN := Lib.hid hN
  clear hb hl hwf hupd hN
  go_enter Try.func30, Try.ntmps30
  go_upto_region 1 with fail
  obtain ⟨W, hW⟩ : ∃ W, W = w.alloc (.cells #[.slice none 0 0, .int .u32 0, .slice none 0 0, .int .i64 0, .int .i64 0, .int .i64 0, .int .i64 0, .int .i64 0, .int .i64 0, .bool false, .int .i64 0, .bool false] 60) := ⟨_, rfl⟩
  have B0 : Below w.heap.size w W := by rw [hW]; exact below_at (Below.refl _ _) _
  have K4 : Hid (Blk W w.heap.size 60 [.slice none 0 0, .int .u32 0, .slice none 0 0, .int .i64 0, .int .i64 0, .int .i64 0, .int .i64 0, .int .i64 0, .int .i64 0, .bool false, .int .i64 0, .bool false]) := Lib.hid (by rw [hW]; exact Blk.new w 60 [.slice none 0 0, .int .u32 0, .slice none 0 0, .int .i64 0, .int .i64 0, .int .i64 0, .int .i64 0, .int .i64 0, .int .i64 0, .bool false, .int .i64 0, .bool false])
  have HB1 : Hid (Built W B g bm d a v fo ns TL n0) := Lib.hid (by
    obtain ⟨h1, h2, h3, h4, h5, h6, h8⟩ := HBU.out
    exact ⟨h1.below B0 h1.lt, own_keep h2 B0, h3.below B0, h4, h5.bel (Bel.of_below hBw (B0.mono hBw)), h6, Nat.le_trans h8 B0.size⟩)
  have HL1 : Hid (Lies W b (S ++ Z)) := Lib.hid ⟨Nat.lt_of_lt_of_le hbs B0.size, fun i hi => bcell B0 hbs (HLI.out.2 i hi)⟩
  have HW0 : Hid (Bel B g w W) := Lib.hid (Bel.of_below hBw (B0.mono hBw))
  rw [show w.alloc (.cells #[.slice none 0 0, .int .u32 0, .slice none 0 0, .int .i64 0, .int .i64 0, .int .i64 0, .int .i64 0, .int .i64 0, .int .i64 0, .bool false, .int .i64 0, .bool false] 60) = W from hW.symm]
  clear hW B0 HBU HLI
  obtain ⟨b4, hb4⟩ : ∃ b4, b4 = w.heap.size := ⟨_, rfl⟩
  have hBb4 : B ≤ b4 := by omega
  rw [← hb4] at K4 hgs hbs ⊢
  clear hb4
  have HUP : Hid _ := Lib.hid (update B g b c d a v fo S Z W HB1.out.cells HB1.out.buf HB1.out.B n0 HB1.out.lim (by omega) hS hZ HUPD.out HL1.out hbg hbv (by rw [← HN.out]; exact hcap) hcap2 HWF.out)
  rw [← HN.out] at HUP
  go_wp2_with fail
  refine (HUP.out).mono ?_
  rintro e w5 ⟨rfl, v1, fo1, hup⟩
  obtain ⟨a1, ha1⟩ : ∃ a1, a1 = Ab.upd Z 0 a := ⟨_, rfl⟩
  obtain ⟨d2, hd2⟩ : ∃ d2 : Bd, d2 = { d with v := v, upd := (N : Nat) } := ⟨_, rfl⟩
  have hlim1 : a1.Lim (n0 + 2 * Z.size) := by rw [ha1]; exact Ab.Lim.upd Z Z.size 0 n0 a (by omega) HB1.out.lim (by omega)
  rw [← ha1, ← hd2] at hup
  have h4g : b4 ≠ g := fun e => blk_ne K4.out HB1.out.cells (by decide) e
  have h4v : some b4 ≠ v.ownBlock := own_ne HB1.out.buf K4.out (by decide)
  have K42 : Hid (Blk w5 b4 60 [.slice none 0 0, .int .u32 0, .slice none 0 0, .int .i64 0, .int .i64 0, .int .i64 0, .int .i64 0, .int .i64 0, .int .i64 0, .bool false, .int .i64 0, .bool false]) := Lib.hid ((show Two W w5 g v.ownBlock by have := hup.two; rw [hd2] at this; exact this).blk K4.out h4g h4v)
  obtain ⟨hb6, hlow6⟩ := HB1.out.upto hup (by rw [hd2]) hlim1 (by rw [hd2]) (by rw [hd2]) (by rw [hd2]) (by rw [hd2])
  have HB6 := Lib.hid hb6
  have HW6 : Hid (Bel B g w w5) := Lib.hid (HW0.out.trans hlow6)
  have HA1 := Lib.hid ha1
  have HDQ : Hid (d2.q = d.q ∧ d2.asc = d.asc) := Lib.hid (by rw [hd2]; exact ⟨rfl, rfl⟩)
  have HLL : Hid (a1.l.length ≤ 1000000000) := Lib.hid (by have := hlim1.len; omega)
  clear hup hlow6 ha1 hd2 hlim1 HUP HB1 HL1 HW0 K4 h4v
  obtain ⟨A1, c1, hv1⟩ := own_slice hb6.buf
  obtain ⟨qs, hrow, _⟩ := hb6.nms.row
  obtain ⟨Aq, cq, hq⟩ := own_slice hrow
  subst hv1
  have HQ := Lib.hid hq
  have k1 : w5.cell? ⟨g, 1, none⟩ = some (.slice A1 a1.l.length c1) := hb6.cells.get 1 rfl
  have HBT := Lib.hid (fun (i : Nat) (h : i < a1.l.length) => show ∃ gv x, A1 = some ⟨gv, 0, none⟩ ∧ w5.cell? ⟨gv, i, none⟩ = some (.int .u8 x) by
    obtain ⟨A', c', e, hr⟩ := own_form hb6.buf
    injection e with e1 e2 e3
    obtain ⟨gv, e', _, _, hcx⟩ := hr i (by omega)
    refine ⟨gv, ((a1.l[i]'h : Nat) : Int), by rw [e1, e'], ?_⟩
    rw [hcx, ncells, List.getElem?_map, List.getElem?_eq_getElem h]
    rfl)
  clear hb6 hrow hq
  go_upto_block 0 with fail
  go_cut [5] (fun t wx => ∃ z, t = .bool z ∧ wx = w5)
  case first =>
    go_wp2_with fail
    go_loopg [5, 16] a1.l.length (fun m zv iv wr => ∃ i : Nat, i + m = a1.l.length ∧ zv = .bool true ∧ iv = .int .i64 i ∧ wr = w5)
    case atStart => exact ⟨0, by omega, rfl, rfl, rfl⟩
    case round =>
      obtain ⟨i, him, rfl, rfl, rfl⟩ := hrel
      have hll := HLL.out
      by_cases hi : i < a1.l.length
      · obtain ⟨gv, x, hA, hx⟩ := HBT.out i hi
        have hi' : (i : Int) < a1.l.length := by omega
        subst hA
        obtain ⟨zx, hzx⟩ : ∃ zx, (x != 59) = zx := ⟨_, rfl⟩
        cases zx with
        | true =>
          go_wp2_with fail
          go_meet
          exact ⟨_, rfl, rfl⟩
        | false =>
          go_wp2_with fail
          go_roundg (a1.l.length - (i + 1))
          case rel => exact ⟨i + 1, by omega, rfl, rfl, rfl⟩
          case measure => omega
      · have hi' : ¬ (i : Int) < a1.l.length := by omega
        go_wp2_with fail
        go_meet
        exact ⟨_, rfl, rfl⟩
  case rest =>
    obtain ⟨z, rfl, rfl⟩ := hcut
    obtain ⟨W5, hW5⟩ : ∃ W5, W5 = wc := ⟨_, rfl⟩
    subst hW5
    clear k1 HBT
    go_upto_region 9 with fail
    have s1 : W5.drew.cell? ⟨g, 1, none⟩ = some (.slice A1 a1.l.length c1) := HB6.out.cells.get 1 rfl
    have s17 : W5.drew.cell? ⟨g, 17, none⟩ = some (.int .u32 fo1) := HB6.out.cells.get 17 rfl
    have s2 : W5.drew.cell? ⟨g, 2, none⟩ = some (.slice Aq ns.length cq) := by rw [← HQ.out]; exact HB6.out.cells.get 2 rfl
    have s6 : W5.drew.cell? ⟨g, 6, none⟩ = some (.int .i64 a1.st.gl) := HB6.out.cells.get 6 rfl
    have s7 : W5.drew.cell? ⟨g, 7, none⟩ = some (.int .i64 a1.st.gc) := HB6.out.cells.get 7 rfl
    have s8 : W5.drew.cell? ⟨g, 8, none⟩ = some (.int .i64 a1.st.src) := HB6.out.cells.get 8 rfl
    have s9 : W5.drew.cell? ⟨g, 9, none⟩ = some (.int .i64 a1.st.ol) := HB6.out.cells.get 9 rfl
    have s10 : W5.drew.cell? ⟨g, 10, none⟩ = some (.int .i64 a1.st.oc) := HB6.out.cells.get 10 rfl
    have s11 : W5.drew.cell? ⟨g, 11, none⟩ = some (.int .i64 a1.st.nm) := HB6.out.cells.get 11 rfl
    have s12 : W5.drew.cell? ⟨g, 12, none⟩ = some (.bool a1.st.has) := HB6.out.cells.get 12 rfl
    have s14 : W5.drew.cell? ⟨g, 14, none⟩ = some (.int .i64 a1.gcol) := HB6.out.cells.get 14 rfl
    refine Hoist.start (S := fun _ w' => w'.cell? ⟨g, 1, none⟩ = some (.slice A1 a1.l.length c1) ∧ w'.cell? ⟨g, 17, none⟩ = some (.int .u32 fo1) ∧ w'.cell? ⟨g, 2, none⟩ = some (.slice Aq ns.length cq) ∧ w'.cell? ⟨g, 6, none⟩ = some (.int .i64 a1.st.gl) ∧ w'.cell? ⟨g, 7, none⟩ = some (.int .i64 a1.st.gc) ∧ w'.cell? ⟨g, 8, none⟩ = some (.int .i64 a1.st.src) ∧ w'.cell? ⟨g, 9, none⟩ = some (.int .i64 a1.st.ol) ∧ w'.cell? ⟨g, 10, none⟩ = some (.int .i64 a1.st.oc) ∧ w'.cell? ⟨g, 11, none⟩ = some (.int .i64 a1.st.nm) ∧ w'.cell? ⟨g, 12, none⟩ = some (.bool a1.st.has) ∧ w'.cell? ⟨g, 14, none⟩ = some (.int .i64 a1.gcol)) (by kernel_rfl) ?_
    refine Hoist.takeS (i := 0) (v := ?va0) rfl (by kernel_rfl) (by kernel_rfl) (by kernel_rfl) (fun _ _ _ h => h) ⟨by rfl, ?hya0⟩ ⟨s1, s17, s2, s6, s7, s8, s9, s10, s11, s12, s14⟩ ?resta0
    case hya0 =>
      intro w' hSw
      obtain ⟨s1, s17, s2, s6, s7, s8, s9, s10, s11, s12, s14⟩ := hSw
      go_simp
      rfl
    simp only [Act.put, List.setIfInBounds_toArray, List.set_cons_zero, List.set_cons_succ]
    refine Hoist.takeS (i := 1) (v := ?va1) rfl (by kernel_rfl) (by kernel_rfl) (by kernel_rfl) (fun _ _ _ h => h) ⟨by rfl, ?hya1⟩ ⟨s1, s17, s2, s6, s7, s8, s9, s10, s11, s12, s14⟩ ?resta1
    case hya1 =>
      intro w' hSw
      obtain ⟨s1, s17, s2, s6, s7, s8, s9, s10, s11, s12, s14⟩ := hSw
      go_simp
      rfl
    simp only [Act.put, List.setIfInBounds_toArray, List.set_cons_zero, List.set_cons_succ]
    refine Hoist.takeS (i := 2) (v := ?va2) rfl (by kernel_rfl) (by kernel_rfl) (by kernel_rfl) (fun _ _ _ h => h) ⟨by rfl, ?hya2⟩ ⟨s1, s17, s2, s6, s7, s8, s9, s10, s11, s12, s14⟩ ?resta2
    case hya2 =>
      intro w' hSw
      obtain ⟨s1, s17, s2, s6, s7, s8, s9, s10, s11, s12, s14⟩ := hSw
      go_simp
      rfl
    simp only [Act.put, List.setIfInBounds_toArray, List.set_cons_zero, List.set_cons_succ]
    refine Hoist.takeS (i := 3) (v := ?va3) rfl (by kernel_rfl) (by kernel_rfl) (by kernel_rfl) (fun _ _ _ h => h) ⟨by rfl, ?hya3⟩ ⟨s1, s17, s2, s6, s7, s8, s9, s10, s11, s12, s14⟩ ?resta3
    case hya3 =>
      intro w' hSw
      obtain ⟨s1, s17, s2, s6, s7, s8, s9, s10, s11, s12, s14⟩ := hSw
      go_simp
      rfl
    simp only [Act.put, List.setIfInBounds_toArray, List.set_cons_zero, List.set_cons_succ]
    refine Hoist.takeS (i := 4) (v := ?va4) rfl (by kernel_rfl) (by kernel_rfl) (by kernel_rfl) (fun _ _ _ h => h) ⟨by rfl, ?hya4⟩ ⟨s1, s17, s2, s6, s7, s8, s9, s10, s11, s12, s14⟩ ?resta4
    case hya4 =>
      intro w' hSw
      obtain ⟨s1, s17, s2, s6, s7, s8, s9, s10, s11, s12, s14⟩ := hSw
      go_simp
      rfl
    simp only [Act.put, List.setIfInBounds_toArray, List.set_cons_zero, List.set_cons_succ]
    refine Hoist.takeS (i := 5) (v := ?va5) rfl (by kernel_rfl) (by kernel_rfl) (by kernel_rfl) (fun _ _ _ h => h) ⟨by rfl, ?hya5⟩ ⟨s1, s17, s2, s6, s7, s8, s9, s10, s11, s12, s14⟩ ?resta5
    case hya5 =>
      intro w' hSw
      obtain ⟨s1, s17, s2, s6, s7, s8, s9, s10, s11, s12, s14⟩ := hSw
      go_simp
      rfl
    simp only [Act.put, List.setIfInBounds_toArray, List.set_cons_zero, List.set_cons_succ]
    refine Hoist.takeS (i := 6) (v := ?va6) rfl (by kernel_rfl) (by kernel_rfl) (by kernel_rfl) (fun _ _ _ h => h) ⟨by rfl, ?hya6⟩ ⟨s1, s17, s2, s6, s7, s8, s9, s10, s11, s12, s14⟩ ?resta6
    case hya6 =>
      intro w' hSw
      obtain ⟨s1, s17, s2, s6, s7, s8, s9, s10, s11, s12, s14⟩ := hSw
      go_simp
      rfl
    simp only [Act.put, List.setIfInBounds_toArray, List.set_cons_zero, List.set_cons_succ]
    refine Hoist.takeS (i := 7) (v := ?va7) rfl (by kernel_rfl) (by kernel_rfl) (by kernel_rfl) (fun _ _ _ h => h) ⟨by rfl, ?hya7⟩ ⟨s1, s17, s2, s6, s7, s8, s9, s10, s11, s12, s14⟩ ?resta7
    case hya7 =>
      intro w' hSw
      obtain ⟨s1, s17, s2, s6, s7, s8, s9, s10, s11, s12, s14⟩ := hSw
      go_simp
      rfl
    simp only [Act.put, List.setIfInBounds_toArray, List.set_cons_zero, List.set_cons_succ]
    refine Hoist.takeS (i := 8) (v := ?va8) rfl (by kernel_rfl) (by kernel_rfl) (by kernel_rfl) (fun _ _ _ h => h) ⟨by rfl, ?hya8⟩ ⟨s1, s17, s2, s6, s7, s8, s9, s10, s11, s12, s14⟩ ?resta8
    case hya8 =>
      intro w' hSw
      obtain ⟨s1, s17, s2, s6, s7, s8, s9, s10, s11, s12, s14⟩ := hSw
      go_simp
      rfl
    simp only [Act.put, List.setIfInBounds_toArray, List.set_cons_zero, List.set_cons_succ]
    refine Hoist.takeS (i := 9) (v := ?va9) rfl (by kernel_rfl) (by kernel_rfl) (by kernel_rfl) (fun _ _ _ h => h) ⟨by rfl, ?hya9⟩ ⟨s1, s17, s2, s6, s7, s8, s9, s10, s11, s12, s14⟩ ?resta9
    case hya9 =>
      intro w' hSw
      obtain ⟨s1, s17, s2, s6, s7, s8, s9, s10, s11, s12, s14⟩ := hSw
      go_simp
      rfl
    simp only [Act.put, List.setIfInBounds_toArray, List.set_cons_zero, List.set_cons_succ]
    refine Hoist.takeS (i := 10) (v := ?va10) rfl (by kernel_rfl) (by kernel_rfl) (by kernel_rfl) (fun _ _ _ h => h) ⟨by rfl, ?hya10⟩ ⟨s1, s17, s2, s6, s7, s8, s9, s10, s11, s12, s14⟩ ?resta10
    case hya10 =>
      intro w' hSw
      obtain ⟨s1, s17, s2, s6, s7, s8, s9, s10, s11, s12, s14⟩ := hSw
      go_simp
      rfl
    simp only [Act.put, List.setIfInBounds_toArray, List.set_cons_zero, List.set_cons_succ]
    refine Hoist.takeS (i := 11) (v := ?va11) rfl (by kernel_rfl) (by kernel_rfl) (by kernel_rfl) (fun _ _ _ h => h) ⟨by rfl, ?hya11⟩ ⟨s1, s17, s2, s6, s7, s8, s9, s10, s11, s12, s14⟩ ?resta11
    case hya11 =>
      intro w' hSw
      obtain ⟨s1, s17, s2, s6, s7, s8, s9, s10, s11, s12, s14⟩ := hSw
      go_simp
      rfl
    simp only [Act.put, List.setIfInBounds_toArray, List.set_cons_zero, List.set_cons_succ]
    refine Hoist.takeS (i := 12) (v := ?va12) rfl (by kernel_rfl) (by kernel_rfl) (by kernel_rfl) (fun _ _ _ h => h) ⟨by rfl, ?hya12⟩ ⟨s1, s17, s2, s6, s7, s8, s9, s10, s11, s12, s14⟩ ?resta12
    case hya12 =>
      intro w' hSw
      obtain ⟨s1, s17, s2, s6, s7, s8, s9, s10, s11, s12, s14⟩ := hSw
      go_simp
      rfl
    simp only [Act.put, List.setIfInBounds_toArray, List.set_cons_zero, List.set_cons_succ]
    refine Hoist.takeS (i := 13) (v := ?va13) rfl (by kernel_rfl) (by kernel_rfl) (by kernel_rfl) (fun _ _ _ h => h) ⟨by rfl, ?hya13⟩ ⟨s1, s17, s2, s6, s7, s8, s9, s10, s11, s12, s14⟩ ?resta13
    case hya13 =>
      intro w' hSw
      obtain ⟨s1, s17, s2, s6, s7, s8, s9, s10, s11, s12, s14⟩ := hSw
      go_simp
      rfl
    simp only [Act.put, List.setIfInBounds_toArray, List.set_cons_zero, List.set_cons_succ]
    refine Hoist.takeS (i := 14) (v := ?va14) rfl (by kernel_rfl) (by kernel_rfl) (by kernel_rfl) (fun _ _ _ h => h) ⟨by rfl, ?hya14⟩ ⟨s1, s17, s2, s6, s7, s8, s9, s10, s11, s12, s14⟩ ?resta14
    case hya14 =>
      intro w' hSw
      obtain ⟨s1, s17, s2, s6, s7, s8, s9, s10, s11, s12, s14⟩ := hSw
      go_simp
      rfl
    simp only [Act.put, List.setIfInBounds_toArray, List.set_cons_zero, List.set_cons_succ]
    refine Hoist.takeS (i := 15) (v := ?va15) rfl (by kernel_rfl) (by kernel_rfl) (by kernel_rfl) (fun _ _ _ h => h) ⟨by rfl, ?hya15⟩ ⟨s1, s17, s2, s6, s7, s8, s9, s10, s11, s12, s14⟩ ?resta15
    case hya15 =>
      intro w' hSw
      obtain ⟨s1, s17, s2, s6, s7, s8, s9, s10, s11, s12, s14⟩ := hSw
      go_simp
      rfl
    simp only [Act.put, List.setIfInBounds_toArray, List.set_cons_zero, List.set_cons_succ]
    refine Hoist.takeS (i := 16) (v := ?va16) rfl (by kernel_rfl) (by kernel_rfl) (by kernel_rfl) (fun _ _ _ h => h) ⟨by rfl, ?hya16⟩ ⟨s1, s17, s2, s6, s7, s8, s9, s10, s11, s12, s14⟩ ?resta16
    case hya16 =>
      intro w' hSw
      obtain ⟨s1, s17, s2, s6, s7, s8, s9, s10, s11, s12, s14⟩ := hSw
      go_simp
      rfl
    simp only [Act.put, List.setIfInBounds_toArray, List.set_cons_zero, List.set_cons_succ]
    refine Hoist.takeS (i := 17) (v := ?va17) rfl (by kernel_rfl) (by kernel_rfl) (by kernel_rfl) (fun _ _ _ h => h) ⟨by rfl, ?hya17⟩ ⟨s1, s17, s2, s6, s7, s8, s9, s10, s11, s12, s14⟩ ?resta17
    case hya17 =>
      intro w' hSw
      obtain ⟨s1, s17, s2, s6, s7, s8, s9, s10, s11, s12, s14⟩ := hSw
      go_simp
      rfl
    simp only [Act.put, List.setIfInBounds_toArray, List.set_cons_zero, List.set_cons_succ]
    refine Hoist.takeS (i := 18) (v := ?va18) rfl (by kernel_rfl) (by kernel_rfl) (by kernel_rfl) (fun _ _ _ h => h) ⟨by rfl, ?hya18⟩ ⟨s1, s17, s2, s6, s7, s8, s9, s10, s11, s12, s14⟩ ?resta18
    case hya18 =>
      intro w' hSw
      obtain ⟨s1, s17, s2, s6, s7, s8, s9, s10, s11, s12, s14⟩ := hSw
      go_simp
      rfl
    simp only [Act.put, List.setIfInBounds_toArray, List.set_cons_zero, List.set_cons_succ]
    refine Hoist.takeS (i := 19) (v := ?va19) rfl (by kernel_rfl) (by kernel_rfl) (by kernel_rfl) (fun _ _ _ h => h) ⟨by rfl, ?hya19⟩ ⟨s1, s17, s2, s6, s7, s8, s9, s10, s11, s12, s14⟩ ?resta19
    case hya19 =>
      intro w' hSw
      obtain ⟨s1, s17, s2, s6, s7, s8, s9, s10, s11, s12, s14⟩ := hSw
      go_simp
      rfl
    simp only [Act.put, List.setIfInBounds_toArray, List.set_cons_zero, List.set_cons_succ]
    refine Hoist.takeS (i := 20) (v := ?va20) rfl (by kernel_rfl) (by kernel_rfl) (by kernel_rfl) (fun _ _ _ h => h) ⟨by rfl, ?hya20⟩ ⟨s1, s17, s2, s6, s7, s8, s9, s10, s11, s12, s14⟩ ?resta20
    case hya20 =>
      intro w' hSw
      obtain ⟨s1, s17, s2, s6, s7, s8, s9, s10, s11, s12, s14⟩ := hSw
      go_simp
      rfl
    simp only [Act.put, List.setIfInBounds_toArray, List.set_cons_zero, List.set_cons_succ]
    refine Hoist.takeS (i := 21) (v := ?va21) rfl (by kernel_rfl) (by kernel_rfl) (by kernel_rfl) (fun _ _ _ h => h) ⟨by rfl, ?hya21⟩ ⟨s1, s17, s2, s6, s7, s8, s9, s10, s11, s12, s14⟩ ?resta21
    case hya21 =>
      intro w' hSw
      obtain ⟨s1, s17, s2, s6, s7, s8, s9, s10, s11, s12, s14⟩ := hSw
      go_simp
      rfl
    simp only [Act.put, List.setIfInBounds_toArray, List.set_cons_zero, List.set_cons_succ]
    refine Hoist.only (i := 22) rfl (by kernel_rfl) ?_
    intro K' hK
    go_simp
    refine hK _ _ ⟨s1, s17, s2, s6, s7, s8, s9, s10, s11, s12, s14⟩ ?_
    clear hK K'
    refine Hoist.only (i := 23) rfl (by kernel_rfl) ?_
    intro K' hK
    have hone : ∀ u ∈ ([.slice A1 a1.l.length c1, .int .u32 fo1, .slice Aq ns.length cq, .int .i64 a1.st.gl, .int .i64 a1.st.gc, .int .i64 a1.st.src, .int .i64 a1.st.ol, .int .i64 a1.st.oc, .int .i64 a1.st.nm, .bool a1.st.has, .int .i64 a1.gcol, .bool z] : List Value), u.oneCell' = true := by
      intro u hu
      simp only [List.mem_cons, List.not_mem_nil, or_false] at hu
      rcases hu with rfl | rfl | rfl | rfl | rfl | rfl | rfl | rfl | rfl | rfl | rfl | rfl <;> rfl
    refine step_store_blk (by rfl) 60 (.tmp 4) (.tmp 45) (by rfl) b4 [.slice none 0 0, .int .u32 0, .slice none 0 0, .int .i64 0, .int .i64 0, .int .i64 0, .int .i64 0, .int .i64 0, .int .i64 0, .bool false, .int .i64 0, .bool false] [.slice A1 a1.l.length c1, .int .u32 fo1, .slice Aq ns.length cq, .int .i64 a1.st.gl, .int .i64 a1.st.gc, .int .i64 a1.st.src, .int .i64 a1.st.ol, .int .i64 a1.st.oc, .int .i64 a1.st.nm, .bool a1.st.has, .int .i64 a1.gcol, .bool z] 60 (by rfl) (by rfl) (show Blk W5.drew b4 60 _ from K42.out) rfl info60 hone ?_
    intro w6 k6 g6 _
    have HB9 : Hid (Built w6 B g bm d2 a1 (.slice A1 a1.l.length c1) fo1 ns TL (n0 + 2 * Z.size)) := Lib.hid (by
      obtain ⟨h1, h2, h3, h4, h5, h6, h8⟩ := HB6.out.drewN 1
      have K43 : Blk (W5.drewN 1) b4 60 [.slice none 0 0, .int .u32 0, .slice none 0 0, .int .i64 0, .int .i64 0, .int .i64 0, .int .i64 0, .int .i64 0, .int .i64 0, .bool false, .int .i64 0, .bool false] := K42.out
      have g7 : (W5.drewN 1).grownBy w6 (some b4) := g6
      exact ⟨h1.grown g7 (by intro e; injection e with e; exact h4g e.symm), h2.kept g7 (.inr fun e => own_ne h2 K43 (by decide) e.symm), h3.cells K43 (by decide) (by decide) g7, h4, h5.bel ((Bel.refl g h8).only g7 (fun k hk => .inl (by injection hk with hk; omega))), h6, Nat.le_trans h8 g7.size⟩)
    have HW9 : Hid (Bel B g w w6) := Lib.hid ((HW6.out.below (below_drewN (Below.refl _ _) 1)).only (show (W5.drewN 1).grownBy w6 (some b4) from g6) (fun k hk => .inl (by injection hk with hk; omega)))
    have HK9 := Lib.hid k6
    clear g6 k6 hone s1 s17 s2 s6 s7 s8 s9 s10 s11 s12 s14
    have s1 : w6.cell? ⟨g, 1, none⟩ = some (.slice A1 a1.l.length c1) := HB9.out.cells.get 1 rfl
    have s17 : w6.cell? ⟨g, 17, none⟩ = some (.int .u32 fo1) := HB9.out.cells.get 17 rfl
    have s2 : w6.cell? ⟨g, 2, none⟩ = some (.slice Aq ns.length cq) := by rw [← HQ.out]; exact HB9.out.cells.get 2 rfl
    have s6 : w6.cell? ⟨g, 6, none⟩ = some (.int .i64 a1.st.gl) := HB9.out.cells.get 6 rfl
    have s7 : w6.cell? ⟨g, 7, none⟩ = some (.int .i64 a1.st.gc) := HB9.out.cells.get 7 rfl
    have s8 : w6.cell? ⟨g, 8, none⟩ = some (.int .i64 a1.st.src) := HB9.out.cells.get 8 rfl
    have s9 : w6.cell? ⟨g, 9, none⟩ = some (.int .i64 a1.st.ol) := HB9.out.cells.get 9 rfl
    have s10 : w6.cell? ⟨g, 10, none⟩ = some (.int .i64 a1.st.oc) := HB9.out.cells.get 10 rfl
    have s11 : w6.cell? ⟨g, 11, none⟩ = some (.int .i64 a1.st.nm) := HB9.out.cells.get 11 rfl
    have s12 : w6.cell? ⟨g, 12, none⟩ = some (.bool a1.st.has) := HB9.out.cells.get 12 rfl
    have s14 : w6.cell? ⟨g, 14, none⟩ = some (.int .i64 a1.gcol) := HB9.out.cells.get 14 rfl
    refine hK _ _ ⟨s1, s17, s2, s6, s7, s8, s9, s10, s11, s12, s14⟩ ?_
    simp only [Act.put, List.setIfInBounds_toArray, List.set_cons_zero, List.set_cons_succ]
    clear hK K'
    refine Hoist.over (by kernel_rfl) ?_ _
    clear s1 s17 s2 s6 s7 s8 s9 s10 s11 s12 s14
    have z0 : w6.cell? ⟨b4, 0, none⟩ = some (.slice A1 a1.l.length c1) := HK9.out.get 0 rfl
    have z1 : w6.cell? ⟨b4, 1, none⟩ = some (.int .u32 fo1) := HK9.out.get 1 rfl
    have z2 : w6.cell? ⟨b4, 2, none⟩ = some (.slice Aq ns.length cq) := HK9.out.get 2 rfl
    have z3 : w6.cell? ⟨b4, 3, none⟩ = some (.int .i64 a1.st.gl) := HK9.out.get 3 rfl
    have z4 : w6.cell? ⟨b4, 4, none⟩ = some (.int .i64 a1.st.gc) := HK9.out.get 4 rfl
    have z5 : w6.cell? ⟨b4, 5, none⟩ = some (.int .i64 a1.st.src) := HK9.out.get 5 rfl
    have z6 : w6.cell? ⟨b4, 6, none⟩ = some (.int .i64 a1.st.ol) := HK9.out.get 6 rfl
    have z7 : w6.cell? ⟨b4, 7, none⟩ = some (.int .i64 a1.st.oc) := HK9.out.get 7 rfl
    have z8 : w6.cell? ⟨b4, 8, none⟩ = some (.int .i64 a1.st.nm) := HK9.out.get 8 rfl
    have z9 : w6.cell? ⟨b4, 9, none⟩ = some (.bool a1.st.has) := HK9.out.get 9 rfl
    have z10 : w6.cell? ⟨b4, 10, none⟩ = some (.int .i64 a1.gcol) := HK9.out.get 10 rfl
    have z11 : w6.cell? ⟨b4, 11, none⟩ = some (.bool z) := HK9.out.get 11 rfl
    go_wp2_with fail
    refine bodyPost_ret (v := .agg #[.slice A1 a1.l.length c1, .int .u32 fo1, .slice Aq ns.length cq, .int .i64 a1.st.gl, .int .i64 a1.st.gc, .int .i64 a1.st.src, .int .i64 a1.st.ol, .int .i64 a1.st.oc, .int .i64 a1.st.nm, .bool a1.st.has, .int .i64 a1.gcol, .bool z]) (by simp [results, Try.results30, z0, z1, z2, z3, z4, z5, z6, z7, z8, z9, z10, z11, go_sem]; done) rfl ?_
    refine ⟨.slice A1 a1.l.length c1, fo1, z, d2, ?_, HDQ.out.1, HDQ.out.2, by rw [← HA1.out]; exact HB9.out, HW9.out⟩
    rw [← HDQ.out.1, HQ.out, ← HA1.out]
    rfl
end Go.Proofs.Ytobhlppdolekoaa.Ch
