/- AddSourceMapping. The walk. -/
import Derived.Test.YtobhlppdolekoaaChQ
namespace Go.Proofs.Ytobhlppdolekoaa.Ch
open Go.RowKit Go.Proofs.Ytobhlppdolekoaa.Aid Go.Proofs.Ytobhlppdolekoaa.Bytes Go.Proofs.Ytobhlppdolekoaa.Runes Go.Proofs.Ytobhlppdolekoaa.Wtf
attribute [local go_sem ↓] Go.wp_at_zero Go.wp_at_succ
set_option linter.unusedVariables false
set_option linter.unusedSimpArgs false
def AddPost (w' : World) (B g bm : Nat) (d : Bd) (a : Ab) (v : Value) (fo : Int) (ns : List ByteArray) (TL : List Ln) (n0 N : Nat) (Z nm : ByteArray) (loc L C : Nat) : Prop :=
  ((d.ploc = loc ∧ d.pn = nm) → Built w' B g bm d a v fo ns TL n0) ∧
  (¬ (d.ploc = loc ∧ d.pn = nm) → ∃ v' fo' qv q, Named (put ns nm) nm ((Ab.upd Z 0 a).cov0.spot L C) q ∧ Built w' B g bm { d with q := qv, upd := (N : Nat), pn := nm, plen := (N : Nat), ploc := loc } ((Ab.upd Z 0 a).cov0.mark q) v' fo' (put ns nm) TL (n0 + 2 * Z.size + 2))
set_option maxRecDepth 100000 in
set_option maxHeartbeats 8000000 in
theorem addMapping (B g bm b c : Nat) (d : Bd) (a : Ab) (v : Value) (fo : Int) (ns : List ByteArray) (TL : List Ln) (n0 : Nat) (S Z nm : ByteArray) (loc L C : Nat) (w : World) (hb : Built w B g bm d a v fo ns TL n0) (hn0 : n0 + 2 * Z.size < 800000) (hS : S.size ≤ 16384) (hZ : Z.size ≤ 16384)
    (hupd : d.upd = S.size) (hl : Lies w b (S ++ Z)) (hBb : B ≤ b) (hbg : b ≠ g) (hbv : some b ≠ v.ownBlock) (hcap : (S ++ Z).size ≤ c) (hcap2 : c ≤ 9223372036854775807) (hwf : wf Z 0 = true) (hloc : loc ≤ 16384) (hLC : Lies2 TL loc L C) (hTL : TL.length ≤ 100000) (hC : C ≤ 100000)
    (hns : ns.length ≤ 1000) (hnm : nm.size ≤ 1000) (hfit : Fit (nats nm)) (hpl : d.plen ≠ (S ++ Z).size ∨ d.ploc ≠ loc) :
    Calls Try.prog 29 #[.pointer (some ⟨g, 0, none⟩), .agg #[.int .i32 loc], .string nm, .slice (some ⟨b, 0, none⟩) (S ++ Z).size c] w fun e w' => e = .returned (.tuple #[]) ∧ Bel B g w w' ∧
AddPost w' B g bm d a v fo ns TL n0 (S ++ Z).size Z nm loc L C := by
  have HBU := Lib.hid hb
  have HLI := Lib.hid hl
  have HWF := Lib.hid hwf
  have HLC := Lib.hid hLC
  have HFIT := Lib.hid hfit
  have HUPD := Lib.hid hupd
  have HPL := Lib.hid hpl
  have hgs : g < w.heap.size := hb.cells.lt
  have hbs : b < w.heap.size := hl.1
  have hBw := hb.B
  obtain ⟨N, hN⟩ : ∃ N, N = (S ++ Z).size := ⟨_, rfl⟩
  rw [← hN] at hcap HPL ⊢
  have HN := Lib.hid hN
  clear hb hl hwf hLC hfit hupd hpl hN
  go_enter Try.func29, Try.ntmps29
  go_upto_region 1 with fail
  obtain ⟨W, hW⟩ : ∃ W, W = w.alloc (.cells #[.int .i32 loc] 81) := ⟨_, rfl⟩
  have B0 : Below w.heap.size w W := by rw [hW]; exact below_at (Below.refl _ _) _
  have K5 : Hid (Blk W w.heap.size 81 [.int .i32 loc]) := Lib.hid (by rw [hW]; exact Blk.new w 81 [.int .i32 loc])
  have HB1 : Hid (Built W B g bm d a v fo ns TL n0) := Lib.hid (by
    obtain ⟨h1, h2, h3, h4, h5, h6, h8⟩ := HBU.out
    exact ⟨h1.below B0 h1.lt, own_keep h2 B0, h3.below B0, h4, h5.bel (Bel.of_below hBw (B0.mono hBw)), h6, Nat.le_trans h8 B0.size⟩)
  have HL1 : Hid (Lies W b (S ++ Z)) := Lib.hid ⟨Nat.lt_of_lt_of_le hbs B0.size, fun i hi => bcell B0 hbs (HLI.out.2 i hi)⟩
  have HW0 : Hid (Bel B g w W) := Lib.hid (Bel.of_below hBw (B0.mono hBw))
  rw [show w.alloc (.cells #[.int .i32 loc] 81) = W from hW.symm]
  clear hW B0 HBU HLI
  obtain ⟨b5, hb5⟩ : ∃ b5, b5 = w.heap.size := ⟨_, rfl⟩
  have hBb5 : B ≤ b5 := by omega
  rw [← hb5] at K5 hgs hbs ⊢
  clear hb5
  have c16 : W.cell? ⟨g, 16, none⟩ = some (.int .i32 d.ploc) := HB1.out.cells.get 16 rfl
  have c15 : W.cell? ⟨g, 15, none⟩ = some (.int .i64 d.plen) := HB1.out.cells.get 15 rfl
  have c5 : W.cell? ⟨g, 5, none⟩ = some (.string d.pn) := HB1.out.cells.get 5 rfl
  have l0 : W.cell? ⟨b5, 0, none⟩ = some (.int .i32 loc) := K5.out.get 0 rfl
  obtain ⟨zs, hzs⟩ : ∃ zs, zs = decide (d.ploc = loc ∧ d.pn = nm) := ⟨_, rfl⟩
  have HZS := Lib.hid hzs
  clear hzs
  go_cut [37] (fun t wx => t = .bool zs ∧ ∃ n, wx = W.drewN n)
  case first =>
    by_cases he : d.ploc = loc
    · have hne : ¬ d.plen = N := by
        rcases HPL.out with h | h
        · exact h
        · exact absurd he h
      have q1 : ((loc : Int) == d.ploc) = true := by simp [he]
      have q2 : (d.plen == (N : Int)) = false := by simp [hne]
      have HE : Hid (zs = decide (d.pn = nm)) := Lib.hid (by rw [HZS.out]; simp [he])
      clear he
      go_quiet (fail)
      go_wp2_with fail
      go_meet
      exact ⟨by rw [HE.out, toList_beq], nq, rfl⟩
    · have q1 : ((loc : Int) == d.ploc) = false := by
        simp
        exact fun h => he h.symm
      have HE : Hid (zs = false) := Lib.hid (by rw [HZS.out]; simp [he])
      clear he
      go_quiet (fail)
      go_wp2_with fail
      go_meet
      exact ⟨by rw [HE.out], nq, rfl⟩
  case rest =>
    obtain ⟨rfl, n, rfl⟩ := hcut
    cases zs with
    | true =>
      have HIF : Hid (d.ploc = loc ∧ d.pn = nm) := Lib.hid (by have := HZS.out; simpa using this.symm)
      have HD := Lib.hid (HB1.out.drewN n)
      have HDB : Hid (Bel B g w (W.drewN n)) := Lib.hid (HW0.out.below (below_drewN (Below.refl _ _) n))
      clear c16 c15 c5 l0
      go_wp2_with fail
      go_returns
      exact ⟨rfl, HDB.out, fun _ => HD.out, fun h => absurd HIF.out h⟩
    | false =>
      have HIF : Hid (¬ (d.ploc = loc ∧ d.pn = nm)) := Lib.hid (by have := HZS.out; simpa using this.symm)
      obtain ⟨W0, hW0⟩ : ∃ W0, W0 = W.drewN n := ⟨_, rfl⟩
      have HB2 : Hid (Built W0 B g bm d a v fo ns TL n0) := Lib.hid (by rw [hW0]; exact HB1.out.drewN n)
      have HL2 : Hid (Lies W0 b (S ++ Z)) := Lib.hid (by rw [hW0]; exact HL1.out)
      have HW2 : Hid (Bel B g w W0) := Lib.hid (by rw [hW0]; exact HW0.out.below (below_drewN (Below.refl _ _) n))
      have K52 : Hid (Blk W0 b5 81 [.int .i32 loc]) := Lib.hid (by rw [hW0]; exact K5.out)
      rw [← hW0]
      clear hW0 c16 c15 c5 l0 HB1 HL1 HW0 K5
      have l0 : W0.cell? ⟨b5, 0, none⟩ = some (.int .i32 loc) := K52.out.get 0 rfl
      have z16 : W0.cell? ⟨g, 16, none⟩ = some (.int .i32 d.ploc) := HB2.out.cells.get 16 rfl
      have z15 : W0.cell? ⟨g, 15, none⟩ = some (.int .i64 d.plen) := HB2.out.cells.get 15 rfl
      have z5 : W0.cell? ⟨g, 5, none⟩ = some (.string d.pn) := HB2.out.cells.get 5 rfl
      have f16 := HB2.out.cells.frozen 16
      have f15 := HB2.out.cells.frozen 15
      have f5 := HB2.out.cells.frozen 5
      go_upto_region 5 with fail
      obtain ⟨W1, hW1⟩ : ∃ W1, W1 = (((W0.setCell ⟨g, 16, none⟩ (.int .i32 loc)).setCell ⟨g, 15, none⟩ (.int .i64 N)).setCell ⟨g, 5, none⟩ (.string nm)) := ⟨_, rfl⟩
      obtain ⟨d1, hd1⟩ : ∃ d1 : Bd, d1 = { d with pn := nm, plen := (N : Nat), ploc := loc } := ⟨_, rfl⟩
      have HD1 := Lib.hid hd1
      have HB3 : Hid (Built W1 B g bm d1 a v fo ns TL n0) := Lib.hid (by
        rw [hW1]
        have s1 := HB2.out.set (d' := { d with ploc := loc }) (a' := a) (n' := n0) 16 (.int .i32 loc) rfl rfl rfl rfl rfl rfl HB2.out.lim
        have s2 := s1.set (d' := { d with ploc := loc, plen := (N : Nat) }) (a' := a) (n' := n0) 15 (.int .i64 N) rfl rfl rfl rfl rfl rfl HB2.out.lim
        exact s2.set (d' := d1) (a' := a) (n' := n0) 5 (.string nm) (by rw [hd1]; rfl) rfl (by rw [hd1]) (by rw [hd1]) (by rw [hd1]) (by rw [hd1]) HB2.out.lim)
      have g1 : W0.grownBy W1 (some g) := by
        rw [hW1]
        exact only_setCell (p := ⟨g, 5, none⟩) (only_setCell (p := ⟨g, 15, none⟩) (only_setCell (p := ⟨g, 16, none⟩) (World.grownBy.refl _ _) (.inl rfl) _) (.inl rfl) _) (.inl rfl) _
      have HL3 : Hid (Lies W1 b (S ++ Z)) := Lib.hid ⟨Nat.lt_of_lt_of_le HL2.out.1 g1.size, fun i hi => (World.cell?_of_block (a := ⟨b, i, none⟩) (g1.block b HL2.out.1 (by intro e; injection e with e; exact hbg e))).trans (HL2.out.2 i hi)⟩
      have HW3 : Hid (Bel B g w W1) := Lib.hid (HW2.out.only g1 (fun k hk => .inr (by injection hk with hk; exact hk.symm)))
      have K53 : Hid (Blk W1 b5 81 [.int .i32 loc]) := Lib.hid (K52.out.grown g1 (by intro e; injection e with e; omega))
      have HUP1 : Hid (d1.upd = (S.size : Nat)) := Lib.hid (by rw [hd1]; exact HUPD.out)
      rw [← hW1]
      clear hW1 hd1 g1 z16 z15 z5 f16 f15 f5 l0 HB2 HL2 HW2 K52 HUPD HPL
      obtain ⟨gt, ct, hT, hgt, hLN⟩ := HB3.out.lines
      have HLN := Lib.hid hLN
      have cT : W1.cell? ⟨g, 4, none⟩ = some (.slice (some ⟨gt, 0, none⟩) TL.length ct) := by rw [← hT]; exact HB3.out.cells.get 4 rfl
      have HTT := Lib.hid hT
      clear hLN hT
      obtain ⟨nT, hnT⟩ : ∃ nT, nT = TL.length := ⟨_, rfl⟩
      have HNT := Lib.hid hnT
      rw [← hnT] at cT hTL
      clear hnT
      go_upto_block 8 with fail
      have hLT : L < nT := by
        obtain ⟨ln, h1, _⟩ := HLC.out.col
        rw [HNT.out]
        rcases Nat.lt_or_ge L TL.length with h | h
        · exact h
        · rw [List.getElem?_eq_none h] at h1; cases h1
      clear cT
      go_loopg [9, 10] nT (fun m cv ov wr => ∃ (c0 o0 n : Nat), cv = .int .i64 c0 ∧ ov = .int .i64 o0 ∧ wr = W1.drewN n ∧ o0 ≤ L + 1 ∧ L + 1 ≤ o0 + c0 ∧ o0 + c0 ≤ nT ∧ c0 = m)
      case atStart => exact ⟨nT, 0, 0, rfl, rfl, rfl, by omega, by omega, by omega, rfl⟩
      case round =>
        obtain ⟨c0, o0, n', rfl, rfl, rfl, h1, h2, h3, rfl⟩ := hrel
        by_cases hc0 : c0 = 0
        · have q1 : ¬ (0 : Int) < c0 := by omega
          have ho : o0 = L + 1 := by omega
          have hwL : ((o0 : Int) - 1) = (L : Int) := by omega
          obtain ⟨W2, hW2⟩ : ∃ W2, W2 = W1.drewN n' := ⟨_, rfl⟩
          rw [← hW2]
          have HB4 : Hid (Built W2 B g bm d1 a v fo ns TL n0) := Lib.hid (by rw [hW2]; exact HB3.out.drewN n')
          have HL4 : Hid (Lies W2 b (S ++ Z)) := Lib.hid (by rw [hW2]; exact HL3.out)
          have HW4 : Hid (Bel B g w W2) := Lib.hid (by rw [hW2]; exact HW3.out.below (below_drewN (Below.refl _ _) n'))
          have K54 : Hid (Blk W2 b5 81 [.int .i32 loc]) := Lib.hid (by rw [hW2]; exact K53.out)
          clear hW2 h1 h2 h3 hc0 HB3 HL3 HW3 K53 HLN
          have HWL := Lib.hid hwL
          go_upto_region 15 with fail
          go_cut [10] (fun t wx => t = .int .i64 L ∧ wx = W2)
          case first =>
            go_wp2_with fail
            go_meet
            exact ⟨by first | with_reducible rfl | rw [HWL.out], rfl⟩
          case rest =>
            obtain ⟨rfl, rfl⟩ := hcut
            apply_assumption
            refine addMid B g bm b c N b5 gt nT ct d1 a v fo ns TL n0 S Z nm loc L C w _ _ HB4.out hn0 hS hZ HUP1.out HL4.out hbg hbv HN.out hcap hcap2 HWF.out (by rw [HTT.out, ← HNT.out]) K54.out hloc HLC.out hLT hTL hC hns hnm HFIT.out HW4.out ?_
            intro w' hlow' hex
            refine ⟨rfl, hlow', fun h => absurd h HIF.out, fun _ => ?_⟩
            rw [HD1.out] at hex
            exact hex
        · have q1 : (0 : Int) < c0 := by omega
          have hi : o0 + c0 / 2 < nT := by omega
          go_upto_region 11 with fail
          obtain ⟨i, hii⟩ : ∃ i : Nat, i = o0 + c0 / 2 := ⟨_, rfl⟩
          have e1 : (o0 : Int) + (c0 : Int) / 2 = (i : Int) := by omega
          rw [e1]
          obtain ⟨lni, hlni⟩ : ∃ ln, TL[i]? = some ln := ⟨_, List.getElem?_eq_getElem (by rw [← HNT.out]; omega)⟩
          have HFI := Lib.hid (HLC.out.find i lni hlni)
          have cS : W1.cell? ⟨gt, i * 3 + 2, none⟩ = some (.int .i32 lni.start) := (HLN.out i lni hlni).start
          have l0 : W1.cell? ⟨b5, 0, none⟩ = some (.int .i32 loc) := K53.out.get 0 rfl
          obtain ⟨y, hy⟩ : ∃ y, y = lni.start := ⟨_, rfl⟩
          rw [← hy] at cS HFI
          obtain ⟨z1, hz1⟩ : ∃ z1, z1 = decide ((y : Int) ≤ loc) := ⟨_, rfl⟩
          have HZ1 := Lib.hid hz1
          have hiT : i < nT := by omega
          have HII := Lib.hid hii
          clear hz1 hy hlni e1 hii
          go_cut [71] (fun t wx => t = .bool z1 ∧ ∃ k, wx = W1.drewN k)
          case first =>
            go_quiet (fail)
            go_wp2_with fail
            go_meet
            exact ⟨by rw [HZ1.out]; simp, n' + nq, drewN_add W1 n' nq⟩
          case rest =>
            obtain ⟨rfl, k, rfl⟩ := hcut
            cases z1 with
            | true =>
              have hiL : i ≤ L := (HFI.out).1 (by have := HZ1.out; have h := of_decide_eq_true this.symm; omega)
              have hii := HII.out
              clear cS l0
              go_wp2_with fail
              go_roundg (c0 - c0 / 2 - 1)
              case rel => exact ⟨c0 - c0 / 2 - 1, i + 1, k, val_int (by omega), val_int (by omega), rfl, by omega, by omega, by omega, rfl⟩
              case measure => omega
            | false =>
              have hiL : ¬ i ≤ L := fun h => by
                have h1 := (HFI.out).2 h
                have := HZ1.out
                have h := of_decide_eq_false this.symm
                omega
              have hii := HII.out
              clear cS l0
              go_wp2_with fail
              go_roundg (c0 / 2)
              case rel => exact ⟨c0 / 2, o0, k, val_int (by omega), rfl, rfl, by omega, by omega, by omega, rfl⟩
              case measure => omega
end Go.Proofs.Ytobhlppdolekoaa.Ch
