/- AddSourceMapping, the column. The walk. -/
import Derived.Test.YtobhlppdolekoaaChP
namespace Go.Proofs.Ytobhlppdolekoaa.Ch
open Go.RowKit Go.Proofs.Ytobhlppdolekoaa.Aid Go.Proofs.Ytobhlppdolekoaa.Bytes Go.Proofs.Ytobhlppdolekoaa.Runes Go.Proofs.Ytobhlppdolekoaa.Wtf
attribute [local go_sem ↓] Go.wp_at_zero Go.wp_at_succ
set_option linter.unusedVariables false
set_option linter.unusedSimpArgs false
noncomputable def tail16 : Code := (Try.f29.body.bind (sub 16)).getD .skip
set_option maxRecDepth 100000 in
set_option maxHeartbeats 8000000 in
theorem addMid {x1 x4 x6 x7 x9 x11 x12 x13 x14 x15 x16 x17 x18 x19 x20 x21 x22 x23 x24 x25 x26 x27 x28 x29 x30 x31 x32 x33 x34 x35 x36 x37 x38 x39 x40 x41 x42 x43 x44 x45 x46 x47 x48 x49 x50 x51 x52 x53 x54 x55 x56 x57 x58 x59 x60 x61 x62 x63 x64 x65 x66 x67 x68 x69 x70 x71 x72 x73 x74 x75 x76 x77 x78 x79 x80 x81 x82 x83 x84 x85 x86 x87 x88 x89 x90 x91 x92 x93 x94 x95 x96 x97 x98 x99 x100 x101 x102 x103 x104 x105 x106 x107 x108 x109 x110 x111 x112 x113 x114 x115 x116 x117 x118 x119 x120 x121 x122 x123 x124 x125 x126 x127 x128 x129 x130 x131 x132 x133 x134 x135 x136 x137 x138 x139 x140 x141 x142 x143 x144 x145 x146 x147 x148 x149 x150 x151 x152 x153 x154 x155 x156 x157 x158 x159 x160 x161 x162 x163 x164 x165 x166 x167 x168 x169 x170 x171 x172 x173 x174 x175 x176 x177 x178 x179 x180 x181 x182 x183 x184 x185 x186 x187 : Value} (B g bm b c N b5 gt nT ct : Nat) (d1 : Bd) (a : Ab) (v : Value) (fo : Int) (ns : List ByteArray) (TL : List Ln) (n0 : Nat) (S Z nm : ByteArray) (loc L C : Nat) (w W2 : World) (Post : Ending → World → Prop)
    (hb : Built W2 B g bm d1 a v fo ns TL n0) (hn0 : n0 + 2 * Z.size < 800000) (hS : S.size ≤ 16384) (hZ : Z.size ≤ 16384) (hupd : d1.upd = (S.size : Nat)) (hl : Lies W2 b (S ++ Z)) (hbg : b ≠ g) (hbv : some b ≠ v.ownBlock) (hN : N = (S ++ Z).size) (hcap : N ≤ c) (hcap2 : c ≤ 9223372036854775807) (hwf : wf Z 0 = true)
    (hT : d1.T = .slice (some ⟨gt, 0, none⟩) nT ct) (h5 : Blk W2 b5 81 [.int .i32 loc]) (hloc : loc ≤ 16384) (hLC : Lies2 TL loc L C) (hLT : L < nT) (hnT : nT ≤ 100000)
    (hC : C ≤ 100000) (hns : ns.length ≤ 1000) (hnm : nm.size ≤ 1000) (hfit : Fit (nats nm)) (hw : Bel B g w W2)
    (hP : ∀ w', Bel B g w w' → (∃ v' fo' qv q, Named (put ns nm) nm ((Ab.upd Z 0 a).cov0.spot L C) q ∧ Built w' B g bm { d1 with q := qv, upd := (N : Nat) } ((Ab.upd Z 0 a).cov0.mark q) v' fo' (put ns nm) TL (n0 + 2 * Z.size + 2)) → Post (.returned (.tuple #[])) w') :
    Code.wp Try.prog tail16 (bodyPost Try.prog Try.f29 Post) ⟨#[.pointer (some ⟨g, 0, none⟩), x1, .string nm, .slice (some ⟨b, 0, none⟩) N c, x4, .pointer (some ⟨b5, 0, none⟩), x6, x7, .slice (some ⟨gt, 0, none⟩) nT ct, x9, .int .i64 L, x11, x12, x13, x14, x15, x16, x17, x18, x19, x20, x21, x22, x23, x24, x25, x26, x27, x28, x29, x30, x31, x32, x33, x34, x35, x36, x37, x38, x39, x40, x41, x42, x43, x44, x45, x46, x47, x48, x49, x50, x51, x52, x53, x54, x55, x56, x57, x58, x59, x60, x61, x62, x63, x64, x65, x66, x67, x68, x69, x70, x71, x72, x73, x74, x75, x76, x77, x78, x79, x80, x81, x82, x83, x84, x85, x86, x87, x88, x89, x90, x91, x92, x93, x94, x95, x96, x97, x98, x99, x100, x101, x102, x103, x104, x105, x106, x107, x108, x109, x110, x111, x112, x113, x114, x115, x116, x117, x118, x119, x120, x121, x122, x123, x124, x125, x126, x127, x128, x129, x130, x131, x132, x133, x134, x135, x136, x137, x138, x139, x140, x141, x142, x143, x144, x145, x146, x147, x148, x149, x150, x151, x152, x153, x154, x155, x156, x157, x158, x159, x160, x161, x162, x163, x164, x165, x166, x167, x168, x169, x170, x171, x172, x173, x174, x175, x176, x177, x178, x179, x180, x181, x182, x183, x184, x185, x186, x187], []⟩ W2 := by
  conv => arg 2; whnf
  have HB := Lib.hid hb
  have HUP1 := Lib.hid hupd
  have HL := Lib.hid hl
  have HN := Lib.hid hN
  have HWF := Lib.hid hwf
  have HFIT := Lib.hid hfit
  have HW := Lib.hid hw
  have HP := Lib.hid hP
  have HLC := Lib.hid hLC
  have K5 := Lib.hid h5
  have HC100 := Lib.hid hC
  have HNT := Lib.hid hnT
  have HN0 := Lib.hid hn0
  have HNS := Lib.hid hns
  have HNM := Lib.hid hnm
  have hLN : ∀ (i : Nat) ln, TL[i]? = some ln → LineAt W2 B g gt i ln := by
    obtain ⟨gt', ct', e, _, h⟩ := hb.lines
    rw [hT] at e
    injection e with e
    injection e with e
    injection e with e
    subst e
    exact h
  have HLN4 := Lib.hid hLN
  clear hb hupd hl hN hwf hfit hw hP hLC h5 hLN hT hnT hC hns hnm hn0
  go_upto_region 17 with fail
  obtain ⟨ln, hln, hcol⟩ := HLC.out.col
  have hLA := HLN4.out L ln hln
  have hstl : ln.start ≤ loc := (HLC.out.find L ln hln).2 (Nat.le_refl _)
  obtain ⟨vc, hvc, hvm⟩ := hLA.cols
  have cS : W2.cell? ⟨gt, L * 3 + 2, none⟩ = some (.int .i32 ln.start) := hLA.start
  have cF : W2.cell? ⟨gt, L * 3 + 1, none⟩ = some (.int .i32 ln.first) := hLA.first
  have l0 : W2.cell? ⟨b5, 0, none⟩ = some (.int .i32 loc) := K5.out.get 0 rfl
  obtain ⟨st, hst⟩ : ∃ st, st = ln.start := ⟨_, rfl⟩
  obtain ⟨fi, hfi⟩ : ∃ fi, fi = ln.first := ⟨_, rfl⟩
  rw [← hst] at cS hstl
  rw [← hfi] at cF
  have HFIL : Hid (fi ≤ 100000) := Lib.hid (by rw [hfi]; exact HLC.out.first L ln hln)
  have HWFI : Hid (wrap64 (fi : Int) = fi) := Lib.hid (by have := HFIL.out; exact wrap64_small _ (by omega) (by omega))
  obtain ⟨off, hoff⟩ : ∃ off, off = loc - st := ⟨_, rfl⟩
  have hsub : IntKind.i32.wrap ((loc : Int) - st) = (off : Int) := by rw [IntKind.wrap_i32]; omega
  have hoffl : off ≤ 16384 := by omega
  have HCOL : Hid (match ln.cols with | none => C = off | some l => if fi ≤ off then l[off - fi]? = some C else C = off) := Lib.hid (by
    have h := hcol
    unfold ColAt at h
    rw [← hst, ← hfi, ← hoff] at h
    exact h)
  have HVM := Lib.hid hvm
  clear hln hcol hLA hst hfi hoff hvm
  go_cut [14] (fun t wx => t = .int .i64 off ∧ ∃ k, wx = W2.drewN k)
  case first =>
    go_quiet (fail)
    go_wp2_with fail
    go_meet
    exact ⟨rfl, nq, rfl⟩
  case rest =>
    obtain ⟨rfl, k1, rfl⟩ := hcut
    clear cS l0 hsub
    obtain ⟨z3, hz3⟩ : ∃ z3, z3 = (ln.cols.isSome && decide (fi ≤ off)) := ⟨_, rfl⟩
    have HZ3 := Lib.hid hz3
    clear hz3
    go_upto_region 18 with fail
    have hwfi := HWFI.out
    go_cut [105] (fun t wx => t = .bool z3 ∧ wx = W2.drewN k1)
    case first =>
      cases hcols : ln.cols with
      | none =>
        have hv := HVM.out
        rw [hcols] at hv
        have hv' : vc = .slice none 0 0 := hv
        subst hv'
        have HZT : Hid (z3 = false) := Lib.hid (by rw [HZ3.out, hcols]; rfl)
        clear hv hcols
        go_wp2_with fail
        go_meet
        exact ⟨by rw [HZT.out], rfl⟩
      | some cl =>
        have hv := HVM.out
        rw [hcols] at hv
        obtain ⟨kc, cc, hv', hkB, hcl⟩ := hv
        subst hv'
        have HZT : Hid (z3 = decide (fi ≤ off)) := Lib.hid (by rw [HZ3.out, hcols]; simp)
        clear hcols
        go_wp2_with fail
        go_meet
        exact ⟨by rw [HZT.out], rfl⟩
    case rest =>
      obtain ⟨rfl, rfl⟩ := hcut
      obtain ⟨W3, hW3⟩ : ∃ W3, W3 = W2.drewN k1 := ⟨_, rfl⟩
      rw [← hW3]
      go_upto_if 105 with fail
      go_cut [14] (fun t wx => t = .int .i64 C ∧ ∃ k, wx = W2.drewN k)
      case first =>
        cases z3 with
        | false =>
          have HCO : Hid (off = C) := Lib.hid (by
            have h := HCOL.out
            have h2 := HZ3.out
            cases hc : ln.cols with
            | none => rw [hc] at h; exact h.symm
            | some cl =>
              rw [hc] at h h2
              simp at h2
              simp only at h
              rw [if_neg (by omega)] at h
              exact h.symm)
          rw [hW3]
          go_wp2_with fail
          go_meet
          exact ⟨by rw [HCO.out], k1, rfl⟩
        | true =>
          have h2 := HZ3.out
          obtain ⟨cl, hcols⟩ : ∃ cl, ln.cols = some cl := by
            cases hc : ln.cols with
            | none => rw [hc] at h2; cases h2
            | some cl => exact ⟨cl, rfl⟩
          have hv := HVM.out
          have hco := HCOL.out
          rw [hcols] at hv h2 hco
          have hle : fi ≤ off := by simpa using h2.symm
          simp only at hco
          rw [if_pos hle] at hco
          obtain ⟨kc, cc, hv', hkB, hcl⟩ := hv
          subst hv'
          have cX := hcl _ _ hco
          have hjl : off - fi < cl.length := by
            rcases Nat.lt_or_ge (off - fi) cl.length with h | h
            · exact h
            · rw [List.getElem?_eq_none h] at hco; cases hco
          have hfil := HFIL.out
          obtain ⟨j, hj⟩ : ∃ j, j = off - fi := ⟨_, rfl⟩
          have hsj : wrap64 ((off : Int) - fi) = (j : Int) := by rw [wrap64_small _ (by omega) (by omega)]; omega
          have hsj' : IntKind.i64.wrap ((off : Int) - fi) = (j : Int) := by rw [IntKind.wrap_i64]; omega
          rw [← hj] at cX hjl
          have hwC : wrap64 (C : Int) = C := by have := HC100.out; exact wrap64_small _ (by omega) (by omega)
          clear hcols hco h2 hcl hj hfil
          rw [hW3]
          go_upto_region 19 with fail
          go_quiet (fail)
          go_wp2_with fail
          go_meet
          exact ⟨by first | with_reducible rfl | rw [hwC], k1 + nq, by first | with_reducible rfl | exact drewN_add W2 k1 nq⟩
      case rest =>
        obtain ⟨rfl, k2, rfl⟩ := hcut
        have hL100 : L ≤ 100000 := by have := HNT.out; omega
        apply_assumption
        exact addTail B g bm b c N d1 a v fo ns TL n0 S Z nm L C w (W2.drewN k2) Post (HB.out.drewN k2) HN0.out hS hZ HUP1.out HL.out hbg hbv HN.out hcap hcap2 HWF.out hL100 HC100.out HNS.out HNM.out HFIT.out (HW.out.below (below_drewN (Below.refl _ _) k2)) HP.out
end Go.Proofs.Ytobhlppdolekoaa.Ch
