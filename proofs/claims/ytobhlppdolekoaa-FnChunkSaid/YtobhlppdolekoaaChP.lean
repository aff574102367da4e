/- AddSourceMapping. The walk. -/
import Derived.Test.YtobhlppdolekoaaChO
import Derived.BigQuiet
import Derived.WalkSpells
namespace Go.Proofs.Ytobhlppdolekoaa.Ch
open Go.RowKit Go.Proofs.Ytobhlppdolekoaa.Aid Go.Proofs.Ytobhlppdolekoaa.Bytes Go.Proofs.Ytobhlppdolekoaa.Runes Go.Proofs.Ytobhlppdolekoaa.Wtf
attribute [local go_sem ↓] Go.wp_at_zero Go.wp_at_succ
set_option linter.unusedVariables false
set_option linter.unusedSimpArgs false
theorem toList_beq (a b : ByteArray) : (a.toList == b.toList) = decide (a = b) := by
  rw [ByteArray.toList_eq, ByteArray.toList_eq]
  by_cases h : a = b
  · subst h; simp
  · rw [decide_eq_false h, beq_eq_false_iff_ne]
    exact fun e => h (ByteArray.ext (Array.toList_inj.1 e))
theorem drewN_add (w : World) (a b : Nat) : (w.drewN a).drewN b = w.drewN (a + b) := by simp [World.drewN, Nat.add_assoc]
theorem Built.drewN {w : World} {B g bm : Nat} {d : Bd} {a : Ab} {v : Value} {fo : Int} {ns : List ByteArray} {TL : List Ln} {n : Nat} (h : Built w B g bm d a v fo ns TL n) (k : Nat) : Built (w.drewN k) B g bm d a v fo ns TL n :=
  ⟨h.cells, own_keep h.buf (below_drewN (Below.refl _ _) k), h.nms.below (below_drewN (Below.refl _ _) k), h.map, h.lines.bel (Bel.of_below h.B (below_drewN (Below.refl _ _) k)), h.lim, h.B⟩
theorem Built.set {w : World} {B g bm : Nat} {d d' : Bd} {a a' : Ab} {v : Value} {fo : Int} {ns : List ByteArray} {TL : List Ln} {n n' : Nat} (h : Built w B g bm d a v fo ns TL n) (i : Nat) (u : Value) (hc : (d.put a v fo).cells.set i u = (d'.put a' v fo).cells) (hl : a'.l = a.l)
    (hq : d'.q = d.q) (hm : d'.m = d.m) (hT : d'.T = d.T) (ha : d'.asc = d.asc) (hlim : a'.Lim n') : Built (w.setCell ⟨g, i, none⟩ u) B g bm d' a' v fo ns TL n' := by
  have gr : w.grownBy (w.setCell ⟨g, i, none⟩ u) (some g) := only_setCell (World.grownBy.refl _ _) (.inl rfl) _
  refine ⟨by rw [← hc]; exact h.cells.set_ i u, by rw [Buf, hl]; exact h.buf.kept gr (.inr fun e => own_ne h.buf h.cells (by decide) e.symm), by rw [hq, ha]; exact h.nms.cells h.cells (by decide) (by decide) gr, by rw [hm]; exact h.map, ?_, hlim, Nat.le_trans h.B gr.size⟩
  rw [hT]
  exact h.lines.bel ((Bel.refl g h.B).only gr (fun k hk => .inr (by injection hk with hk; exact hk.symm)))
theorem put_len (ns : List ByteArray) (s : ByteArray) : (put ns s).length ≤ ns.length + 1 := by
  unfold put
  split
  · omega
  · simp
/-- A mapping more. -/
theorem Built.mapped {w w' : World} {B g bm : Nat} {d : Bd} {a : Ab} {v v' : Value} {fo fo' : Int} {ns : List ByteArray} {TL : List Ln} {n n' : Nat} {q : Sm} (h : Built w B g bm d a v fo ns TL n) (k : Stepped w w' g B (d.put a v fo) ((d.put a v fo).mapped v' q fo') (a.l ++ (sep (lastOf a.l) ++ Ch.seg a.st q))) (hl : (a.seg q).Lim n') :
    Built w' B g bm d (a.seg q) v' fo' ns TL n' ∧ Bel B g w w' := by
  have hb : Bel B g w w' := (Bel.refl g h.B).two k.two (fun j hj => own_below h.buf j hj)
  exact ⟨⟨k.cells, k.buf, h.nms.two k.two h.cells h.buf k.nx, h.map, h.lines.bel hb, hl, Nat.le_trans h.B hb.size⟩, hb⟩
/-- Behind the output's update. -/
theorem Built.upto {w w' : World} {B g bm : Nat} {d d' : Bd} {a a' : Ab} {v v' : Value} {fo fo' : Int} {ns : List ByteArray} {TL : List Ln} {n n' : Nat} (h : Built w B g bm d a v fo ns TL n) (k : Upto w w' g B d' a' v' fo') (hv : d'.v = v) (hl : a'.Lim n') (hq : d'.q = d.q) (hm : d'.m = d.m) (hT : d'.T = d.T) (ha : d'.asc = d.asc) :
    Built w' B g bm d' a' v' fo' ns TL n' ∧ Bel B g w w' := by
  have ht : Two w w' g v.ownBlock := by rw [← hv]; exact k.two
  have hb : Bel B g w w' := (Bel.refl g h.B).two ht (fun j hj => own_below h.buf j hj)
  refine ⟨⟨k.cells, k.buf, ?_, by rw [hm]; exact h.map, by rw [hT]; exact h.lines.bel hb, hl, Nat.le_trans h.B hb.size⟩, hb⟩
  rw [hq, ha]
  exact h.nms.two ht h.cells h.buf (by rw [← hv]; exact k.nx)
/-- The code from a region on. -/
def lm : Code → Option Nat
  | .region m _ _ => some m
  | .seq a _ => lm a
  | _ => none
def sub (n : Nat) : Code → Option Code
  | .region m ops b => if m = n then some (.region m ops b) else none
  | .seq a b => if lm a = some n then some (.seq a b) else match sub n a with
    | some c => some c
    | none => sub n b
  | .loop c => sub n c
  | .block _ c => sub n c
  | .scope c => sub n c
  | .cond _ a b => match sub n a with
    | some c => some c
    | none => sub n b
  | _ => none
noncomputable def tail20 : Code := (Try.f29.body.bind (sub 20)).getD .skip
set_option maxRecDepth 100000 in
set_option maxHeartbeats 8000000 in
theorem addTail {x1 x4 x5 x6 x7 x8 x9 x11 x12 x13 x15 x16 x17 x18 x19 x20 x21 x22 x23 x24 x25 x26 x27 x28 x29 x30 x31 x32 x33 x34 x35 x36 x37 x38 x39 x40 x41 x42 x43 x44 x45 x46 x47 x48 x49 x50 x51 x52 x53 x54 x55 x56 x57 x58 x59 x60 x61 x62 x63 x64 x65 x66 x67 x68 x69 x70 x71 x72 x73 x74 x75 x76 x77 x78 x79 x80 x81 x82 x83 x84 x85 x86 x87 x88 x89 x90 x91 x92 x93 x94 x95 x96 x97 x98 x99 x100 x101 x102 x103 x104 x105 x106 x107 x108 x109 x110 x111 x112 x113 x114 x115 x116 x117 x118 x119 x120 x121 x122 x123 x124 x125 x126 x127 x128 x129 x130 x131 x132 x133 x134 x135 x136 x137 x138 x139 x140 x141 x142 x143 x144 x145 x146 x147 x148 x149 x150 x151 x152 x153 x154 x155 x156 x157 x158 x159 x160 x161 x162 x163 x164 x165 x166 x167 x168 x169 x170 x171 x172 x173 x174 x175 x176 x177 x178 x179 x180 x181 x182 x183 x184 x185 x186 x187 : Value} (B g bm b c N : Nat) (d1 : Bd) (a : Ab) (v : Value) (fo : Int) (ns : List ByteArray) (TL : List Ln) (n0 : Nat) (S Z nm : ByteArray) (L C : Nat) (w W4 : World) (Post : Ending → World → Prop)
    (hb : Built W4 B g bm d1 a v fo ns TL n0) (hn0 : n0 + 2 * Z.size < 800000) (hS : S.size ≤ 16384) (hZ : Z.size ≤ 16384) (hupd : d1.upd = (S.size : Nat)) (hl : Lies W4 b (S ++ Z)) (hbg : b ≠ g) (hbv : some b ≠ v.ownBlock) (hN : N = (S ++ Z).size) (hcap : N ≤ c) (hcap2 : c ≤ 9223372036854775807) (hwf : wf Z 0 = true)
    (hL : L ≤ 100000) (hC : C ≤ 100000) (hns : ns.length ≤ 1000) (hnm : nm.size ≤ 1000) (hfit : Fit (nats nm)) (hw : Bel B g w W4)
    (hP : ∀ w', Bel B g w w' → (∃ v' fo' qv q, Named (put ns nm) nm ((Ab.upd Z 0 a).cov0.spot L C) q ∧ Built w' B g bm { d1 with q := qv, upd := (N : Nat) } ((Ab.upd Z 0 a).cov0.mark q) v' fo' (put ns nm) TL (n0 + 2 * Z.size + 2)) → Post (.returned (.tuple #[])) w') :
    Code.wp Try.prog tail20 (bodyPost Try.prog Try.f29 Post) ⟨#[.pointer (some ⟨g, 0, none⟩), x1, .string nm, .slice (some ⟨b, 0, none⟩) N c, x4, x5, x6, x7, x8, x9, .int .i64 L, x11, x12, x13, .int .i64 C, x15, x16, x17, x18, x19, x20, x21, x22, x23, x24, x25, x26, x27, x28, x29, x30, x31, x32, x33, x34, x35, x36, x37, x38, x39, x40, x41, x42, x43, x44, x45, x46, x47, x48, x49, x50, x51, x52, x53, x54, x55, x56, x57, x58, x59, x60, x61, x62, x63, x64, x65, x66, x67, x68, x69, x70, x71, x72, x73, x74, x75, x76, x77, x78, x79, x80, x81, x82, x83, x84, x85, x86, x87, x88, x89, x90, x91, x92, x93, x94, x95, x96, x97, x98, x99, x100, x101, x102, x103, x104, x105, x106, x107, x108, x109, x110, x111, x112, x113, x114, x115, x116, x117, x118, x119, x120, x121, x122, x123, x124, x125, x126, x127, x128, x129, x130, x131, x132, x133, x134, x135, x136, x137, x138, x139, x140, x141, x142, x143, x144, x145, x146, x147, x148, x149, x150, x151, x152, x153, x154, x155, x156, x157, x158, x159, x160, x161, x162, x163, x164, x165, x166, x167, x168, x169, x170, x171, x172, x173, x174, x175, x176, x177, x178, x179, x180, x181, x182, x183, x184, x185, x186, x187], []⟩ W4 := by
  conv => arg 2; whnf
  have HB := Lib.hid hb
  have HUP1 := Lib.hid hupd
  have HL := Lib.hid hl
  have HN := Lib.hid hN
  have HWF := Lib.hid hwf
  have HFIT := Lib.hid hfit
  have HW := Lib.hid hw
  have HP := Lib.hid hP
  clear hb hupd hl hN hwf hfit hw hP
  have HUPD : Hid _ := Lib.hid (update B g b c d1 a v fo S Z W4 HB.out.cells HB.out.buf HB.out.B n0 HB.out.lim (by omega) hS hZ HUP1.out HL.out hbg hbv (by rw [← HN.out]; exact hcap) hcap2 HWF.out)
  rw [← HN.out] at HUPD
  go_upto_region 20 with fail
  go_wp2_with fail
  refine (HUPD.out).mono ?_
  rintro e w5 ⟨rfl, v1, fo1, hup⟩
  obtain ⟨a1, ha1⟩ : ∃ a1, a1 = Ab.upd Z 0 a := ⟨_, rfl⟩
  obtain ⟨d2, hd2⟩ : ∃ d2 : Bd, d2 = { d1 with v := v, upd := (N : Nat) } := ⟨_, rfl⟩
  have hlim1 : a1.Lim (n0 + 2 * Z.size) := by rw [ha1]; exact Ab.Lim.upd Z Z.size 0 n0 a (by omega) HB.out.lim (by omega)
  rw [← ha1, ← hd2] at hup
  obtain ⟨hb6, hlow6⟩ := HB.out.upto hup (by rw [hd2]) hlim1 (by rw [hd2]) (by rw [hd2]) (by rw [hd2]) (by rw [hd2])
  have HB6 := Lib.hid hb6
  have HW6 : Hid (Bel B g w w5) := Lib.hid (HW.out.trans hlow6)
  have HA1 := Lib.hid ha1
  have HD2 := Lib.hid hd2
  have HLM := Lib.hid hlim1
  clear hup hb6 hlow6 ha1 hd2 hlim1 HUPD HB HL HW
  have z20 : w5.cell? ⟨g, 20, none⟩ = some (.bool a1.ls) := HB6.out.cells.get 20 rfl
  have z21 : w5.cell? ⟨g, 21, none⟩ = some (.bool true) := HB6.out.cells.get 21 rfl
  have z18 : w5.cell? ⟨g, 18, none⟩ = some (.bool a1.hp) := HB6.out.cells.get 18 rfl
  have z14 : w5.cell? ⟨g, 14, none⟩ = some (.int .i64 a1.gcol) := HB6.out.cells.get 14 rfl
  obtain ⟨y, hy⟩ : ∃ y, a1.ls = y := ⟨_, rfl⟩
  obtain ⟨h, hh⟩ : ∃ h, a1.hp = h := ⟨_, rfl⟩
  rw [hy] at z20
  rw [hh] at z18
  have HY := Lib.hid hy
  have HH := Lib.hid hh
  obtain ⟨x, hx⟩ : ∃ x, x = decide (0 < a1.gcol) := ⟨_, rfl⟩
  have HX := Lib.hid hx
  clear hy hh hx
  obtain ⟨zz, hzz⟩ : ∃ zz, zz = (!y && x && h) := ⟨_, rfl⟩
  have HZZ := Lib.hid hzz
  clear hzz
  go_upto_region 21 with fail
  go_cut [146] (fun t wx => t = .bool zz ∧ wx = w5)
  case first =>
    cases x with
    | true =>
      have hx : 0 < a1.gcol := of_decide_eq_true HX.out.symm
      cases y <;> cases h
      all_goals
        have e := HZZ.out
        simp only [Bool.not_true, Bool.not_false, Bool.false_and, Bool.true_and] at e
        subst e
        go_wp2_with fail
        go_meet
        exact ⟨rfl, rfl⟩
    | false =>
      have hx : ¬ 0 < a1.gcol := of_decide_eq_false HX.out.symm
      cases y <;> cases h
      all_goals
        have e := HZZ.out
        simp only [Bool.not_true, Bool.not_false, Bool.false_and, Bool.true_and, Bool.and_false] at e
        subst e
        go_wp2_with fail
        go_meet
        exact ⟨rfl, rfl⟩
  case rest =>
  obtain ⟨rfl, hw⟩ := hcut
  subst hw
  obtain ⟨W5, hW5⟩ : ∃ W5, W5 = wc := ⟨_, rfl⟩
  subst hW5
  go_upto_if 146 with fail
  go_cut [] (fun wx => Hid (∃ v2 fo2, Built wx B g bm d2 a1.cov0 v2 fo2 ns TL (n0 + 2 * Z.size + 1) ∧ Bel B g w wx))
  case first =>
    cases zz with
    | false =>
      have hcv : a1.cov0 = a1 := if_neg (by
        rintro ⟨e1, e2, e3⟩
        have h1 := HZZ.out
        rw [← HY.out, ← HH.out, HX.out, e1, e3] at h1
        simp [e2] at h1)
      have HCV1 := Lib.hid hcv
      clear hcv
      go_wp2_with fail
      go_meet
      refine Lib.hid ⟨v1, fo1, ?_, HW6.out⟩
      rw [HCV1.out]
      obtain ⟨h1, h2, h3, h4, h5, h6, h8⟩ := HB6.out
      exact ⟨h1, h2, h3, h4, h5, h6.mono (by omega), h8⟩
    | true =>
      have HCV1 : Hid (a1.cov0 = a1.seg a1.cov) := Lib.hid (if_pos (by
        have h1 := HZZ.out
        rw [← HY.out, ← HH.out, HX.out] at h1
        have h2 := h1.symm
        simp at h2
        exact ⟨h2.1.1, h2.1.2, h2.2⟩))
      have HCL : Hid (a1.cov0.Lim (n0 + 2 * Z.size + 1)) := Lib.hid (HLM.out.cov0 (by omega))
      go_upto_region 22 with fail
      have s0 : W5.drew.cell? ⟨g, 6, none⟩ = some (.int .i64 a1.st.gl) := HB6.out.cells.get 6 rfl
      have s1 : W5.drew.cell? ⟨g, 8, none⟩ = some (.int .i64 a1.st.src) := HB6.out.cells.get 8 rfl
      have s2 : W5.drew.cell? ⟨g, 9, none⟩ = some (.int .i64 a1.st.ol) := HB6.out.cells.get 9 rfl
      have s3 : W5.drew.cell? ⟨g, 10, none⟩ = some (.int .i64 a1.st.oc) := HB6.out.cells.get 10 rfl
      refine Hoist.start (S := fun _ w' => w'.cell? ⟨g, 6, none⟩ = some (.int .i64 a1.st.gl) ∧ w'.cell? ⟨g, 8, none⟩ = some (.int .i64 a1.st.src) ∧ w'.cell? ⟨g, 9, none⟩ = some (.int .i64 a1.st.ol) ∧ w'.cell? ⟨g, 10, none⟩ = some (.int .i64 a1.st.oc)) (by kernel_rfl) ?_
      refine Hoist.takeS (i := 0) (v := ?va0) rfl (by kernel_rfl) (by kernel_rfl) (by kernel_rfl) (fun _ _ _ h => h) ⟨by rfl, ?hya0⟩ ⟨s0, s1, s2, s3⟩ ?resta0
      case hya0 =>
        intro w' hSw
        obtain ⟨s0, s1, s2, s3⟩ := hSw
        go_simp
        rfl
      simp only [Act.put, List.setIfInBounds_toArray, List.set_cons_zero, List.set_cons_succ]
      refine Hoist.takeS (i := 1) (v := ?va1) rfl (by kernel_rfl) (by kernel_rfl) (by kernel_rfl) (fun _ _ _ h => h) ⟨by rfl, ?hya1⟩ ⟨s0, s1, s2, s3⟩ ?resta1
      case hya1 =>
        intro w' hSw
        obtain ⟨s0, s1, s2, s3⟩ := hSw
        go_simp
        rfl
      simp only [Act.put, List.setIfInBounds_toArray, List.set_cons_zero, List.set_cons_succ]
      refine Hoist.takeS (i := 2) (v := ?va2) rfl (by kernel_rfl) (by kernel_rfl) (by kernel_rfl) (fun _ _ _ h => h) ⟨by rfl, ?hya2⟩ ⟨s0, s1, s2, s3⟩ ?resta2
      case hya2 =>
        intro w' hSw
        obtain ⟨s0, s1, s2, s3⟩ := hSw
        go_simp
        rfl
      simp only [Act.put, List.setIfInBounds_toArray, List.set_cons_zero, List.set_cons_succ]
      refine Hoist.takeS (i := 3) (v := ?va3) rfl (by kernel_rfl) (by kernel_rfl) (by kernel_rfl) (fun _ _ _ h => h) ⟨by rfl, ?hya3⟩ ⟨s0, s1, s2, s3⟩ ?resta3
      case hya3 =>
        intro w' hSw
        obtain ⟨s0, s1, s2, s3⟩ := hSw
        go_simp
        rfl
      simp only [Act.put, List.setIfInBounds_toArray, List.set_cons_zero, List.set_cons_succ]
      refine Hoist.takeS (i := 4) (v := ?va4) rfl (by kernel_rfl) (by kernel_rfl) (by kernel_rfl) (fun _ _ _ h => h) ⟨by rfl, ?hya4⟩ ⟨s0, s1, s2, s3⟩ ?resta4
      case hya4 =>
        intro w' hSw
        obtain ⟨s0, s1, s2, s3⟩ := hSw
        go_simp
        rfl
      simp only [Act.put, List.setIfInBounds_toArray, List.set_cons_zero, List.set_cons_succ]
      refine Hoist.takeS (i := 5) (v := ?va5) rfl (by kernel_rfl) (by kernel_rfl) (by kernel_rfl) (fun _ _ _ h => h) ⟨by rfl, ?hya5⟩ ⟨s0, s1, s2, s3⟩ ?resta5
      case hya5 =>
        intro w' hSw
        obtain ⟨s0, s1, s2, s3⟩ := hSw
        go_simp
        rfl
      simp only [Act.put, List.setIfInBounds_toArray, List.set_cons_zero, List.set_cons_succ]
      refine Hoist.takeS (i := 6) (v := ?va6) rfl (by kernel_rfl) (by kernel_rfl) (by kernel_rfl) (fun _ _ _ h => h) ⟨by rfl, ?hya6⟩ ⟨s0, s1, s2, s3⟩ ?resta6
      case hya6 =>
        intro w' hSw
        obtain ⟨s0, s1, s2, s3⟩ := hSw
        go_simp
        rfl
      simp only [Act.put, List.setIfInBounds_toArray, List.set_cons_zero, List.set_cons_succ]
      refine Hoist.takeS (i := 7) (v := ?va7) rfl (by kernel_rfl) (by kernel_rfl) (by kernel_rfl) (fun _ _ _ h => h) ⟨by rfl, ?hya7⟩ ⟨s0, s1, s2, s3⟩ ?resta7
      case hya7 =>
        intro w' hSw
        obtain ⟨s0, s1, s2, s3⟩ := hSw
        go_simp
        rfl
      simp only [Act.put, List.setIfInBounds_toArray, List.set_cons_zero, List.set_cons_succ]
      refine Hoist.takeS (i := 8) (v := ?va8) rfl (by kernel_rfl) (by kernel_rfl) (by kernel_rfl) (fun _ _ _ h => h) ⟨by rfl, ?hya8⟩ ⟨s0, s1, s2, s3⟩ ?resta8
      case hya8 =>
        intro w' hSw
        obtain ⟨s0, s1, s2, s3⟩ := hSw
        go_simp
        rfl
      simp only [Act.put, List.setIfInBounds_toArray, List.set_cons_zero, List.set_cons_succ]
      refine Hoist.takeS (i := 9) (v := ?va9) rfl (by kernel_rfl) (by kernel_rfl) (by kernel_rfl) (fun _ _ _ h => h) ⟨by rfl, ?hya9⟩ ⟨s0, s1, s2, s3⟩ ?resta9
      case hya9 =>
        intro w' hSw
        obtain ⟨s0, s1, s2, s3⟩ := hSw
        go_simp
        rfl
      simp only [Act.put, List.setIfInBounds_toArray, List.set_cons_zero, List.set_cons_succ]
      refine Hoist.takeS (i := 10) (v := ?va10) rfl (by kernel_rfl) (by kernel_rfl) (by kernel_rfl) (fun _ _ _ h => h) ⟨by rfl, ?hya10⟩ ⟨s0, s1, s2, s3⟩ ?resta10
      case hya10 =>
        intro w' hSw
        obtain ⟨s0, s1, s2, s3⟩ := hSw
        go_simp
        rfl
      simp only [Act.put, List.setIfInBounds_toArray, List.set_cons_zero, List.set_cons_succ]
      refine Hoist.takeS (i := 11) (v := ?va11) rfl (by kernel_rfl) (by kernel_rfl) (by kernel_rfl) (fun _ _ _ h => h) ⟨by rfl, ?hya11⟩ ⟨s0, s1, s2, s3⟩ ?resta11
      case hya11 =>
        intro w' hSw
        obtain ⟨s0, s1, s2, s3⟩ := hSw
        go_simp
        rfl
      simp only [Act.put, List.setIfInBounds_toArray, List.set_cons_zero, List.set_cons_succ]
      refine Hoist.takeS (i := 12) (v := ?va12) rfl (by kernel_rfl) (by kernel_rfl) (by kernel_rfl) (fun _ _ _ h => h) ⟨by rfl, ?hya12⟩ ⟨s0, s1, s2, s3⟩ ?resta12
      case hya12 =>
        intro w' hSw
        obtain ⟨s0, s1, s2, s3⟩ := hSw
        go_simp
        rfl
      simp only [Act.put, List.setIfInBounds_toArray, List.set_cons_zero, List.set_cons_succ]
      refine Hoist.takeS (i := 13) (v := ?va13) rfl (by kernel_rfl) (by kernel_rfl) (by kernel_rfl) (fun _ _ _ h => h) ⟨by rfl, ?hya13⟩ ⟨s0, s1, s2, s3⟩ ?resta13
      case hya13 =>
        intro w' hSw
        obtain ⟨s0, s1, s2, s3⟩ := hSw
        go_simp
        rfl
      simp only [Act.put, List.setIfInBounds_toArray, List.set_cons_zero, List.set_cons_succ]
      refine Hoist.takeS (i := 14) (v := ?va14) rfl (by kernel_rfl) (by kernel_rfl) (by kernel_rfl) (fun _ _ _ h => h) ⟨by rfl, ?hya14⟩ ⟨s0, s1, s2, s3⟩ ?resta14
      case hya14 =>
        intro w' hSw
        obtain ⟨s0, s1, s2, s3⟩ := hSw
        go_simp
        rfl
      simp only [Act.put, List.setIfInBounds_toArray, List.set_cons_zero, List.set_cons_succ]
      refine Hoist.takeS (i := 15) (v := ?va15) rfl (by kernel_rfl) (by kernel_rfl) (by kernel_rfl) (fun _ _ _ h => h) ⟨by rfl, ?hya15⟩ ⟨s0, s1, s2, s3⟩ ?resta15
      case hya15 =>
        intro w' hSw
        obtain ⟨s0, s1, s2, s3⟩ := hSw
        go_simp
        rfl
      simp only [Act.put, List.setIfInBounds_toArray, List.set_cons_zero, List.set_cons_succ]
      refine Hoist.takeS (i := 16) (v := ?va16) rfl (by kernel_rfl) (by kernel_rfl) (by kernel_rfl) (fun _ _ _ h => h) ⟨by rfl, ?hya16⟩ ⟨s0, s1, s2, s3⟩ ?resta16
      case hya16 =>
        intro w' hSw
        obtain ⟨s0, s1, s2, s3⟩ := hSw
        go_simp
        rfl
      simp only [Act.put, List.setIfInBounds_toArray, List.set_cons_zero, List.set_cons_succ]
      refine Hoist.takeS (i := 17) (v := ?va17) rfl (by kernel_rfl) (by kernel_rfl) (by kernel_rfl) (fun _ _ _ h => h) ⟨by rfl, ?hya17⟩ ⟨s0, s1, s2, s3⟩ ?resta17
      case hya17 =>
        intro w' hSw
        obtain ⟨s0, s1, s2, s3⟩ := hSw
        go_simp
        rfl
      simp only [Act.put, List.setIfInBounds_toArray, List.set_cons_zero, List.set_cons_succ]
      refine Hoist.takeS (i := 18) (v := ?va18) rfl (by kernel_rfl) (by kernel_rfl) (by kernel_rfl) (fun _ _ _ h => h) ⟨by rfl, ?hya18⟩ ⟨s0, s1, s2, s3⟩ ?resta18
      case hya18 =>
        intro w' hSw
        obtain ⟨s0, s1, s2, s3⟩ := hSw
        go_simp
        rfl
      simp only [Act.put, List.setIfInBounds_toArray, List.set_cons_zero, List.set_cons_succ]
      refine Hoist.takeS (i := 19) (v := ?va19) rfl (by kernel_rfl) (by kernel_rfl) (by kernel_rfl) (fun _ _ _ h => h) ⟨by rfl, ?hya19⟩ ⟨s0, s1, s2, s3⟩ ?resta19
      case hya19 =>
        intro w' hSw
        obtain ⟨s0, s1, s2, s3⟩ := hSw
        go_simp
        rfl
      simp only [Act.put, List.setIfInBounds_toArray, List.set_cons_zero, List.set_cons_succ]
      refine Hoist.takeS (i := 20) (v := ?va20) rfl (by kernel_rfl) (by kernel_rfl) (by kernel_rfl) (fun _ _ _ h => h) ⟨by rfl, ?hya20⟩ ⟨s0, s1, s2, s3⟩ ?resta20
      case hya20 =>
        intro w' hSw
        obtain ⟨s0, s1, s2, s3⟩ := hSw
        go_simp
        rfl
      simp only [Act.put, List.setIfInBounds_toArray, List.set_cons_zero, List.set_cons_succ]
      refine Hoist.takeS (i := 21) (v := ?va21) rfl (by kernel_rfl) (by kernel_rfl) (by kernel_rfl) (fun _ _ _ h => h) ⟨by rfl, ?hya21⟩ ⟨s0, s1, s2, s3⟩ ?resta21
      case hya21 =>
        intro w' hSw
        obtain ⟨s0, s1, s2, s3⟩ := hSw
        go_simp
        rfl
      simp only [Act.put, List.setIfInBounds_toArray, List.set_cons_zero, List.set_cons_succ]
      have HB7 : Hid (Built W5.drew B g bm d2 a1 v1 fo1 ns TL (n0 + 2 * Z.size)) := Lib.hid (HB6.out.drewN 1)
      have HAP := Lib.hid (appendPlain B g (d2.put a1 v1 fo1) a1.l a1.cov W5.drew HB7.out.cells HB7.out.buf HB7.out.B (by have := HLM.out.len; omega) HLM.out.byte (HLM.out.small (by omega)) (HLM.out.cov (by omega)))
      refine Hoist.only (i := 22) rfl (by kernel_rfl) ?_
      intro K' hK
      go_simp
      refine (HAP.out).mono ?_
      rintro e w7 ⟨rfl, v2, fo2, hst⟩
      obtain ⟨hb8, hlow8⟩ := HB7.out.mapped hst (by have := HCL.out; rw [HCV1.out] at this; exact this)
      have HB8 := Lib.hid hb8
      have HW8 : Hid (Bel B g w w7) := Lib.hid ((HW6.out.below (below_drewN (Below.refl _ _) 1)).trans hlow8)
      have g0 : w7.cell? ⟨g, 6, none⟩ = some (.int .i64 a1.st.gl) := hst.cells.get 6 rfl
      have g1 : w7.cell? ⟨g, 8, none⟩ = some (.int .i64 a1.st.src) := hst.cells.get 8 rfl
      have g2 : w7.cell? ⟨g, 9, none⟩ = some (.int .i64 a1.st.ol) := hst.cells.get 9 rfl
      have g3 : w7.cell? ⟨g, 10, none⟩ = some (.int .i64 a1.st.oc) := hst.cells.get 10 rfl
      clear hst hb8 hlow8 s0 s1 s2 s3 HAP
      refine hK _ _ ⟨g0, g1, g2, g3⟩ ?_
      clear hK K'
      refine Hoist.over (by kernel_rfl) ?_ _
      go_wp2_with fail
      go_meet
      exact Lib.hid ⟨v2, fo2, by rw [HCV1.out]; exact HB8.out, HW8.out⟩
  case rest =>
    obtain ⟨v2, fo2, h1, h2⟩ := hcut.out
    obtain ⟨W6, hW6⟩ : ∃ W6, W6 = wc := ⟨_, rfl⟩
    subst hW6
    have HB8 := Lib.hid h1
    have HW8 := Lib.hid h2
    obtain ⟨a2, ha2⟩ : ∃ a2, a2 = a1.cov0 := ⟨_, rfl⟩
    have HA2 := Lib.hid ha2
    rw [← ha2] at HB8
    have HL8 : Hid (a2.Lim (n0 + 2 * Z.size + 1)) := Lib.hid HB8.out.lim
    clear h1 h2 ha2 hcut z20 z21 z18 z14 HZZ HX HY HH HB6 HW6 HLM
    go_upto_region 23 with fail
    have s0 : W6.drew.cell? ⟨g, 6, none⟩ = some (.int .i64 a2.st.gl) := HB8.out.cells.get 6 rfl
    have s1 : W6.drew.cell? ⟨g, 14, none⟩ = some (.int .i64 a2.gcol) := HB8.out.cells.get 14 rfl
    refine Hoist.start (S := fun _ w' => w'.cell? ⟨g, 6, none⟩ = some (.int .i64 a2.st.gl) ∧ w'.cell? ⟨g, 14, none⟩ = some (.int .i64 a2.gcol)) (by kernel_rfl) ?_
    refine Hoist.takeS (i := 0) (v := ?vb0) rfl (by kernel_rfl) (by kernel_rfl) (by kernel_rfl) (fun _ _ _ h => h) ⟨by rfl, ?hyb0⟩ ⟨s0, s1⟩ ?restb0
    case hyb0 =>
      intro w' hSw
      obtain ⟨s0, s1⟩ := hSw
      go_simp
      rfl
    simp only [Act.put, List.setIfInBounds_toArray, List.set_cons_zero, List.set_cons_succ]
    refine Hoist.takeS (i := 1) (v := ?vb1) rfl (by kernel_rfl) (by kernel_rfl) (by kernel_rfl) (fun _ _ _ h => h) ⟨by rfl, ?hyb1⟩ ⟨s0, s1⟩ ?restb1
    case hyb1 =>
      intro w' hSw
      obtain ⟨s0, s1⟩ := hSw
      go_simp
      rfl
    simp only [Act.put, List.setIfInBounds_toArray, List.set_cons_zero, List.set_cons_succ]
    refine Hoist.takeS (i := 2) (v := ?vb2) rfl (by kernel_rfl) (by kernel_rfl) (by kernel_rfl) (fun _ _ _ h => h) ⟨by rfl, ?hyb2⟩ ⟨s0, s1⟩ ?restb2
    case hyb2 =>
      intro w' hSw
      obtain ⟨s0, s1⟩ := hSw
      go_simp
      rfl
    simp only [Act.put, List.setIfInBounds_toArray, List.set_cons_zero, List.set_cons_succ]
    refine Hoist.takeS (i := 3) (v := ?vb3) rfl (by kernel_rfl) (by kernel_rfl) (by kernel_rfl) (fun _ _ _ h => h) ⟨by rfl, ?hyb3⟩ ⟨s0, s1⟩ ?restb3
    case hyb3 =>
      intro w' hSw
      obtain ⟨s0, s1⟩ := hSw
      go_simp
      rfl
    simp only [Act.put, List.setIfInBounds_toArray, List.set_cons_zero, List.set_cons_succ]
    refine Hoist.takeS (i := 4) (v := ?vb4) rfl (by kernel_rfl) (by kernel_rfl) (by kernel_rfl) (fun _ _ _ h => h) ⟨by rfl, ?hyb4⟩ ⟨s0, s1⟩ ?restb4
    case hyb4 =>
      intro w' hSw
      obtain ⟨s0, s1⟩ := hSw
      go_simp
      rfl
    simp only [Act.put, List.setIfInBounds_toArray, List.set_cons_zero, List.set_cons_succ]
    refine Hoist.takeS (i := 5) (v := ?vb5) rfl (by kernel_rfl) (by kernel_rfl) (by kernel_rfl) (fun _ _ _ h => h) ⟨by rfl, ?hyb5⟩ ⟨s0, s1⟩ ?restb5
    case hyb5 =>
      intro w' hSw
      obtain ⟨s0, s1⟩ := hSw
      go_simp
      rfl
    simp only [Act.put, List.setIfInBounds_toArray, List.set_cons_zero, List.set_cons_succ]
    refine Hoist.takeS (i := 6) (v := ?vb6) rfl (by kernel_rfl) (by kernel_rfl) (by kernel_rfl) (fun _ _ _ h => h) ⟨by rfl, ?hyb6⟩ ⟨s0, s1⟩ ?restb6
    case hyb6 =>
      intro w' hSw
      obtain ⟨s0, s1⟩ := hSw
      go_simp
      rfl
    simp only [Act.put, List.setIfInBounds_toArray, List.set_cons_zero, List.set_cons_succ]
    refine Hoist.takeS (i := 7) (v := ?vb7) rfl (by kernel_rfl) (by kernel_rfl) (by kernel_rfl) (fun _ _ _ h => h) ⟨by rfl, ?hyb7⟩ ⟨s0, s1⟩ ?restb7
    case hyb7 =>
      intro w' hSw
      obtain ⟨s0, s1⟩ := hSw
      go_simp
      rfl
    simp only [Act.put, List.setIfInBounds_toArray, List.set_cons_zero, List.set_cons_succ]
    refine Hoist.takeS (i := 8) (v := ?vb8) rfl (by kernel_rfl) (by kernel_rfl) (by kernel_rfl) (fun _ _ _ h => h) ⟨by rfl, ?hyb8⟩ ⟨s0, s1⟩ ?restb8
    case hyb8 =>
      intro w' hSw
      obtain ⟨s0, s1⟩ := hSw
      go_simp
      rfl
    simp only [Act.put, List.setIfInBounds_toArray, List.set_cons_zero, List.set_cons_succ]
    refine Hoist.takeS (i := 9) (v := ?vb9) rfl (by kernel_rfl) (by kernel_rfl) (by kernel_rfl) (fun _ _ _ h => h) ⟨by rfl, ?hyb9⟩ ⟨s0, s1⟩ ?restb9
    case hyb9 =>
      intro w' hSw
      obtain ⟨s0, s1⟩ := hSw
      go_simp
      rfl
    simp only [Act.put, List.setIfInBounds_toArray, List.set_cons_zero, List.set_cons_succ]
    refine Hoist.takeS (i := 10) (v := ?vb10) rfl (by kernel_rfl) (by kernel_rfl) (by kernel_rfl) (fun _ _ _ h => h) ⟨by rfl, ?hyb10⟩ ⟨s0, s1⟩ ?restb10
    case hyb10 =>
      intro w' hSw
      obtain ⟨s0, s1⟩ := hSw
      go_simp
      rfl
    simp only [Act.put, List.setIfInBounds_toArray, List.set_cons_zero, List.set_cons_succ]
    refine Hoist.takeS (i := 11) (v := ?vb11) rfl (by kernel_rfl) (by kernel_rfl) (by kernel_rfl) (fun _ _ _ h => h) ⟨by rfl, ?hyb11⟩ ⟨s0, s1⟩ ?restb11
    case hyb11 =>
      intro w' hSw
      obtain ⟨s0, s1⟩ := hSw
      go_simp
      rfl
    simp only [Act.put, List.setIfInBounds_toArray, List.set_cons_zero, List.set_cons_succ]
    refine Hoist.takeS (i := 12) (v := ?vb12) rfl (by kernel_rfl) (by kernel_rfl) (by kernel_rfl) (fun _ _ _ h => h) ⟨by rfl, ?hyb12⟩ ⟨s0, s1⟩ ?restb12
    case hyb12 =>
      intro w' hSw
      obtain ⟨s0, s1⟩ := hSw
      go_simp
      rfl
    simp only [Act.put, List.setIfInBounds_toArray, List.set_cons_zero, List.set_cons_succ]
    refine Hoist.takeS (i := 13) (v := ?vb13) rfl (by kernel_rfl) (by kernel_rfl) (by kernel_rfl) (fun _ _ _ h => h) ⟨by rfl, ?hyb13⟩ ⟨s0, s1⟩ ?restb13
    case hyb13 =>
      intro w' hSw
      obtain ⟨s0, s1⟩ := hSw
      go_simp
      rfl
    simp only [Act.put, List.setIfInBounds_toArray, List.set_cons_zero, List.set_cons_succ]
    have HB9 : Hid (Built W6.drew B g bm d2 a2 v2 fo2 ns TL (n0 + 2 * Z.size + 1)) := Lib.hid (HB8.out.drewN 1)
    have hq : (a2.spot L C).Small := by
      have h1 := HL8.out.gl
      have h2 := HL8.out.gcol
      exact ⟨by show 0 ≤ a2.st.gl ∧ a2.st.gl < _; omega, by show 0 ≤ a2.gcol ∧ a2.gcol < _; omega, by show (0 : Int) ≤ 0 ∧ (0 : Int) < _; decide, by show (0 : Int) ≤ L ∧ (L : Int) < _; omega, by show (0 : Int) ≤ C ∧ (C : Int) < _; omega, by show (0 : Int) ≤ 0 ∧ (0 : Int) < _; decide⟩
    have HAP := Lib.hid (appendMapping B g bm (d2.put a2 v2 fo2) a2.l (a2.spot L C) nm ns W6.drew HB9.out.cells HB9.out.buf HB9.out.nms HB9.out.map HB9.out.B (by have := HL8.out.len; omega) HL8.out.byte (HL8.out.small (by omega)) hq rfl (by omega) (by omega) HFIT.out)
    refine Hoist.only (i := 14) rfl (by kernel_rfl) ?_
    intro K' hK
    go_simp
    refine (HAP.out).mono ?_
    rintro e w8 ⟨rfl, v3, fo3, qv, q', hnamed, hcells, hbuf, hnms, hlow⟩
    have HNA := Lib.hid hnamed
    have HB10 : Hid (Built w8 B g bm { d2 with q := qv } (a2.seg q') v3 fo3 (put ns nm) TL (n0 + 2 * Z.size + 2)) := Lib.hid ⟨hcells, hbuf, hnms, HB9.out.map, HB9.out.lines.bel hlow, by
      have h := HL8.out.mark (by omega) (by omega) (by omega) hnamed (by have := put_len ns nm; omega)
      exact ⟨h.len, h.byte, h.gl, h.gc, h.src, h.ol, h.oc, h.nm, h.gcol⟩, Nat.le_trans HB9.out.B hlow.size⟩
    have HLF : Hid ((a2.mark q').Lim (n0 + 2 * Z.size + 2)) := Lib.hid (HL8.out.mark (by omega) (by omega) (by omega) hnamed (by have := put_len ns nm; omega))
    have HW10 : Hid (Bel B g w w8) := Lib.hid ((HW8.out.below (below_drewN (Below.refl _ _) 1)).trans hlow)
    have g0 : w8.cell? ⟨g, 6, none⟩ = some (.int .i64 a2.st.gl) := by
      have := HB10.out.cells.get 6 rfl
      rw [this]
      rcases HNA.out with ⟨_, e⟩ | ⟨_, i, _, e⟩ <;> rw [e] <;> rfl
    have g1 : w8.cell? ⟨g, 14, none⟩ = some (.int .i64 a2.gcol) := HB10.out.cells.get 14 rfl
    clear hnamed hcells hbuf hnms hlow s0 s1 HAP hq
    refine hK _ _ ⟨g0, g1⟩ ?_
    clear hK K'
    refine Hoist.over (by kernel_rfl) ?_ _
    have z20 : w8.cell? ⟨g, 20, none⟩ = some (.bool (a2.seg q').ls) := HB10.out.cells.get 20 rfl
    have f20 := HB10.out.cells.frozen 20
    clear g0 g1
    go_wp2_with fail
    go_returns
    refine HP.out _ (HW10.out.only (only_setCell (World.grownBy.refl w8 (some g)) (p := ⟨g, 20, none⟩) (.inl rfl) (.bool true)) (fun k hk => .inr (by injection hk with hk; exact hk.symm))) ⟨v3, fo3, qv, q', by rw [← HA1.out, ← HA2.out]; exact HNA.out, ?_⟩
    rw [← HA1.out, ← HA2.out]
    have hr := HB10.out.set (d' := { d1 with q := qv, upd := (N : Nat) }) (a' := a2.mark q') (n' := n0 + 2 * Z.size + 2) 20 (.bool true) (by rw [HD2.out]; rfl) rfl (by rw [HD2.out]) (by rw [HD2.out]) (by rw [HD2.out]) (by rw [HD2.out]) HLF.out
    exact hr
end Go.Proofs.Ytobhlppdolekoaa.Ch
