/- The law's loop over the marks. The walk. -/
import Derived.Test.YtobhlppdolekoaaClH
import Derived.Test.YtobhlppdolekoaaClP
import Derived.BigQuiet
import Derived.Deep.CutRange
import Derived.Deep.CutBlock
import Derived.Deep.DeepCutAuto
namespace Go.Proofs.Ytobhlppdolekoaa.Ch
open Go.RowKit Go.Proofs.Ytobhlppdolekoaa.Aid Go.Proofs.Ytobhlppdolekoaa.Bytes Go.Proofs.Ytobhlppdolekoaa.Runes Go.Proofs.Ytobhlppdolekoaa.Wtf
attribute [local go_sem ↓] Go.wp_at_zero Go.wp_at_succ
set_option linter.unusedVariables false
set_option linter.unusedSimpArgs false
theorem line_again {out : ByteArray} {ms : List Mk} {i : Nat} (h : again ms i = true) : lineOf out ms (i + 1) = lineOf out ms i := by
  unfold lineOf
  rw [show upTo ms (i + 1) = upTo ms i by rw [upTo, if_pos h]]
theorem line_new {out : ByteArray} {ms : List Mk} {i : Nat} {k : Mk} (h : again ms i = false) (hk : ms[i]? = some k) : lineOf out ms (i + 1) = ((placeOf out k.at).1 : Int) := by
  unfold lineOf
  rw [show upTo ms (i + 1) = some k by rw [upTo, if_neg (by rw [h]; decide)]; exact hk]
theorem law_hit {src out : ByteArray} {ms : List Mk} {E : List Mp} (hl : Led src out ms E) (hf : MFit src out ms) {i : Nat} {k : Mk} (hk : ms[i]? = some k) (h : again ms i = true → ((placeOf out k.at).1 : Int) = lineOf out ms i) :
    ∃ (n : Nat) (m : Mp), findTo E (placeOf out k.at).1 (placeOf out k.at).2 E.length = n ∧ E[n]? = some m ∧ m.ol = ((placeOf src k.loc).1 : Int) ∧ m.oc = ((placeOf src k.loc).2 : Int) ∧ (again ms i = false → m.line = ((placeOf out k.at).1 : Int) ∧ m.col = ((placeOf out k.at).2 : Int) ∧ (k.name = ByteArray.empty ↔ m.name < 0)) := by
  obtain ⟨u, h1, _⟩ := up_like ms hf.asc i k hk
  refine hl.hit i k u hk h1 ?_
  by_cases ha : again ms i = true
  · have h2 := h ha
    rw [upTo, if_pos ha] at h1
    unfold lineOf at h2
    rw [h1] at h2
    simp only at h2
    omega
  · rw [upTo, if_neg ha, hk] at h1
    injection h1 with h1
    rw [h1]
noncomputable def tail19 : Code := (Try.f3.body.bind (sub 19)).getD .skip
set_option maxRecDepth 100000 in
set_option maxHeartbeats 16000000 in
theorem lawMarks {x3 x4 x5 x6 x7 x8 x9 x10 x11 x12 x13 x15 x16 x17 x18 x19 x20 x21 x22 x23 x24 x25 x26 x27 x28 x29 x30 x31 x32 x33 x34 x35 x36 x37 x38 x39 x40 x41 x42 x43 x44 x45 x46 x47 x48 x49 x50 x51 x52 x53 x54 x55 x56 x57 x58 x59 x60 x61 x62 x63 x64 x65 x66 x67 x68 x69 x70 x71 x72 x73 x74 x75 x76 x77 x78 x79 x80 x81 x82 x83 x84 x85 x86 x87 x88 x89 x90 x91 x92 x93 x94 x95 x96 x97 x98 x99 x100 x101 x102 x103 x104 x105 x106 x107 x108 x109 x110 x111 x112 x113 x114 x115 x116 x117 x118 x119 x120 x121 x122 x123 x124 x125 x126 x127 x128 x129 x130 x131 x132 x133 x134 x135 x136 x137 x138 x139 x140 x141 x142 x143 x144 x145 x146 x147 x148 x149 x150 x151 x152 x153 x154 x155 x156 x157 x158 x159 x160 x161 x162 x163 x164 x165 x166 x167 x168 x169 x170 x171 x172 x173 x174 x175 x176 x177 x178 x179 x180 x181 x182 x183 x184 x185 x186 x187 x188 x189 x190 x191 x192 x193 x194 x195 x196 x197 x198 x199 x200 x201 x202 x203 x204 x205 x206 x207 x208 x209 x210 x211 x212 x213 x214 x215 x216 x217 x218 x219 x220 x221 x222 x223 x224 x225 x226 x227 x228 x229 x230 x231 x232 x233 x234 x235 x236 x237 x238 x239 x240 x241 x242 x243 x244 x245 x246 x247 x248 x249 x250 x251 x252 x253 x254 x255 x256 x257 x258 x259 x260 x261 x262 x263 : Value} (src out : ByteArray) (ms : List Mk) (E : List Mp) (base : Nat) (A2 : Option Addr) (c2 n : Nat) (Al : Option Addr) (cl nE : Nat) (w W : World) (Post : Ending → World → Prop)
    (hn : n = ms.length) (hE : nE = E.length) (hf : MFit src out ms) (hled : Led src out ms E) (hM : Marks W A2 ms) (hown : W.ownsRow base 42 6 (.slice Al nE cl) E.length (mcells E)) (hEl : E.length ≤ 1000000000) (hw : Below w.heap.size w W)
    (hP : ∀ w', Below w.heap.size w w' → Post (.returned (.bool true)) w') :
    Code.wp Try.prog tail19 (bodyPost Try.prog Try.f3 Post) ⟨#[.string src, .string out, .slice A2 n c2, x3, x4, x5, x6, x7, x8, x9, x10, x11, x12, x13, .slice Al nE cl, x15, x16, x17, x18, x19, x20, x21, x22, x23, x24, x25, x26, x27, x28, x29, x30, x31, x32, x33, x34, x35, x36, x37, x38, x39, x40, x41, x42, x43, x44, x45, x46, x47, x48, x49, x50, x51, x52, x53, x54, x55, x56, x57, x58, x59, x60, x61, x62, x63, x64, x65, x66, x67, x68, x69, x70, x71, x72, x73, x74, x75, x76, x77, x78, x79, x80, x81, x82, x83, x84, x85, x86, x87, x88, x89, x90, x91, x92, x93, x94, x95, x96, x97, x98, x99, x100, x101, x102, x103, x104, x105, x106, x107, x108, x109, x110, x111, x112, x113, x114, x115, x116, x117, x118, x119, x120, x121, x122, x123, x124, x125, x126, x127, x128, x129, x130, x131, x132, x133, x134, x135, x136, x137, x138, x139, x140, x141, x142, x143, x144, x145, x146, x147, x148, x149, x150, x151, x152, x153, x154, x155, x156, x157, x158, x159, x160, x161, x162, x163, x164, x165, x166, x167, x168, x169, x170, x171, x172, x173, x174, x175, x176, x177, x178, x179, x180, x181, x182, x183, x184, x185, x186, x187, x188, x189, x190, x191, x192, x193, x194, x195, x196, x197, x198, x199, x200, x201, x202, x203, x204, x205, x206, x207, x208, x209, x210, x211, x212, x213, x214, x215, x216, x217, x218, x219, x220, x221, x222, x223, x224, x225, x226, x227, x228, x229, x230, x231, x232, x233, x234, x235, x236, x237, x238, x239, x240, x241, x242, x243, x244, x245, x246, x247, x248, x249, x250, x251, x252, x253, x254, x255, x256, x257, x258, x259, x260, x261, x262, x263], []⟩ W := by
  conv => arg 2; whnf
  have hLA : LAt W Al E := by
    have h := hown
    rw [hE] at h
    exact LAt.of h
  have HMM := Lib.hid (fun (V : World) (hb : Below W.heap.size W V) => hM.below hb)
  have HLL := Lib.hid (fun (V : World) (hb : Below W.heap.size W V) => hLA.below hb)
  have HOW := Lib.hid (fun (V : World) (hb : Below W.heap.size W V) => own_keep hown hb)
  have HF := Lib.hid hf
  have HLED := Lib.hid hled
  have HP := Lib.hid hP
  have HW := Lib.hid hw
  have HN := Lib.hid hn
  have HEE := Lib.hid hE
  have HEL := Lib.hid hEl
  have hn5 : n ≤ 500 := by rw [hn]; exact hf.len
  clear hn hE hf hled hM hown hEl hw hP hLA
  go_upto_region 19 with fail
  go_wp2_with fail
  go_loopg [22, 158] n (fun m lv iv wr => ∃ i : Nat, i + m = n ∧ iv = .int .i64 i ∧ lv = .int .i64 (lineOf out ms i) ∧ Hid (Below W.heap.size W wr))
  case atStart => exact ⟨0, by omega, rfl, rfl, Lib.hid (Below.refl _ _)⟩
  case round =>
    obtain ⟨i, him, rfl, rfl, HB⟩ := hrel
    by_cases hlt : i < n
    · have hlt' : (i : Int) < n := by omega
      obtain ⟨k, hk⟩ : ∃ k, ms[i]? = some k := ⟨_, List.getElem?_eq_getElem (by rw [← HN.out]; exact hlt)⟩
      obtain ⟨b, o, hA, hb, m0, m1, m2⟩ := HMM.out wr HB.out i k hk
      subst hA
      obtain ⟨f1, f2, f3, f4, f5, f6⟩ := HF.out.each k (List.mem_of_getElem? hk)
      have HK := Lib.hid hk
      clear hk f2 f4 f5 f6
      go_upto_region 23 with fail
      obtain ⟨W1, hW1⟩ : ∃ W1, W1 = wr.alloc (.cells #[.int .i64 k.at, .int .i64 k.loc, .string k.name] 45) := ⟨_, rfl⟩
      have b1 : Below wr.heap.size wr W1 := by rw [hW1]; exact below_at (Below.refl _ _) _
      have k7 : Blk W1 wr.heap.size 45 [.int .i64 k.at, .int .i64 k.loc, .string k.name] := by rw [hW1]; exact Blk.new wr 45 [.int .i64 k.at, .int .i64 k.loc, .string k.name]
      rw [← hW1]
      clear hW1 m0 m1 m2
      have HB1 := Lib.hid (up HB.out b1)
      obtain ⟨b7, hb7⟩ : ∃ b7, b7 = wr.heap.size := ⟨_, rfl⟩
      rw [← hb7] at k7 ⊢
      clear hb7 b1 hb
      have e0 : W1.cell? ⟨b7, 0, none⟩ = some (.int .i64 k.at) := k7.get 0 rfl
      have e1 : W1.cell? ⟨b7, 1, none⟩ = some (.int .i64 k.loc) := k7.get 1 rfl
      have b7l := k7.lt
      have HK7 := Lib.hid k7
      clear k7
      have hos := HF.out.outs
      have hss := HF.out.srcs
      obtain ⟨px, hpx⟩ : ∃ px, px = (placeOf out k.at).1 := ⟨_, rfl⟩
      obtain ⟨py, hpy⟩ : ∃ py, py = (placeOf out k.at).2 := ⟨_, rfl⟩
      obtain ⟨ox, hox⟩ : ∃ ox, ox = (placeOf src k.loc).1 := ⟨_, rfl⟩
      obtain ⟨oy, hoy⟩ : ∃ oy, oy = (placeOf src k.loc).2 := ⟨_, rfl⟩
      have HPX := Lib.hid hpx
      have HPY := Lib.hid hpy
      have HOX := Lib.hid hox
      have HOY := Lib.hid hoy
      clear hpx hpy hox hoy
      obtain ⟨lz, hlz⟩ : ∃ lz, lz = lineOf out ms i := ⟨_, rfl⟩
      rw [← hlz]
      have HLZ := Lib.hid hlz
      clear hlz
      go_cut [25, 26] (fun t u wx => ∃ b25 b26, t = .pointer (some ⟨b25, 0, none⟩) ∧ u = .pointer (some ⟨b26, 0, none⟩) ∧ Blk wx b25 39 [.int .i64 px, .int .i64 py] ∧ Blk wx b26 39 [.int .i64 ox, .int .i64 oy] ∧ Below W1.heap.size W1 wx)
      case first =>
        refine region23 src out k b7 px py ox oy W1 _ HK7.out hos hss f1 f3 (fun _ _ d _ _ h => by cases d <;> exact h) HPX.out HPY.out HOX.out HOY.out ?_
        intro b25 b26 u163 u164 u165 u166 u167 u168 u169 u170 wx k25 k26 hbx
        go_wp2_with fail
        go_meet
        exact ⟨_, _, rfl, rfl, k25, k26, hbx⟩
      case rest =>
        obtain ⟨b25, b26, rfl, rfl, k25, k26, hbc⟩ := hcut
        obtain ⟨W2, hW2⟩ : ∃ W2, W2 = wc := ⟨_, rfl⟩
        rw [← hW2] at k25 k26 hbc ⊢
        clear hW2
        have HB2 := Lib.hid (up HB1.out hbc)
        have HK25 := Lib.hid k25
        have HK26 := Lib.hid k26
        have HK72 : Hid (Blk W2 b7 45 [.int .i64 k.at, .int .i64 k.loc, .string k.name]) := Lib.hid (HK7.out.below hbc b7l)
        clear hbc k25 k26 e0 e1 HK7 b7l HB1 HB
        obtain ⟨ag, hag⟩ : ∃ ag, ag = again ms i := ⟨_, rfl⟩
        have HAG := Lib.hid hag
        clear hag
        have e1 : W2.cell? ⟨b7, 1, none⟩ = some (.int .i64 k.loc) := HK72.out.get 1 rfl
        have e2 : W2.cell? ⟨b7, 2, none⟩ = some (.string k.name) := HK72.out.get 2 rfl
        go_upto_region 24 with fail
        go_cut [27] (fun t wx => t = .bool ag ∧ ∃ n, wx = W2.drewN n)
        case first =>
          rcases Nat.eq_zero_or_pos i with hi0 | hi0
          · have p0 : ¬ 0 < i := by omega
            have HV : Hid (ag = false) := Lib.hid (by rw [HAG.out, hi0]; rfl)
            clear hi0
            go_quiet (fail)
            go_wp2_with fail
            go_meet
            exact ⟨by rw [HV.out], nq, rfl⟩
          · obtain ⟨j, rfl⟩ : ∃ j, i = j + 1 := ⟨i - 1, by omega⟩
            have p0 : 0 < j + 1 := by omega
            obtain ⟨kj, hkj⟩ : ∃ kj, ms[j]? = some kj := ⟨_, List.getElem?_eq_getElem (by rw [← HN.out]; omega)⟩
            obtain ⟨b', o', hA, _, _, m1, m2⟩ := HMM.out W2 HB2.out j kj hkj
            injection hA with hA
            injection hA with hA1 hA2
            subst hA1 hA2
            have qk : IntKind.i64.wrap (j : Int) = j := IntWalk.i64_in _ (by omega)
            have HV : Hid (ag = decide (k.loc = kj.loc ∧ k.name = kj.name)) := Lib.hid (by
              rw [HAG.out, again, hkj, HK.out])
            clear hkj
            by_cases hl : k.loc = kj.loc
            · have q1 : ((k.loc : Int) == (kj.loc : Int)) = true := by simp [hl]
              have HV2 : Hid (ag = decide (k.name = kj.name)) := Lib.hid (by rw [HV.out]; simp [hl])
              have HL := Lib.hid hl
              clear hl
              go_quiet (fail)
              go_wp2_with fail
              go_meet
              exact ⟨by rw [HV2.out, toList_beq], nq, rfl⟩
            · have q1 : ((k.loc : Int) == (kj.loc : Int)) = false := by simp; omega
              have HV2 : Hid (ag = false) := Lib.hid (by rw [HV.out]; simp [hl])
              have HL := Lib.hid hl
              clear hl
              go_quiet (fail)
              go_wp2_with fail
              go_meet
              exact ⟨by rw [HV2.out], nq, rfl⟩
        case rest =>
          obtain ⟨rfl, n3, rfl⟩ := hcut
          obtain ⟨W3, hW3⟩ : ∃ W3, W3 = W2.drewN n3 := ⟨_, rfl⟩
          have hb3 : Below W2.heap.size W2 W3 := by rw [hW3]; exact below_drewN (Below.refl _ _) n3
          rw [← hW3]
          clear hW3 e1 e2
          have HB3 := Lib.hid (up HB2.out hb3)
          have k25 := HK25.out.below hb3 HK25.out.lt
          have k26 := HK26.out.below hb3 HK26.out.lt
          have HK73 := Lib.hid (HK72.out.below hb3 HK72.out.lt)
          have x0 : W3.cell? ⟨b25, 0, none⟩ = some (.int .i64 px) := k25.get 0 rfl
          have x1 : W3.cell? ⟨b25, 1, none⟩ = some (.int .i64 py) := k25.get 1 rfl
          have y0 : W3.cell? ⟨b26, 0, none⟩ = some (.int .i64 ox) := k26.get 0 rfl
          have y1 : W3.cell? ⟨b26, 1, none⟩ = some (.int .i64 oy) := k26.get 1 rfl
          clear k25 k26 hb3
          obtain ⟨sk, hsk⟩ : ∃ sk, sk = (ag && !decide ((px : Int) = lz)) := ⟨_, rfl⟩
          have HSK := Lib.hid hsk
          clear hsk
          go_upto_region 25 with fail
          go_cut [201] (fun t wx => t = .bool sk ∧ wx = W3)
          case first =>
            cases ag with
            | false =>
              go_wp2_with fail
              go_meet
              exact ⟨by rw [HSK.out]; rfl, rfl⟩
            | true =>
              by_cases hp : (px : Int) = lz
              · have q1 : ((px : Int) != lz) = false := by simp [hp]
                have HV : Hid (sk = false) := Lib.hid (by rw [HSK.out, decide_eq_true hp]; rfl)
                clear hp
                go_wp2_with fail
                go_meet
                exact ⟨by rw [HV.out], rfl⟩
              · have q1 : ((px : Int) != lz) = true := by simp [hp]
                have HV : Hid (sk = true) := Lib.hid (by rw [HSK.out, decide_eq_false hp]; rfl)
                clear hp
                go_wp2_with fail
                go_meet
                exact ⟨by rw [HV.out], rfl⟩
          case rest =>
            obtain ⟨rfl, rfl⟩ := hcut
            obtain ⟨W4, hW4⟩ : ∃ W4, W4 = wc := ⟨_, rfl⟩
            subst hW4
            cases sk with
            | true =>
              have HV : Hid (lz = lineOf out ms (i + 1)) := Lib.hid (by
                have h := HSK.out
                cases ag with
                | false => cases h
                | true => rw [HLZ.out]; exact (line_again HAG.out.symm).symm)
              clear x0 x1 y0 y1
              go_wp2_with fail
              go_roundg (n - (i + 1))
              case rel => exact ⟨i + 1, by omega, val_int (by omega), by rw [HV.out], HB3⟩
              case measure => omega
            | false =>
              have HHIT := Lib.hid (law_hit HLED.out HF.out HK.out (fun ha => by
                have h := HSK.out
                rw [HAG.out, ha] at h
                have h2 : ¬ ¬ ((px : Int) = lz) := by
                  intro hn
                  rw [decide_eq_false hn] at h
                  cases h
                rw [← HPX.out, ← HLZ.out]
                exact Decidable.not_not.1 h2))
              rw [← HPX.out, ← HPY.out, ← HOX.out, ← HOY.out, ← HAG.out] at HHIT
              obtain ⟨nn, m, hfd, hEm, hm1, hm2, hm3⟩ := HHIT.out
              have HMF := Lib.hid (mapFind base (.slice Al nE cl) E px py W4 (HOW.out W4 HB3.out) HEL.out)
              rw [hfd] at HMF
              obtain ⟨gE, hAl, hgE, l0, l1, _, l3, l4, l5⟩ := HLL.out W4 HB3.out nn m hEm
              subst hAl
              have hnl : nn < nE := by
                rw [HEE.out]
                rcases Nat.lt_or_ge nn E.length with h | h
                · exact h
                · rw [List.getElem?_eq_none h] at hEm; cases hEm
              have hnl' : (nn : Int) < nE := by omega
              have HM3 := Lib.hid hm3
              have HMEL := HEL.out
              have hnE9 : nE ≤ 1000000000 := by rw [HEE.out]; exact HMEL
              rw [hm1] at l3
              rw [hm2] at l4
              have HNE := Lib.hid hnE9
              clear hfd hEm hm1 hm2 hm3 HHIT HMEL
              go_upto_region 26 with fail
              go_wp2_with fail
              refine (HMF.out).mono ?_
              rintro e w5 ⟨rfl, rfl⟩
              have p1 : ¬ (nn : Int) < 0 := by omega
              go_upto_region 27 with fail
              go_cut [229] (fun t wx => t = .bool false ∧ ∃ q, wx = w5.drewN q)
              case first =>
                go_quiet (fail)
                go_wp2_with fail
                go_meet
                exact ⟨rfl, nq, rfl⟩
              case rest =>
                obtain ⟨rfl, n6, rfl⟩ := hcut
                obtain ⟨W6, hW6⟩ : ∃ W6, W6 = w5.drewN n6 := ⟨_, rfl⟩
                have hb6 : Below w5.heap.size w5 W6 := by rw [hW6]; exact below_drewN (Below.refl _ _) n6
                rw [← hW6]
                have l0 : W6.cell? ⟨gE, nn * 6, none⟩ = some (.int .i64 m.line) := by rw [hW6]; exact l0
                have l1 : W6.cell? ⟨gE, nn * 6 + 1, none⟩ = some (.int .i64 m.col) := by rw [hW6]; exact l1
                have l5 : W6.cell? ⟨gE, nn * 6 + 5, none⟩ = some (.int .i64 m.name) := by rw [hW6]; exact l5
                have x0 : W6.cell? ⟨b25, 0, none⟩ = some (.int .i64 px) := by rw [hW6]; exact x0
                have x1 : W6.cell? ⟨b25, 1, none⟩ = some (.int .i64 py) := by rw [hW6]; exact x1
                have e2 : W6.cell? ⟨b7, 2, none⟩ = some (.string k.name) := by rw [hW6]; exact HK73.out.get 2 rfl
                clear hW6 y0 y1 l3 l4
                have HB6 := Lib.hid (up HB3.out hb6)
                clear hb6
                cases ag with
                | true =>
                  have HV : Hid (lz = lineOf out ms (i + 1)) := Lib.hid (by rw [HLZ.out]; exact (line_again HAG.out.symm).symm)
                  clear x0 x1 e2 l0 l1 l5 hnl hnl' hgE
                  go_wp2_with fail
                  go_roundg (n - (i + 1))
                  case rel => exact ⟨i + 1, by omega, val_int (by omega), by rw [HV.out], HB6⟩
                  case measure => omega
                | false =>
                  obtain ⟨hm1, hm2, hm3⟩ := HM3.out rfl
                  rw [hm1] at l0
                  rw [hm2] at l1
                  have HV : Hid ((px : Int) = lineOf out ms (i + 1)) := Lib.hid (by rw [HPX.out]; exact (line_new HAG.out.symm HK.out).symm)
                  obtain ⟨mn, hmn⟩ : ∃ mn, mn = m.name := ⟨_, rfl⟩
                  rw [← hmn] at l5 hm3
                  have HM9 := Lib.hid hm3
                  clear hmn hm1 hm2 hm3
                  go_upto_region 31 with fail
                  go_cut [262] (fun t wx => t = .bool false ∧ ∃ q, wx = W6.drewN q)
                  case first =>
                    obtain ⟨knm, hknm⟩ : ∃ s, s = k.name := ⟨_, rfl⟩
                    rw [← hknm] at e2
                    have HKN := Lib.hid hknm
                    clear hknm
                    by_cases hz : knm = ByteArray.empty
                    · have q1 : mn < 0 := (HM9.out).1 (by rw [← HKN.out]; exact hz)
                      have q2 : knm.toList.isEmpty = true := by rw [hz]; exact isEmpty_empty
                      clear hz
                      go_quiet (fail)
                      go_wp2_with fail
                      go_meet
                      exact ⟨rfl, nq, rfl⟩
                    · have q1 : ¬ mn < 0 := fun h => hz (by rw [HKN.out]; exact (HM9.out).2 h)
                      have q2 : knm.toList.isEmpty = false := isEmpty_of hz
                      clear hz
                      go_quiet (fail)
                      go_wp2_with fail
                      go_meet
                      exact ⟨rfl, nq, rfl⟩
                  case rest =>
                    obtain ⟨rfl, n7, rfl⟩ := hcut
                    obtain ⟨W7, hW7⟩ : ∃ W7, W7 = W6.drewN n7 := ⟨_, rfl⟩
                    have HB7 : Hid (Below W.heap.size W W7) := Lib.hid (by rw [hW7]; exact below_drewN HB6.out n7)
                    rw [← hW7]
                    clear hW7
                    go_wp2_with fail
                    go_roundg (n - (i + 1))
                    case rel => exact ⟨i + 1, by omega, val_int (by omega), by rw [HV.out], HB7⟩
                    case measure => omega
    · have hii : ¬ (i : Int) < n := by omega
      obtain ⟨lz, hlz⟩ : ∃ lz, lz = lineOf out ms i := ⟨_, rfl⟩
      rw [← hlz]
      clear hlz
      go_wp2_with fail
      exact HP.out _ (up HW.out HB.out)
end Go.Proofs.Ytobhlppdolekoaa.Ch
