/- The law's loop over the mappings. The walk. -/
import Derived.Test.YtobhlppdolekoaaClI
namespace Go.Proofs.Ytobhlppdolekoaa.Ch
open Go.RowKit Go.Proofs.Ytobhlppdolekoaa.Aid Go.Proofs.Ytobhlppdolekoaa.Bytes Go.Proofs.Ytobhlppdolekoaa.Runes Go.Proofs.Ytobhlppdolekoaa.Wtf
attribute [local go_sem ↓] Go.wp_at_zero Go.wp_at_succ
set_option linter.unusedVariables false
set_option linter.unusedSimpArgs false
noncomputable def tail13 : Code := (Try.f3.body.bind (sub 13)).getD .skip
set_option maxRecDepth 100000 in
set_option maxHeartbeats 16000000 in
theorem lawMaps {x3 x4 x5 x6 x7 x8 x9 x10 x11 x12 x13 x15 x16 x18 x19 x20 x21 x22 x23 x24 x25 x26 x27 x28 x29 x30 x31 x32 x33 x34 x35 x36 x37 x38 x39 x40 x41 x42 x43 x44 x45 x46 x47 x48 x49 x50 x51 x52 x53 x54 x55 x56 x57 x58 x59 x60 x61 x62 x63 x64 x65 x66 x67 x68 x69 x70 x71 x72 x73 x74 x75 x76 x77 x78 x79 x80 x81 x82 x83 x84 x85 x86 x87 x88 x89 x90 x91 x92 x93 x94 x95 x96 x97 x98 x99 x100 x101 x102 x103 x104 x105 x106 x107 x108 x109 x110 x111 x112 x113 x114 x115 x116 x117 x118 x119 x120 x121 x122 x123 x124 x125 x126 x127 x128 x129 x130 x131 x132 x133 x134 x135 x136 x137 x138 x139 x140 x141 x142 x143 x144 x145 x146 x147 x148 x149 x150 x151 x152 x153 x154 x155 x156 x157 x158 x159 x160 x161 x162 x163 x164 x165 x166 x167 x168 x169 x170 x171 x172 x173 x174 x175 x176 x177 x178 x179 x180 x181 x182 x183 x184 x185 x186 x187 x188 x189 x190 x191 x192 x193 x194 x195 x196 x197 x198 x199 x200 x201 x202 x203 x204 x205 x206 x207 x208 x209 x210 x211 x212 x213 x214 x215 x216 x217 x218 x219 x220 x221 x222 x223 x224 x225 x226 x227 x228 x229 x230 x231 x232 x233 x234 x235 x236 x237 x238 x239 x240 x241 x242 x243 x244 x245 x246 x247 x248 x249 x250 x251 x252 x253 x254 x255 x256 x257 x258 x259 x260 x261 x262 x263 : Value} (src out : ByteArray) (ns : List ByteArray) (ms : List Mk) (E : List Mp) (base : Nat) (A1 : Option Addr) (c1 p : Nat) (A2 : Option Addr) (c2 n : Nat) (Al : Option Addr) (cl nE : Nat) (w W : World) (Post : Ending → World → Prop)
    (hp : p = ns.length) (hn : n = ms.length) (hE : nE = E.length) (hf : MFit src out ms) (hled : Led src out ms E) (heach : ∀ m ∈ E, From src out ns ms m) (hns : ns.length ≤ 500) (hNA : NAt W A1 ns) (hM : Marks W A2 ms) (hown : W.ownsRow base 42 6 (.slice Al nE cl) E.length (mcells E)) (hEl : E.length ≤ 1000000000) (hw : Below w.heap.size w W)
    (hP : ∀ w', Below w.heap.size w w' → Post (.returned (.bool true)) w') :
    Code.wp Try.prog tail13 (bodyPost Try.prog Try.f3 Post) ⟨#[.string src, .string out, .slice A2 n c2, x3, x4, x5, x6, x7, x8, x9, x10, x11, x12, x13, .slice Al nE cl, x15, x16, .slice A1 p c1, x18, x19, x20, x21, x22, x23, x24, x25, x26, x27, x28, x29, x30, x31, x32, x33, x34, x35, x36, x37, x38, x39, x40, x41, x42, x43, x44, x45, x46, x47, x48, x49, x50, x51, x52, x53, x54, x55, x56, x57, x58, x59, x60, x61, x62, x63, x64, x65, x66, x67, x68, x69, x70, x71, x72, x73, x74, x75, x76, x77, x78, x79, x80, x81, x82, x83, x84, x85, x86, x87, x88, x89, x90, x91, x92, x93, x94, x95, x96, x97, x98, x99, x100, x101, x102, x103, x104, x105, x106, x107, x108, x109, x110, x111, x112, x113, x114, x115, x116, x117, x118, x119, x120, x121, x122, x123, x124, x125, x126, x127, x128, x129, x130, x131, x132, x133, x134, x135, x136, x137, x138, x139, x140, x141, x142, x143, x144, x145, x146, x147, x148, x149, x150, x151, x152, x153, x154, x155, x156, x157, x158, x159, x160, x161, x162, x163, x164, x165, x166, x167, x168, x169, x170, x171, x172, x173, x174, x175, x176, x177, x178, x179, x180, x181, x182, x183, x184, x185, x186, x187, x188, x189, x190, x191, x192, x193, x194, x195, x196, x197, x198, x199, x200, x201, x202, x203, x204, x205, x206, x207, x208, x209, x210, x211, x212, x213, x214, x215, x216, x217, x218, x219, x220, x221, x222, x223, x224, x225, x226, x227, x228, x229, x230, x231, x232, x233, x234, x235, x236, x237, x238, x239, x240, x241, x242, x243, x244, x245, x246, x247, x248, x249, x250, x251, x252, x253, x254, x255, x256, x257, x258, x259, x260, x261, x262, x263], []⟩ W := by
  conv => arg 2; whnf
  have hLA : LAt W Al E := by
    have h := hown
    rw [hE] at h
    exact LAt.of h
  have HNN := Lib.hid (fun (V : World) (hb : Below W.heap.size W V) => hNA.below hb)
  have HMM := Lib.hid (fun (V : World) (hb : Below W.heap.size W V) => hM.below hb)
  have HLL := Lib.hid (fun (V : World) (hb : Below W.heap.size W V) => hLA.below hb)
  have HOW := Lib.hid (fun (V : World) (hb : Below W.heap.size W V) => own_keep hown hb)
  have HF := Lib.hid hf
  have HEA := Lib.hid heach
  have HLED := Lib.hid hled
  have HP := Lib.hid hP
  have HW := Lib.hid hw
  have HN := Lib.hid hn
  have HPP := Lib.hid hp
  have HNS := Lib.hid hns
  have HEE := Lib.hid hE
  have HEL := Lib.hid hEl
  have hnE : nE ≤ 1000000000 := by rw [hE]; exact hEl
  clear hp hn hE hf hled heach hns hNA hM hown hEl hw hP hLA
  go_upto_block 0 with fail
  go_cut [8] (fun t wx => Below W.heap.size W wx)
  case first =>
    go_wp2_with fail
    go_loopg [144] nE (fun m iv wr => ∃ i : Nat, i + m = nE ∧ iv = .int .i64 i ∧ Hid (Below W.heap.size W wr))
    case atStart => exact ⟨0, by omega, rfl, Lib.hid (Below.refl _ _)⟩
    case round =>
      obtain ⟨i, him, rfl, HB⟩ := hrel
      by_cases hlt : i < nE
      · have hlt' : (i : Int) < nE := by omega
        obtain ⟨m, hm⟩ : ∃ m, E[i]? = some m := ⟨_, List.getElem?_eq_getElem (by rw [← HEE.out]; exact hlt)⟩
        obtain ⟨g, hA, hg, l0, l1, l2, l3, l4, l5⟩ := HLL.out wr HB.out i m hm
        subst hA
        have HMEM := Lib.hid (List.mem_of_getElem? hm)
        clear hm
        go_upto_region 16 with fail
        obtain ⟨W1, hW1⟩ : ∃ W1, W1 = wr.alloc (.cells #[.int .i64 m.line, .int .i64 m.col, .int .i64 m.src, .int .i64 m.ol, .int .i64 m.oc, .int .i64 m.name] 42) := ⟨_, rfl⟩
        have b1 : Below wr.heap.size wr W1 := by rw [hW1]; exact below_at (Below.refl _ _) _
        have k7 : Blk W1 wr.heap.size 42 [.int .i64 m.line, .int .i64 m.col, .int .i64 m.src, .int .i64 m.ol, .int .i64 m.oc, .int .i64 m.name] := by rw [hW1]; exact Blk.new wr 42 [.int .i64 m.line, .int .i64 m.col, .int .i64 m.src, .int .i64 m.ol, .int .i64 m.oc, .int .i64 m.name]
        rw [← hW1]
        clear hW1 l0 l1 l2 l3 l4 l5
        have HB1 := Lib.hid (up HB.out b1)
        obtain ⟨b7, hb7⟩ : ∃ b7, b7 = wr.heap.size := ⟨_, rfl⟩
        rw [← hb7] at k7 ⊢
        clear hb7 b1 hg
        have e0 : W1.cell? ⟨b7, 0, none⟩ = some (.int .i64 m.line) := k7.get 0 rfl
        have e1 : W1.cell? ⟨b7, 1, none⟩ = some (.int .i64 m.col) := k7.get 1 rfl
        have e2 : W1.cell? ⟨b7, 2, none⟩ = some (.int .i64 m.src) := k7.get 2 rfl
        have e3 : W1.cell? ⟨b7, 3, none⟩ = some (.int .i64 m.ol) := k7.get 3 rfl
        have e4 : W1.cell? ⟨b7, 4, none⟩ = some (.int .i64 m.oc) := k7.get 4 rfl
        have e5 : W1.cell? ⟨b7, 5, none⟩ = some (.int .i64 m.name) := k7.get 5 rfl
        clear k7
        have HFW : Hid (Calls Try.prog 11 #[.agg #[.int .i64 m.line, .int .i64 m.col, .int .i64 m.src, .int .i64 m.ol, .int .i64 m.oc, .int .i64 m.name], .slice A1 p c1, .string src, .string out, .slice A2 n c2] W1 fun e w' => e = .returned (.bool true) ∧ Below W1.heap.size W1 w') := Lib.hid (by
          have h := fromWalk src out ns ms m A1 c1 A2 c2 W1 (HNN.out W1 HB1.out) (HMM.out W1 HB1.out) (by have := HNS.out; omega) HF.out.len HF.out.srcs HF.out.outs (fun k hk => ⟨(HF.out.each k hk).1, (HF.out.each k hk).2.2.1⟩) (HEA.out m HMEM.out)
          rw [← HPP.out, ← HN.out] at h
          exact h)
        go_wp2_with fail
        refine (HFW.out).mono ?_
        rintro e w2 ⟨rfl, hb2⟩
        have HB2 := Lib.hid (up HB1.out hb2)
        clear hb2 e0 e1 e2 e3 e4 e5
        go_wp2_with fail
        go_roundg (nE - (i + 1))
        case rel => exact ⟨i + 1, by omega, val_int (by omega), HB2⟩
        case measure => omega
      · have hii : ¬ (i : Int) < nE := by omega
        go_wp2_with fail
        go_meet
        exact HB.out
  case rest =>
    have hbc := hcut
    apply_assumption
    exact lawMarks src out ms E base A2 c2 n Al cl nE w _ Post HN.out HEE.out HF.out HLED.out (HMM.out _ hbc) (HOW.out _ hbc) HEL.out (up HW.out hbc) HP.out
end Go.Proofs.Ytobhlppdolekoaa.Ch
