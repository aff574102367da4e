/- The law's region 23: the places of a mark. The walk. -/
import Derived.Test.YtobhlppdolekoaaClH
import Derived.Test.YtobhlppdolekoaaHoist
namespace Go.Proofs.Ytobhlppdolekoaa.Hoist
open Go
section
variable {P : Program} {ops : Array Oper} {Q : Exit → Act → World → Prop} {md : Region.Mode} {S : Array Bool → World → Prop}
/-- Three may come up. -/
theorem three {i j k : Nat} {oi oj ok : Oper} {fuel : Nat} {listed : Array Bool} {a : Act} {w : World} (hi : ops[i]? = some oi) (hj : ops[j]? = some oj) (hk : ops[k]? = some ok) (hr : Region.ready md ops listed = [i, j, k])
    (h1 : ∀ K' : Act → World → Prop, (∀ a w, S (listed.setIfInBounds i true) w → wpAnyL P md ops Q S fuel (listed.setIfInBounds i true) a w → K' a w) → if Region.wanted oi (yielded ops a.tmps) = true then Oper.wp P oi a w K' Q else K' (a.put oi.dst undef) w)
    (h2 : ∀ K' : Act → World → Prop, (∀ a w, S (listed.setIfInBounds j true) w → wpAnyL P md ops Q S fuel (listed.setIfInBounds j true) a w → K' a w) → if Region.wanted oj (yielded ops a.tmps) = true then Oper.wp P oj a w K' Q else K' (a.put oj.dst undef) w)
    (h3 : ∀ K' : Act → World → Prop, (∀ a w, S (listed.setIfInBounds k true) w → wpAnyL P md ops Q S fuel (listed.setIfInBounds k true) a w → K' a w) → if Region.wanted ok (yielded ops a.tmps) = true then Oper.wp P ok a w K' Q else K' (a.put ok.dst undef) w) :
    wpAnyL P md ops Q S (fuel + 1) listed a w := by
  refine ⟨fun h0 => (by rw [hr] at h0; cases h0), fun l hl => ?_⟩
  rw [hr] at hl
  rcases (show l = i ∨ l = j ∨ l = k by simpa using hl) with rfl | rfl | rfl
  · exact wpOp_step hi fun K' hK => h1 K' fun a w h1 h2 => hK a w ⟨h1, h2⟩
  · exact wpOp_step hj fun K' hK => h2 K' fun a w h1 h2 => hK a w ⟨h1, h2⟩
  · exact wpOp_step hk fun K' hK => h3 K' fun a w h1 h2 => hK a w ⟨h1, h2⟩
end
end Go.Proofs.Ytobhlppdolekoaa.Hoist
namespace Go.Proofs.Ytobhlppdolekoaa.Ch
open Go.RowKit Go.Proofs.Ytobhlppdolekoaa.Aid Go.Proofs.Ytobhlppdolekoaa.Bytes Go.Proofs.Ytobhlppdolekoaa.Runes Go.Proofs.Ytobhlppdolekoaa.Wtf
attribute [local go_sem ↓] Go.wp_at_zero Go.wp_at_succ
set_option linter.unusedVariables false
set_option linter.unusedSimpArgs false
theorem two_one (a b : Nat) : ∀ u ∈ ([.int .i64 a, .int .i64 b] : List Value), u.oneCell' = true := by
  intro u hu
  simp only [List.mem_cons, List.not_mem_nil, or_false] at hu
  rcases hu with rfl | rfl <;> rfl
/-- The first statement. -/
def headOf : Code → Code
  | .seq a _ => a
  | c => c
noncomputable def reg23 : Code := headOf ((Try.f3.body.bind (sub 23)).getD .skip)
set_option maxRecDepth 100000 in
set_option maxHeartbeats 16000000 in
theorem region23 {x2 x3 x4 x5 x6 x7 x8 x9 x10 x11 x12 x13 x14 x15 x16 x17 x18 x19 x20 x21 x22 x23 x25 x26 x27 x28 x29 x30 x31 x32 x33 x34 x35 x36 x37 x38 x39 x40 x41 x42 x43 x44 x45 x46 x47 x48 x49 x50 x51 x52 x53 x54 x55 x56 x57 x58 x59 x60 x61 x62 x63 x64 x65 x66 x67 x68 x69 x70 x71 x72 x73 x74 x75 x76 x77 x78 x79 x80 x81 x82 x83 x84 x85 x86 x87 x88 x89 x90 x91 x92 x93 x94 x95 x96 x97 x98 x99 x100 x101 x102 x103 x104 x105 x106 x107 x108 x109 x110 x111 x112 x113 x114 x115 x116 x117 x118 x119 x120 x121 x122 x123 x124 x125 x126 x127 x128 x129 x130 x131 x132 x133 x134 x135 x136 x137 x138 x139 x140 x141 x142 x143 x144 x145 x146 x147 x148 x149 x150 x151 x152 x153 x154 x155 x156 x157 x158 x159 x160 x161 x162 x163 x164 x165 x166 x167 x168 x169 x170 x171 x172 x173 x174 x175 x176 x177 x178 x179 x180 x181 x182 x183 x184 x185 x186 x187 x188 x189 x190 x191 x192 x193 x194 x195 x196 x197 x198 x199 x200 x201 x202 x203 x204 x205 x206 x207 x208 x209 x210 x211 x212 x213 x214 x215 x216 x217 x218 x219 x220 x221 x222 x223 x224 x225 x226 x227 x228 x229 x230 x231 x232 x233 x234 x235 x236 x237 x238 x239 x240 x241 x242 x243 x244 x245 x246 x247 x248 x249 x250 x251 x252 x253 x254 x255 x256 x257 x258 x259 x260 x261 x262 x263 : Value} (src out : ByteArray) (k : Mk) (b7 px py ox oy : Nat) (W1 : World) (Q : Exit → Act → World → Prop)
    (k7 : Blk W1 b7 45 [.int .i64 k.at, .int .i64 k.loc, .string k.name]) (hos : out.size ≤ 16384) (hss : src.size ≤ 16384) (f1 : k.at ≤ out.size) (f3 : k.loc ≤ src.size)
    (hpan : ∀ c a d v w, Q (.panic c) (Act.put a d v) w → Q (.panic c) a w) (hpx : px = (placeOf out k.at).1) (hpy : py = (placeOf out k.at).2) (hox : ox = (placeOf src k.loc).1) (hoy : oy = (placeOf src k.loc).2)
    (hQ : ∀ (b25 b26 : Nat) (u163 u164 u165 u166 u167 u168 u169 u170 : Value) wx, Blk wx b25 39 [.int .i64 px, .int .i64 py] → Blk wx b26 39 [.int .i64 ox, .int .i64 oy] → Below W1.heap.size W1 wx → Q .normal ⟨#[.string src, .string out, x2, x3, x4, x5, x6, x7, x8, x9, x10, x11, x12, x13, x14, x15, x16, x17, x18, x19, x20, x21, x22, x23, .pointer (some ⟨b7, 0, none⟩), .pointer (some ⟨b25, 0, none⟩), .pointer (some ⟨b26, 0, none⟩), x27, x28, x29, x30, x31, x32, x33, x34, x35, x36, x37, x38, x39, x40, x41, x42, x43, x44, x45, x46, x47, x48, x49, x50, x51, x52, x53, x54, x55, x56, x57, x58, x59, x60, x61, x62, x63, x64, x65, x66, x67, x68, x69, x70, x71, x72, x73, x74, x75, x76, x77, x78, x79, x80, x81, x82, x83, x84, x85, x86, x87, x88, x89, x90, x91, x92, x93, x94, x95, x96, x97, x98, x99, x100, x101, x102, x103, x104, x105, x106, x107, x108, x109, x110, x111, x112, x113, x114, x115, x116, x117, x118, x119, x120, x121, x122, x123, x124, x125, x126, x127, x128, x129, x130, x131, x132, x133, x134, x135, x136, x137, x138, x139, x140, x141, x142, x143, x144, x145, x146, x147, x148, x149, x150, x151, x152, x153, x154, x155, x156, x157, x158, x159, x160, x161, x162, u163, u164, u165, u166, u167, u168, u169, u170, x171, x172, x173, x174, x175, x176, x177, x178, x179, x180, x181, x182, x183, x184, x185, x186, x187, x188, x189, x190, x191, x192, x193, x194, x195, x196, x197, x198, x199, x200, x201, x202, x203, x204, x205, x206, x207, x208, x209, x210, x211, x212, x213, x214, x215, x216, x217, x218, x219, x220, x221, x222, x223, x224, x225, x226, x227, x228, x229, x230, x231, x232, x233, x234, x235, x236, x237, x238, x239, x240, x241, x242, x243, x244, x245, x246, x247, x248, x249, x250, x251, x252, x253, x254, x255, x256, x257, x258, x259, x260, x261, x262, x263], []⟩ wx) :
    Code.wp Try.prog reg23 Q ⟨#[.string src, .string out, x2, x3, x4, x5, x6, x7, x8, x9, x10, x11, x12, x13, x14, x15, x16, x17, x18, x19, x20, x21, x22, x23, .pointer (some ⟨b7, 0, none⟩), x25, x26, x27, x28, x29, x30, x31, x32, x33, x34, x35, x36, x37, x38, x39, x40, x41, x42, x43, x44, x45, x46, x47, x48, x49, x50, x51, x52, x53, x54, x55, x56, x57, x58, x59, x60, x61, x62, x63, x64, x65, x66, x67, x68, x69, x70, x71, x72, x73, x74, x75, x76, x77, x78, x79, x80, x81, x82, x83, x84, x85, x86, x87, x88, x89, x90, x91, x92, x93, x94, x95, x96, x97, x98, x99, x100, x101, x102, x103, x104, x105, x106, x107, x108, x109, x110, x111, x112, x113, x114, x115, x116, x117, x118, x119, x120, x121, x122, x123, x124, x125, x126, x127, x128, x129, x130, x131, x132, x133, x134, x135, x136, x137, x138, x139, x140, x141, x142, x143, x144, x145, x146, x147, x148, x149, x150, x151, x152, x153, x154, x155, x156, x157, x158, x159, x160, x161, x162, x163, x164, x165, x166, x167, x168, x169, x170, x171, x172, x173, x174, x175, x176, x177, x178, x179, x180, x181, x182, x183, x184, x185, x186, x187, x188, x189, x190, x191, x192, x193, x194, x195, x196, x197, x198, x199, x200, x201, x202, x203, x204, x205, x206, x207, x208, x209, x210, x211, x212, x213, x214, x215, x216, x217, x218, x219, x220, x221, x222, x223, x224, x225, x226, x227, x228, x229, x230, x231, x232, x233, x234, x235, x236, x237, x238, x239, x240, x241, x242, x243, x244, x245, x246, x247, x248, x249, x250, x251, x252, x253, x254, x255, x256, x257, x258, x259, x260, x261, x262, x263], []⟩ W1 := by
  conv => arg 2; whnf
  have e0 : W1.cell? ⟨b7, 0, none⟩ = some (.int .i64 k.at) := k7.get 0 rfl
  have e1 : W1.cell? ⟨b7, 1, none⟩ = some (.int .i64 k.loc) := k7.get 1 rfl
  have b7l := k7.lt
  have HPN := Lib.hid (fun w => placeWalk out k.at w f1 (by omega))
  have HPO := Lib.hid (fun w => placeWalk src k.loc w f3 (by omega))
  rw [← hpx, ← hpy] at HPN
  rw [← hox, ← hoy] at HPO
  have HQ := Lib.hid hQ
  clear hos hss f1 f3 hpx hpy hox hoy k7 hQ
  have hb0 : Below W1.heap.size W1 W1.drew := below_drewN (Below.refl _ _) 1
  refine Hoist.start (S := fun _ w' => Below W1.heap.size W1 w') (by kernel_rfl) ?_
  refine Hoist.takeS (i := 0) (v := ?vm0) rfl (by kernel_rfl) (by kernel_rfl) (by kernel_rfl) (fun c a w h => hpan c a _ _ w h) ⟨by rfl, ?hym0⟩ hb0 ?restm0
  case hym0 =>
    intro w' hSw
    have d0 := bcell hSw b7l e0
    have d1 := bcell hSw b7l e1
    go_simp
    rfl
  simp only [Act.put, List.setIfInBounds_toArray, List.set_cons_zero, List.set_cons_succ]
  refine Hoist.takeS (i := 1) (v := ?vm1) rfl (by kernel_rfl) (by kernel_rfl) (by kernel_rfl) (fun c a w h => hpan c a _ _ w h) ⟨by rfl, ?hym1⟩ hb0 ?restm1
  case hym1 =>
    intro w' hSw
    have d0 := bcell hSw b7l e0
    have d1 := bcell hSw b7l e1
    go_simp
    rfl
  simp only [Act.put, List.setIfInBounds_toArray, List.set_cons_zero, List.set_cons_succ]
  refine Hoist.takeS (i := 2) (v := ?vm2) rfl (by kernel_rfl) (by kernel_rfl) (by kernel_rfl) (fun c a w h => hpan c a _ _ w h) ⟨by rfl, ?hym2⟩ hb0 ?restm2
  case hym2 =>
    intro w' hSw
    have d0 := bcell hSw b7l e0
    have d1 := bcell hSw b7l e1
    go_simp
    rfl
  simp only [Act.put, List.setIfInBounds_toArray, List.set_cons_zero, List.set_cons_succ]
  refine Hoist.takeS (i := 4) (v := ?vm4) rfl (by kernel_rfl) (by kernel_rfl) (by kernel_rfl) (fun c a w h => hpan c a _ _ w h) ⟨by rfl, ?hym4⟩ hb0 ?restm4
  case hym4 =>
    intro w' hSw
    have d0 := bcell hSw b7l e0
    have d1 := bcell hSw b7l e1
    go_simp
    rfl
  simp only [Act.put, List.setIfInBounds_toArray, List.set_cons_zero, List.set_cons_succ]
  refine Hoist.takeS (i := 5) (v := ?vm5) rfl (by kernel_rfl) (by kernel_rfl) (by kernel_rfl) (fun c a w h => hpan c a _ _ w h) ⟨by rfl, ?hym5⟩ hb0 ?restm5
  case hym5 =>
    intro w' hSw
    have d0 := bcell hSw b7l e0
    have d1 := bcell hSw b7l e1
    go_simp
    rfl
  simp only [Act.put, List.setIfInBounds_toArray, List.set_cons_zero, List.set_cons_succ]
  refine Hoist.takeS (i := 6) (v := ?vm6) rfl (by kernel_rfl) (by kernel_rfl) (by kernel_rfl) (fun c a w h => hpan c a _ _ w h) ⟨by rfl, ?hym6⟩ hb0 ?restm6
  case hym6 =>
    intro w' hSw
    have d0 := bcell hSw b7l e0
    have d1 := bcell hSw b7l e1
    go_simp
    rfl
  simp only [Act.put, List.setIfInBounds_toArray, List.set_cons_zero, List.set_cons_succ]
  obtain ⟨V0, hV0⟩ : ∃ V0, V0 = W1.drew := ⟨_, rfl⟩
  have hb1 : Below W1.heap.size W1 V0 := by rw [hV0]; exact hb0
  rw [← hV0]
  clear hV0
  refine Hoist.three (i := 3) (j := 8) (k := 9) rfl rfl rfl (by kernel_rfl) ?o1_3 ?o1_8 ?o1_9
  case o1_3 =>
    intro K' hK
    go_simp
    refine (HPN.out _).mono ?_
    rintro e v2 ⟨rfl, hn2⟩
    have hbv2 : Below W1.heap.size W1 v2 := up hb1 hn2
    refine hK _ _ hbv2 ?_
    clear hK K'
    refine Hoist.three (i := 7) (j := 8) (k := 9) rfl rfl rfl (by kernel_rfl) ?o3_7 ?o3_8 ?o3_9
    case o3_7 =>
      intro K' hK
      go_simp
      refine (HPO.out _).mono ?_
      rintro e v4 ⟨rfl, hn4⟩
      have hbv4 : Below W1.heap.size W1 v4 := up hbv2 hn4
      refine hK _ _ hbv4 ?_
      clear hK K'
      refine Hoist.pair (i := 8) (j := 9) rfl rfl (by kernel_rfl) ?o5_8 ?o5_9
      case o5_8 =>
        intro K' hK
        go_simp
        obtain ⟨v6, hw6⟩ : ∃ v, v = v4.alloc (.cells #[.int .i64 0, .int .i64 0] 39) := ⟨_, rfl⟩
        have hn6 : Below v4.heap.size v4 v6 := by rw [hw6]; exact below_at (Below.refl _ _) _
        have hbv6 : Below W1.heap.size W1 v6 := up hbv4 hn6
        have kz6_8 : Blk v6 v4.heap.size 39 [.int .i64 0, .int .i64 0] := by rw [hw6]; exact Blk.new v4 39 [.int .i64 0, .int .i64 0]
        have hge6 : W1.heap.size ≤ v4.heap.size := hbv4.size
        rw [← hw6]
        clear hw6
        obtain ⟨bq6, hbq6⟩ : ∃ q, q = v4.heap.size := ⟨_, rfl⟩
        rw [← hbq6] at kz6_8 hge6 ⊢
        clear hbq6
        refine hK _ _ hbv6 ?_
        clear hK K'
        refine Hoist.only (i := 9) rfl (by kernel_rfl) ?_
        intro K' hK
        go_simp
        obtain ⟨v7, hw7⟩ : ∃ v, v = v6.alloc (.cells #[.int .i64 0, .int .i64 0] 39) := ⟨_, rfl⟩
        have hn7 : Below v6.heap.size v6 v7 := by rw [hw7]; exact below_at (Below.refl _ _) _
        have hbv7 : Below W1.heap.size W1 v7 := up hbv6 hn7
        have kz7_9 : Blk v7 v6.heap.size 39 [.int .i64 0, .int .i64 0] := by rw [hw7]; exact Blk.new v6 39 [.int .i64 0, .int .i64 0]
        have hge7 : W1.heap.size ≤ v6.heap.size := hbv6.size
        have kz7_8 := kz6_8.below hn7 kz6_8.lt
        rw [← hw7]
        clear hw7
        obtain ⟨bq7, hbq7⟩ : ∃ q, q = v6.heap.size := ⟨_, rfl⟩
        rw [← hbq7] at kz7_9 hge7 ⊢
        have hlt7_8 : bq6 < bq7 := by rw [hbq7]; exact kz6_8.lt
        clear hbq7
        refine hK _ _ hbv7 ?_
        clear hK K'
        have hne : bq6 ≠ bq7 := by have := kz7_8.lt; have := kz7_9.lt; omega
        refine Hoist.only (i := 10) rfl (by kernel_rfl) ?_
        intro K' hK
        refine step_store_blk (by rfl) 39 (.tmp 25) (.tmp 166) (by rfl) bq6 [.int .i64 0, .int .i64 0] [.int .i64 px, .int .i64 py] 39 (by rfl) (by rfl) kz7_8 rfl info39 (two_one px py) ?_
        intro wa ka ga _
        have kb : Blk wa bq7 39 [.int .i64 0, .int .i64 0] := kz7_9.grown ga (by intro e; injection e with e; exact hne e.symm)
        have hba : Below W1.heap.size W1 wa := below_of_only hbv7 hbv7.size ga (fun k hk => by injection hk with hk; omega)
        refine hK _ _ hba ?_
        clear hK K'
        simp only [Act.put, List.setIfInBounds_toArray, List.set_cons_zero, List.set_cons_succ]
        refine Hoist.only (i := 11) rfl (by kernel_rfl) ?_
        intro K' hK
        refine step_store_blk (by rfl) 39 (.tmp 26) (.tmp 170) (by rfl) bq7 [.int .i64 0, .int .i64 0] [.int .i64 ox, .int .i64 oy] 39 (by rfl) (by rfl) kb rfl info39 (two_one ox oy) ?_
        intro wb kc gb _
        have ka' : Blk wb bq6 39 [.int .i64 px, .int .i64 py] := ka.grown gb (by intro e; injection e with e; exact hne e)
        have hbb : Below W1.heap.size W1 wb := below_of_only hba hba.size gb (fun k hk => by injection hk with hk; omega)
        refine hK _ _ hbb ?_
        clear hK K'
        simp only [Act.put, List.setIfInBounds_toArray, List.set_cons_zero, List.set_cons_succ]
        refine Hoist.over (by kernel_rfl) ?_ _
        go_simp
        exact HQ.out _ _ _ _ _ _ _ _ _ _ _ ka' kc hbb
      case o5_9 =>
        intro K' hK
        go_simp
        obtain ⟨v8, hw8⟩ : ∃ v, v = v4.alloc (.cells #[.int .i64 0, .int .i64 0] 39) := ⟨_, rfl⟩
        have hn8 : Below v4.heap.size v4 v8 := by rw [hw8]; exact below_at (Below.refl _ _) _
        have hbv8 : Below W1.heap.size W1 v8 := up hbv4 hn8
        have kz8_9 : Blk v8 v4.heap.size 39 [.int .i64 0, .int .i64 0] := by rw [hw8]; exact Blk.new v4 39 [.int .i64 0, .int .i64 0]
        have hge8 : W1.heap.size ≤ v4.heap.size := hbv4.size
        rw [← hw8]
        clear hw8
        obtain ⟨bq8, hbq8⟩ : ∃ q, q = v4.heap.size := ⟨_, rfl⟩
        rw [← hbq8] at kz8_9 hge8 ⊢
        clear hbq8
        refine hK _ _ hbv8 ?_
        clear hK K'
        refine Hoist.only (i := 8) rfl (by kernel_rfl) ?_
        intro K' hK
        go_simp
        obtain ⟨v9, hw9⟩ : ∃ v, v = v8.alloc (.cells #[.int .i64 0, .int .i64 0] 39) := ⟨_, rfl⟩
        have hn9 : Below v8.heap.size v8 v9 := by rw [hw9]; exact below_at (Below.refl _ _) _
        have hbv9 : Below W1.heap.size W1 v9 := up hbv8 hn9
        have kz9_8 : Blk v9 v8.heap.size 39 [.int .i64 0, .int .i64 0] := by rw [hw9]; exact Blk.new v8 39 [.int .i64 0, .int .i64 0]
        have hge9 : W1.heap.size ≤ v8.heap.size := hbv8.size
        have kz9_9 := kz8_9.below hn9 kz8_9.lt
        rw [← hw9]
        clear hw9
        obtain ⟨bq9, hbq9⟩ : ∃ q, q = v8.heap.size := ⟨_, rfl⟩
        rw [← hbq9] at kz9_8 hge9 ⊢
        have hlt9_9 : bq8 < bq9 := by rw [hbq9]; exact kz8_9.lt
        clear hbq9
        refine hK _ _ hbv9 ?_
        clear hK K'
        have hne : bq9 ≠ bq8 := by have := kz9_8.lt; have := kz9_9.lt; omega
        refine Hoist.only (i := 10) rfl (by kernel_rfl) ?_
        intro K' hK
        refine step_store_blk (by rfl) 39 (.tmp 25) (.tmp 166) (by rfl) bq9 [.int .i64 0, .int .i64 0] [.int .i64 px, .int .i64 py] 39 (by rfl) (by rfl) kz9_8 rfl info39 (two_one px py) ?_
        intro wa ka ga _
        have kb : Blk wa bq8 39 [.int .i64 0, .int .i64 0] := kz9_9.grown ga (by intro e; injection e with e; exact hne e.symm)
        have hba : Below W1.heap.size W1 wa := below_of_only hbv9 hbv9.size ga (fun k hk => by injection hk with hk; omega)
        refine hK _ _ hba ?_
        clear hK K'
        simp only [Act.put, List.setIfInBounds_toArray, List.set_cons_zero, List.set_cons_succ]
        refine Hoist.only (i := 11) rfl (by kernel_rfl) ?_
        intro K' hK
        refine step_store_blk (by rfl) 39 (.tmp 26) (.tmp 170) (by rfl) bq8 [.int .i64 0, .int .i64 0] [.int .i64 ox, .int .i64 oy] 39 (by rfl) (by rfl) kb rfl info39 (two_one ox oy) ?_
        intro wb kc gb _
        have ka' : Blk wb bq9 39 [.int .i64 px, .int .i64 py] := ka.grown gb (by intro e; injection e with e; exact hne e)
        have hbb : Below W1.heap.size W1 wb := below_of_only hba hba.size gb (fun k hk => by injection hk with hk; omega)
        refine hK _ _ hbb ?_
        clear hK K'
        simp only [Act.put, List.setIfInBounds_toArray, List.set_cons_zero, List.set_cons_succ]
        refine Hoist.over (by kernel_rfl) ?_ _
        go_simp
        exact HQ.out _ _ _ _ _ _ _ _ _ _ _ ka' kc hbb
    case o3_8 =>
      intro K' hK
      go_simp
      obtain ⟨v10, hw10⟩ : ∃ v, v = v2.alloc (.cells #[.int .i64 0, .int .i64 0] 39) := ⟨_, rfl⟩
      have hn10 : Below v2.heap.size v2 v10 := by rw [hw10]; exact below_at (Below.refl _ _) _
      have hbv10 : Below W1.heap.size W1 v10 := up hbv2 hn10
      have kz10_8 : Blk v10 v2.heap.size 39 [.int .i64 0, .int .i64 0] := by rw [hw10]; exact Blk.new v2 39 [.int .i64 0, .int .i64 0]
      have hge10 : W1.heap.size ≤ v2.heap.size := hbv2.size
      rw [← hw10]
      clear hw10
      obtain ⟨bq10, hbq10⟩ : ∃ q, q = v2.heap.size := ⟨_, rfl⟩
      rw [← hbq10] at kz10_8 hge10 ⊢
      clear hbq10
      refine hK _ _ hbv10 ?_
      clear hK K'
      refine Hoist.pair (i := 7) (j := 9) rfl rfl (by kernel_rfl) ?o11_7 ?o11_9
      case o11_7 =>
        intro K' hK
        go_simp
        refine (HPO.out _).mono ?_
        rintro e v12 ⟨rfl, hn12⟩
        have hbv12 : Below W1.heap.size W1 v12 := up hbv10 hn12
        have kz12_8 := kz10_8.below hn12 kz10_8.lt
        refine hK _ _ hbv12 ?_
        clear hK K'
        refine Hoist.only (i := 9) rfl (by kernel_rfl) ?_
        intro K' hK
        go_simp
        obtain ⟨v13, hw13⟩ : ∃ v, v = v12.alloc (.cells #[.int .i64 0, .int .i64 0] 39) := ⟨_, rfl⟩
        have hn13 : Below v12.heap.size v12 v13 := by rw [hw13]; exact below_at (Below.refl _ _) _
        have hbv13 : Below W1.heap.size W1 v13 := up hbv12 hn13
        have kz13_9 : Blk v13 v12.heap.size 39 [.int .i64 0, .int .i64 0] := by rw [hw13]; exact Blk.new v12 39 [.int .i64 0, .int .i64 0]
        have hge13 : W1.heap.size ≤ v12.heap.size := hbv12.size
        have kz13_8 := kz12_8.below hn13 kz12_8.lt
        rw [← hw13]
        clear hw13
        obtain ⟨bq13, hbq13⟩ : ∃ q, q = v12.heap.size := ⟨_, rfl⟩
        rw [← hbq13] at kz13_9 hge13 ⊢
        have hlt13_8 : bq10 < bq13 := by rw [hbq13]; exact kz12_8.lt
        clear hbq13
        refine hK _ _ hbv13 ?_
        clear hK K'
        have hne : bq10 ≠ bq13 := by have := kz13_8.lt; have := kz13_9.lt; omega
        refine Hoist.only (i := 10) rfl (by kernel_rfl) ?_
        intro K' hK
        refine step_store_blk (by rfl) 39 (.tmp 25) (.tmp 166) (by rfl) bq10 [.int .i64 0, .int .i64 0] [.int .i64 px, .int .i64 py] 39 (by rfl) (by rfl) kz13_8 rfl info39 (two_one px py) ?_
        intro wa ka ga _
        have kb : Blk wa bq13 39 [.int .i64 0, .int .i64 0] := kz13_9.grown ga (by intro e; injection e with e; exact hne e.symm)
        have hba : Below W1.heap.size W1 wa := below_of_only hbv13 hbv13.size ga (fun k hk => by injection hk with hk; omega)
        refine hK _ _ hba ?_
        clear hK K'
        simp only [Act.put, List.setIfInBounds_toArray, List.set_cons_zero, List.set_cons_succ]
        refine Hoist.only (i := 11) rfl (by kernel_rfl) ?_
        intro K' hK
        refine step_store_blk (by rfl) 39 (.tmp 26) (.tmp 170) (by rfl) bq13 [.int .i64 0, .int .i64 0] [.int .i64 ox, .int .i64 oy] 39 (by rfl) (by rfl) kb rfl info39 (two_one ox oy) ?_
        intro wb kc gb _
        have ka' : Blk wb bq10 39 [.int .i64 px, .int .i64 py] := ka.grown gb (by intro e; injection e with e; exact hne e)
        have hbb : Below W1.heap.size W1 wb := below_of_only hba hba.size gb (fun k hk => by injection hk with hk; omega)
        refine hK _ _ hbb ?_
        clear hK K'
        simp only [Act.put, List.setIfInBounds_toArray, List.set_cons_zero, List.set_cons_succ]
        refine Hoist.over (by kernel_rfl) ?_ _
        go_simp
        exact HQ.out _ _ _ _ _ _ _ _ _ _ _ ka' kc hbb
      case o11_9 =>
        intro K' hK
        go_simp
        obtain ⟨v14, hw14⟩ : ∃ v, v = v10.alloc (.cells #[.int .i64 0, .int .i64 0] 39) := ⟨_, rfl⟩
        have hn14 : Below v10.heap.size v10 v14 := by rw [hw14]; exact below_at (Below.refl _ _) _
        have hbv14 : Below W1.heap.size W1 v14 := up hbv10 hn14
        have kz14_9 : Blk v14 v10.heap.size 39 [.int .i64 0, .int .i64 0] := by rw [hw14]; exact Blk.new v10 39 [.int .i64 0, .int .i64 0]
        have hge14 : W1.heap.size ≤ v10.heap.size := hbv10.size
        have kz14_8 := kz10_8.below hn14 kz10_8.lt
        rw [← hw14]
        clear hw14
        obtain ⟨bq14, hbq14⟩ : ∃ q, q = v10.heap.size := ⟨_, rfl⟩
        rw [← hbq14] at kz14_9 hge14 ⊢
        have hlt14_8 : bq10 < bq14 := by rw [hbq14]; exact kz10_8.lt
        clear hbq14
        refine hK _ _ hbv14 ?_
        clear hK K'
        refine Hoist.only (i := 7) rfl (by kernel_rfl) ?_
        intro K' hK
        go_simp
        refine (HPO.out _).mono ?_
        rintro e v15 ⟨rfl, hn15⟩
        have hbv15 : Below W1.heap.size W1 v15 := up hbv14 hn15
        have kz15_8 := kz14_8.below hn15 kz14_8.lt
        have kz15_9 := kz14_9.below hn15 kz14_9.lt
        refine hK _ _ hbv15 ?_
        clear hK K'
        have hne : bq10 ≠ bq14 := by have := kz15_8.lt; have := kz15_9.lt; omega
        refine Hoist.only (i := 10) rfl (by kernel_rfl) ?_
        intro K' hK
        refine step_store_blk (by rfl) 39 (.tmp 25) (.tmp 166) (by rfl) bq10 [.int .i64 0, .int .i64 0] [.int .i64 px, .int .i64 py] 39 (by rfl) (by rfl) kz15_8 rfl info39 (two_one px py) ?_
        intro wa ka ga _
        have kb : Blk wa bq14 39 [.int .i64 0, .int .i64 0] := kz15_9.grown ga (by intro e; injection e with e; exact hne e.symm)
        have hba : Below W1.heap.size W1 wa := below_of_only hbv15 hbv15.size ga (fun k hk => by injection hk with hk; omega)
        refine hK _ _ hba ?_
        clear hK K'
        simp only [Act.put, List.setIfInBounds_toArray, List.set_cons_zero, List.set_cons_succ]
        refine Hoist.only (i := 11) rfl (by kernel_rfl) ?_
        intro K' hK
        refine step_store_blk (by rfl) 39 (.tmp 26) (.tmp 170) (by rfl) bq14 [.int .i64 0, .int .i64 0] [.int .i64 ox, .int .i64 oy] 39 (by rfl) (by rfl) kb rfl info39 (two_one ox oy) ?_
        intro wb kc gb _
        have ka' : Blk wb bq10 39 [.int .i64 px, .int .i64 py] := ka.grown gb (by intro e; injection e with e; exact hne e)
        have hbb : Below W1.heap.size W1 wb := below_of_only hba hba.size gb (fun k hk => by injection hk with hk; omega)
        refine hK _ _ hbb ?_
        clear hK K'
        simp only [Act.put, List.setIfInBounds_toArray, List.set_cons_zero, List.set_cons_succ]
        refine Hoist.over (by kernel_rfl) ?_ _
        go_simp
        exact HQ.out _ _ _ _ _ _ _ _ _ _ _ ka' kc hbb
    case o3_9 =>
      intro K' hK
      go_simp
      obtain ⟨v16, hw16⟩ : ∃ v, v = v2.alloc (.cells #[.int .i64 0, .int .i64 0] 39) := ⟨_, rfl⟩
      have hn16 : Below v2.heap.size v2 v16 := by rw [hw16]; exact below_at (Below.refl _ _) _
      have hbv16 : Below W1.heap.size W1 v16 := up hbv2 hn16
      have kz16_9 : Blk v16 v2.heap.size 39 [.int .i64 0, .int .i64 0] := by rw [hw16]; exact Blk.new v2 39 [.int .i64 0, .int .i64 0]
      have hge16 : W1.heap.size ≤ v2.heap.size := hbv2.size
      rw [← hw16]
      clear hw16
      obtain ⟨bq16, hbq16⟩ : ∃ q, q = v2.heap.size := ⟨_, rfl⟩
      rw [← hbq16] at kz16_9 hge16 ⊢
      clear hbq16
      refine hK _ _ hbv16 ?_
      clear hK K'
      refine Hoist.pair (i := 7) (j := 8) rfl rfl (by kernel_rfl) ?o17_7 ?o17_8
      case o17_7 =>
        intro K' hK
        go_simp
        refine (HPO.out _).mono ?_
        rintro e v18 ⟨rfl, hn18⟩
        have hbv18 : Below W1.heap.size W1 v18 := up hbv16 hn18
        have kz18_9 := kz16_9.below hn18 kz16_9.lt
        refine hK _ _ hbv18 ?_
        clear hK K'
        refine Hoist.only (i := 8) rfl (by kernel_rfl) ?_
        intro K' hK
        go_simp
        obtain ⟨v19, hw19⟩ : ∃ v, v = v18.alloc (.cells #[.int .i64 0, .int .i64 0] 39) := ⟨_, rfl⟩
        have hn19 : Below v18.heap.size v18 v19 := by rw [hw19]; exact below_at (Below.refl _ _) _
        have hbv19 : Below W1.heap.size W1 v19 := up hbv18 hn19
        have kz19_8 : Blk v19 v18.heap.size 39 [.int .i64 0, .int .i64 0] := by rw [hw19]; exact Blk.new v18 39 [.int .i64 0, .int .i64 0]
        have hge19 : W1.heap.size ≤ v18.heap.size := hbv18.size
        have kz19_9 := kz18_9.below hn19 kz18_9.lt
        rw [← hw19]
        clear hw19
        obtain ⟨bq19, hbq19⟩ : ∃ q, q = v18.heap.size := ⟨_, rfl⟩
        rw [← hbq19] at kz19_8 hge19 ⊢
        have hlt19_9 : bq16 < bq19 := by rw [hbq19]; exact kz18_9.lt
        clear hbq19
        refine hK _ _ hbv19 ?_
        clear hK K'
        have hne : bq19 ≠ bq16 := by have := kz19_8.lt; have := kz19_9.lt; omega
        refine Hoist.only (i := 10) rfl (by kernel_rfl) ?_
        intro K' hK
        refine step_store_blk (by rfl) 39 (.tmp 25) (.tmp 166) (by rfl) bq19 [.int .i64 0, .int .i64 0] [.int .i64 px, .int .i64 py] 39 (by rfl) (by rfl) kz19_8 rfl info39 (two_one px py) ?_
        intro wa ka ga _
        have kb : Blk wa bq16 39 [.int .i64 0, .int .i64 0] := kz19_9.grown ga (by intro e; injection e with e; exact hne e.symm)
        have hba : Below W1.heap.size W1 wa := below_of_only hbv19 hbv19.size ga (fun k hk => by injection hk with hk; omega)
        refine hK _ _ hba ?_
        clear hK K'
        simp only [Act.put, List.setIfInBounds_toArray, List.set_cons_zero, List.set_cons_succ]
        refine Hoist.only (i := 11) rfl (by kernel_rfl) ?_
        intro K' hK
        refine step_store_blk (by rfl) 39 (.tmp 26) (.tmp 170) (by rfl) bq16 [.int .i64 0, .int .i64 0] [.int .i64 ox, .int .i64 oy] 39 (by rfl) (by rfl) kb rfl info39 (two_one ox oy) ?_
        intro wb kc gb _
        have ka' : Blk wb bq19 39 [.int .i64 px, .int .i64 py] := ka.grown gb (by intro e; injection e with e; exact hne e)
        have hbb : Below W1.heap.size W1 wb := below_of_only hba hba.size gb (fun k hk => by injection hk with hk; omega)
        refine hK _ _ hbb ?_
        clear hK K'
        simp only [Act.put, List.setIfInBounds_toArray, List.set_cons_zero, List.set_cons_succ]
        refine Hoist.over (by kernel_rfl) ?_ _
        go_simp
        exact HQ.out _ _ _ _ _ _ _ _ _ _ _ ka' kc hbb
      case o17_8 =>
        intro K' hK
        go_simp
        obtain ⟨v20, hw20⟩ : ∃ v, v = v16.alloc (.cells #[.int .i64 0, .int .i64 0] 39) := ⟨_, rfl⟩
        have hn20 : Below v16.heap.size v16 v20 := by rw [hw20]; exact below_at (Below.refl _ _) _
        have hbv20 : Below W1.heap.size W1 v20 := up hbv16 hn20
        have kz20_8 : Blk v20 v16.heap.size 39 [.int .i64 0, .int .i64 0] := by rw [hw20]; exact Blk.new v16 39 [.int .i64 0, .int .i64 0]
        have hge20 : W1.heap.size ≤ v16.heap.size := hbv16.size
        have kz20_9 := kz16_9.below hn20 kz16_9.lt
        rw [← hw20]
        clear hw20
        obtain ⟨bq20, hbq20⟩ : ∃ q, q = v16.heap.size := ⟨_, rfl⟩
        rw [← hbq20] at kz20_8 hge20 ⊢
        have hlt20_9 : bq16 < bq20 := by rw [hbq20]; exact kz16_9.lt
        clear hbq20
        refine hK _ _ hbv20 ?_
        clear hK K'
        refine Hoist.only (i := 7) rfl (by kernel_rfl) ?_
        intro K' hK
        go_simp
        refine (HPO.out _).mono ?_
        rintro e v21 ⟨rfl, hn21⟩
        have hbv21 : Below W1.heap.size W1 v21 := up hbv20 hn21
        have kz21_9 := kz20_9.below hn21 kz20_9.lt
        have kz21_8 := kz20_8.below hn21 kz20_8.lt
        refine hK _ _ hbv21 ?_
        clear hK K'
        have hne : bq20 ≠ bq16 := by have := kz21_8.lt; have := kz21_9.lt; omega
        refine Hoist.only (i := 10) rfl (by kernel_rfl) ?_
        intro K' hK
        refine step_store_blk (by rfl) 39 (.tmp 25) (.tmp 166) (by rfl) bq20 [.int .i64 0, .int .i64 0] [.int .i64 px, .int .i64 py] 39 (by rfl) (by rfl) kz21_8 rfl info39 (two_one px py) ?_
        intro wa ka ga _
        have kb : Blk wa bq16 39 [.int .i64 0, .int .i64 0] := kz21_9.grown ga (by intro e; injection e with e; exact hne e.symm)
        have hba : Below W1.heap.size W1 wa := below_of_only hbv21 hbv21.size ga (fun k hk => by injection hk with hk; omega)
        refine hK _ _ hba ?_
        clear hK K'
        simp only [Act.put, List.setIfInBounds_toArray, List.set_cons_zero, List.set_cons_succ]
        refine Hoist.only (i := 11) rfl (by kernel_rfl) ?_
        intro K' hK
        refine step_store_blk (by rfl) 39 (.tmp 26) (.tmp 170) (by rfl) bq16 [.int .i64 0, .int .i64 0] [.int .i64 ox, .int .i64 oy] 39 (by rfl) (by rfl) kb rfl info39 (two_one ox oy) ?_
        intro wb kc gb _
        have ka' : Blk wb bq20 39 [.int .i64 px, .int .i64 py] := ka.grown gb (by intro e; injection e with e; exact hne e)
        have hbb : Below W1.heap.size W1 wb := below_of_only hba hba.size gb (fun k hk => by injection hk with hk; omega)
        refine hK _ _ hbb ?_
        clear hK K'
        simp only [Act.put, List.setIfInBounds_toArray, List.set_cons_zero, List.set_cons_succ]
        refine Hoist.over (by kernel_rfl) ?_ _
        go_simp
        exact HQ.out _ _ _ _ _ _ _ _ _ _ _ ka' kc hbb
  case o1_8 =>
    intro K' hK
    go_simp
    obtain ⟨v22, hw22⟩ : ∃ v, v = V0.alloc (.cells #[.int .i64 0, .int .i64 0] 39) := ⟨_, rfl⟩
    have hn22 : Below V0.heap.size V0 v22 := by rw [hw22]; exact below_at (Below.refl _ _) _
    have hbv22 : Below W1.heap.size W1 v22 := up hb1 hn22
    have kz22_8 : Blk v22 V0.heap.size 39 [.int .i64 0, .int .i64 0] := by rw [hw22]; exact Blk.new V0 39 [.int .i64 0, .int .i64 0]
    have hge22 : W1.heap.size ≤ V0.heap.size := hb1.size
    rw [← hw22]
    clear hw22
    obtain ⟨bq22, hbq22⟩ : ∃ q, q = V0.heap.size := ⟨_, rfl⟩
    rw [← hbq22] at kz22_8 hge22 ⊢
    clear hbq22
    refine hK _ _ hbv22 ?_
    clear hK K'
    refine Hoist.pair (i := 3) (j := 9) rfl rfl (by kernel_rfl) ?o23_3 ?o23_9
    case o23_3 =>
      intro K' hK
      go_simp
      refine (HPN.out _).mono ?_
      rintro e v24 ⟨rfl, hn24⟩
      have hbv24 : Below W1.heap.size W1 v24 := up hbv22 hn24
      have kz24_8 := kz22_8.below hn24 kz22_8.lt
      refine hK _ _ hbv24 ?_
      clear hK K'
      refine Hoist.pair (i := 7) (j := 9) rfl rfl (by kernel_rfl) ?o25_7 ?o25_9
      case o25_7 =>
        intro K' hK
        go_simp
        refine (HPO.out _).mono ?_
        rintro e v26 ⟨rfl, hn26⟩
        have hbv26 : Below W1.heap.size W1 v26 := up hbv24 hn26
        have kz26_8 := kz24_8.below hn26 kz24_8.lt
        refine hK _ _ hbv26 ?_
        clear hK K'
        refine Hoist.only (i := 9) rfl (by kernel_rfl) ?_
        intro K' hK
        go_simp
        obtain ⟨v27, hw27⟩ : ∃ v, v = v26.alloc (.cells #[.int .i64 0, .int .i64 0] 39) := ⟨_, rfl⟩
        have hn27 : Below v26.heap.size v26 v27 := by rw [hw27]; exact below_at (Below.refl _ _) _
        have hbv27 : Below W1.heap.size W1 v27 := up hbv26 hn27
        have kz27_9 : Blk v27 v26.heap.size 39 [.int .i64 0, .int .i64 0] := by rw [hw27]; exact Blk.new v26 39 [.int .i64 0, .int .i64 0]
        have hge27 : W1.heap.size ≤ v26.heap.size := hbv26.size
        have kz27_8 := kz26_8.below hn27 kz26_8.lt
        rw [← hw27]
        clear hw27
        obtain ⟨bq27, hbq27⟩ : ∃ q, q = v26.heap.size := ⟨_, rfl⟩
        rw [← hbq27] at kz27_9 hge27 ⊢
        have hlt27_8 : bq22 < bq27 := by rw [hbq27]; exact kz26_8.lt
        clear hbq27
        refine hK _ _ hbv27 ?_
        clear hK K'
        have hne : bq22 ≠ bq27 := by have := kz27_8.lt; have := kz27_9.lt; omega
        refine Hoist.only (i := 10) rfl (by kernel_rfl) ?_
        intro K' hK
        refine step_store_blk (by rfl) 39 (.tmp 25) (.tmp 166) (by rfl) bq22 [.int .i64 0, .int .i64 0] [.int .i64 px, .int .i64 py] 39 (by rfl) (by rfl) kz27_8 rfl info39 (two_one px py) ?_
        intro wa ka ga _
        have kb : Blk wa bq27 39 [.int .i64 0, .int .i64 0] := kz27_9.grown ga (by intro e; injection e with e; exact hne e.symm)
        have hba : Below W1.heap.size W1 wa := below_of_only hbv27 hbv27.size ga (fun k hk => by injection hk with hk; omega)
        refine hK _ _ hba ?_
        clear hK K'
        simp only [Act.put, List.setIfInBounds_toArray, List.set_cons_zero, List.set_cons_succ]
        refine Hoist.only (i := 11) rfl (by kernel_rfl) ?_
        intro K' hK
        refine step_store_blk (by rfl) 39 (.tmp 26) (.tmp 170) (by rfl) bq27 [.int .i64 0, .int .i64 0] [.int .i64 ox, .int .i64 oy] 39 (by rfl) (by rfl) kb rfl info39 (two_one ox oy) ?_
        intro wb kc gb _
        have ka' : Blk wb bq22 39 [.int .i64 px, .int .i64 py] := ka.grown gb (by intro e; injection e with e; exact hne e)
        have hbb : Below W1.heap.size W1 wb := below_of_only hba hba.size gb (fun k hk => by injection hk with hk; omega)
        refine hK _ _ hbb ?_
        clear hK K'
        simp only [Act.put, List.setIfInBounds_toArray, List.set_cons_zero, List.set_cons_succ]
        refine Hoist.over (by kernel_rfl) ?_ _
        go_simp
        exact HQ.out _ _ _ _ _ _ _ _ _ _ _ ka' kc hbb
      case o25_9 =>
        intro K' hK
        go_simp
        obtain ⟨v28, hw28⟩ : ∃ v, v = v24.alloc (.cells #[.int .i64 0, .int .i64 0] 39) := ⟨_, rfl⟩
        have hn28 : Below v24.heap.size v24 v28 := by rw [hw28]; exact below_at (Below.refl _ _) _
        have hbv28 : Below W1.heap.size W1 v28 := up hbv24 hn28
        have kz28_9 : Blk v28 v24.heap.size 39 [.int .i64 0, .int .i64 0] := by rw [hw28]; exact Blk.new v24 39 [.int .i64 0, .int .i64 0]
        have hge28 : W1.heap.size ≤ v24.heap.size := hbv24.size
        have kz28_8 := kz24_8.below hn28 kz24_8.lt
        rw [← hw28]
        clear hw28
        obtain ⟨bq28, hbq28⟩ : ∃ q, q = v24.heap.size := ⟨_, rfl⟩
        rw [← hbq28] at kz28_9 hge28 ⊢
        have hlt28_8 : bq22 < bq28 := by rw [hbq28]; exact kz24_8.lt
        clear hbq28
        refine hK _ _ hbv28 ?_
        clear hK K'
        refine Hoist.only (i := 7) rfl (by kernel_rfl) ?_
        intro K' hK
        go_simp
        refine (HPO.out _).mono ?_
        rintro e v29 ⟨rfl, hn29⟩
        have hbv29 : Below W1.heap.size W1 v29 := up hbv28 hn29
        have kz29_8 := kz28_8.below hn29 kz28_8.lt
        have kz29_9 := kz28_9.below hn29 kz28_9.lt
        refine hK _ _ hbv29 ?_
        clear hK K'
        have hne : bq22 ≠ bq28 := by have := kz29_8.lt; have := kz29_9.lt; omega
        refine Hoist.only (i := 10) rfl (by kernel_rfl) ?_
        intro K' hK
        refine step_store_blk (by rfl) 39 (.tmp 25) (.tmp 166) (by rfl) bq22 [.int .i64 0, .int .i64 0] [.int .i64 px, .int .i64 py] 39 (by rfl) (by rfl) kz29_8 rfl info39 (two_one px py) ?_
        intro wa ka ga _
        have kb : Blk wa bq28 39 [.int .i64 0, .int .i64 0] := kz29_9.grown ga (by intro e; injection e with e; exact hne e.symm)
        have hba : Below W1.heap.size W1 wa := below_of_only hbv29 hbv29.size ga (fun k hk => by injection hk with hk; omega)
        refine hK _ _ hba ?_
        clear hK K'
        simp only [Act.put, List.setIfInBounds_toArray, List.set_cons_zero, List.set_cons_succ]
        refine Hoist.only (i := 11) rfl (by kernel_rfl) ?_
        intro K' hK
        refine step_store_blk (by rfl) 39 (.tmp 26) (.tmp 170) (by rfl) bq28 [.int .i64 0, .int .i64 0] [.int .i64 ox, .int .i64 oy] 39 (by rfl) (by rfl) kb rfl info39 (two_one ox oy) ?_
        intro wb kc gb _
        have ka' : Blk wb bq22 39 [.int .i64 px, .int .i64 py] := ka.grown gb (by intro e; injection e with e; exact hne e)
        have hbb : Below W1.heap.size W1 wb := below_of_only hba hba.size gb (fun k hk => by injection hk with hk; omega)
        refine hK _ _ hbb ?_
        clear hK K'
        simp only [Act.put, List.setIfInBounds_toArray, List.set_cons_zero, List.set_cons_succ]
        refine Hoist.over (by kernel_rfl) ?_ _
        go_simp
        exact HQ.out _ _ _ _ _ _ _ _ _ _ _ ka' kc hbb
    case o23_9 =>
      intro K' hK
      go_simp
      obtain ⟨v30, hw30⟩ : ∃ v, v = v22.alloc (.cells #[.int .i64 0, .int .i64 0] 39) := ⟨_, rfl⟩
      have hn30 : Below v22.heap.size v22 v30 := by rw [hw30]; exact below_at (Below.refl _ _) _
      have hbv30 : Below W1.heap.size W1 v30 := up hbv22 hn30
      have kz30_9 : Blk v30 v22.heap.size 39 [.int .i64 0, .int .i64 0] := by rw [hw30]; exact Blk.new v22 39 [.int .i64 0, .int .i64 0]
      have hge30 : W1.heap.size ≤ v22.heap.size := hbv22.size
      have kz30_8 := kz22_8.below hn30 kz22_8.lt
      rw [← hw30]
      clear hw30
      obtain ⟨bq30, hbq30⟩ : ∃ q, q = v22.heap.size := ⟨_, rfl⟩
      rw [← hbq30] at kz30_9 hge30 ⊢
      have hlt30_8 : bq22 < bq30 := by rw [hbq30]; exact kz22_8.lt
      clear hbq30
      refine hK _ _ hbv30 ?_
      clear hK K'
      refine Hoist.only (i := 3) rfl (by kernel_rfl) ?_
      intro K' hK
      go_simp
      refine (HPN.out _).mono ?_
      rintro e v31 ⟨rfl, hn31⟩
      have hbv31 : Below W1.heap.size W1 v31 := up hbv30 hn31
      have kz31_8 := kz30_8.below hn31 kz30_8.lt
      have kz31_9 := kz30_9.below hn31 kz30_9.lt
      refine hK _ _ hbv31 ?_
      clear hK K'
      refine Hoist.only (i := 7) rfl (by kernel_rfl) ?_
      intro K' hK
      go_simp
      refine (HPO.out _).mono ?_
      rintro e v32 ⟨rfl, hn32⟩
      have hbv32 : Below W1.heap.size W1 v32 := up hbv31 hn32
      have kz32_8 := kz31_8.below hn32 kz31_8.lt
      have kz32_9 := kz31_9.below hn32 kz31_9.lt
      refine hK _ _ hbv32 ?_
      clear hK K'
      have hne : bq22 ≠ bq30 := by have := kz32_8.lt; have := kz32_9.lt; omega
      refine Hoist.only (i := 10) rfl (by kernel_rfl) ?_
      intro K' hK
      refine step_store_blk (by rfl) 39 (.tmp 25) (.tmp 166) (by rfl) bq22 [.int .i64 0, .int .i64 0] [.int .i64 px, .int .i64 py] 39 (by rfl) (by rfl) kz32_8 rfl info39 (two_one px py) ?_
      intro wa ka ga _
      have kb : Blk wa bq30 39 [.int .i64 0, .int .i64 0] := kz32_9.grown ga (by intro e; injection e with e; exact hne e.symm)
      have hba : Below W1.heap.size W1 wa := below_of_only hbv32 hbv32.size ga (fun k hk => by injection hk with hk; omega)
      refine hK _ _ hba ?_
      clear hK K'
      simp only [Act.put, List.setIfInBounds_toArray, List.set_cons_zero, List.set_cons_succ]
      refine Hoist.only (i := 11) rfl (by kernel_rfl) ?_
      intro K' hK
      refine step_store_blk (by rfl) 39 (.tmp 26) (.tmp 170) (by rfl) bq30 [.int .i64 0, .int .i64 0] [.int .i64 ox, .int .i64 oy] 39 (by rfl) (by rfl) kb rfl info39 (two_one ox oy) ?_
      intro wb kc gb _
      have ka' : Blk wb bq22 39 [.int .i64 px, .int .i64 py] := ka.grown gb (by intro e; injection e with e; exact hne e)
      have hbb : Below W1.heap.size W1 wb := below_of_only hba hba.size gb (fun k hk => by injection hk with hk; omega)
      refine hK _ _ hbb ?_
      clear hK K'
      simp only [Act.put, List.setIfInBounds_toArray, List.set_cons_zero, List.set_cons_succ]
      refine Hoist.over (by kernel_rfl) ?_ _
      go_simp
      exact HQ.out _ _ _ _ _ _ _ _ _ _ _ ka' kc hbb
  case o1_9 =>
    intro K' hK
    go_simp
    obtain ⟨v33, hw33⟩ : ∃ v, v = V0.alloc (.cells #[.int .i64 0, .int .i64 0] 39) := ⟨_, rfl⟩
    have hn33 : Below V0.heap.size V0 v33 := by rw [hw33]; exact below_at (Below.refl _ _) _
    have hbv33 : Below W1.heap.size W1 v33 := up hb1 hn33
    have kz33_9 : Blk v33 V0.heap.size 39 [.int .i64 0, .int .i64 0] := by rw [hw33]; exact Blk.new V0 39 [.int .i64 0, .int .i64 0]
    have hge33 : W1.heap.size ≤ V0.heap.size := hb1.size
    rw [← hw33]
    clear hw33
    obtain ⟨bq33, hbq33⟩ : ∃ q, q = V0.heap.size := ⟨_, rfl⟩
    rw [← hbq33] at kz33_9 hge33 ⊢
    clear hbq33
    refine hK _ _ hbv33 ?_
    clear hK K'
    refine Hoist.pair (i := 3) (j := 8) rfl rfl (by kernel_rfl) ?o34_3 ?o34_8
    case o34_3 =>
      intro K' hK
      go_simp
      refine (HPN.out _).mono ?_
      rintro e v35 ⟨rfl, hn35⟩
      have hbv35 : Below W1.heap.size W1 v35 := up hbv33 hn35
      have kz35_9 := kz33_9.below hn35 kz33_9.lt
      refine hK _ _ hbv35 ?_
      clear hK K'
      refine Hoist.pair (i := 7) (j := 8) rfl rfl (by kernel_rfl) ?o36_7 ?o36_8
      case o36_7 =>
        intro K' hK
        go_simp
        refine (HPO.out _).mono ?_
        rintro e v37 ⟨rfl, hn37⟩
        have hbv37 : Below W1.heap.size W1 v37 := up hbv35 hn37
        have kz37_9 := kz35_9.below hn37 kz35_9.lt
        refine hK _ _ hbv37 ?_
        clear hK K'
        refine Hoist.only (i := 8) rfl (by kernel_rfl) ?_
        intro K' hK
        go_simp
        obtain ⟨v38, hw38⟩ : ∃ v, v = v37.alloc (.cells #[.int .i64 0, .int .i64 0] 39) := ⟨_, rfl⟩
        have hn38 : Below v37.heap.size v37 v38 := by rw [hw38]; exact below_at (Below.refl _ _) _
        have hbv38 : Below W1.heap.size W1 v38 := up hbv37 hn38
        have kz38_8 : Blk v38 v37.heap.size 39 [.int .i64 0, .int .i64 0] := by rw [hw38]; exact Blk.new v37 39 [.int .i64 0, .int .i64 0]
        have hge38 : W1.heap.size ≤ v37.heap.size := hbv37.size
        have kz38_9 := kz37_9.below hn38 kz37_9.lt
        rw [← hw38]
        clear hw38
        obtain ⟨bq38, hbq38⟩ : ∃ q, q = v37.heap.size := ⟨_, rfl⟩
        rw [← hbq38] at kz38_8 hge38 ⊢
        have hlt38_9 : bq33 < bq38 := by rw [hbq38]; exact kz37_9.lt
        clear hbq38
        refine hK _ _ hbv38 ?_
        clear hK K'
        have hne : bq38 ≠ bq33 := by have := kz38_8.lt; have := kz38_9.lt; omega
        refine Hoist.only (i := 10) rfl (by kernel_rfl) ?_
        intro K' hK
        refine step_store_blk (by rfl) 39 (.tmp 25) (.tmp 166) (by rfl) bq38 [.int .i64 0, .int .i64 0] [.int .i64 px, .int .i64 py] 39 (by rfl) (by rfl) kz38_8 rfl info39 (two_one px py) ?_
        intro wa ka ga _
        have kb : Blk wa bq33 39 [.int .i64 0, .int .i64 0] := kz38_9.grown ga (by intro e; injection e with e; exact hne e.symm)
        have hba : Below W1.heap.size W1 wa := below_of_only hbv38 hbv38.size ga (fun k hk => by injection hk with hk; omega)
        refine hK _ _ hba ?_
        clear hK K'
        simp only [Act.put, List.setIfInBounds_toArray, List.set_cons_zero, List.set_cons_succ]
        refine Hoist.only (i := 11) rfl (by kernel_rfl) ?_
        intro K' hK
        refine step_store_blk (by rfl) 39 (.tmp 26) (.tmp 170) (by rfl) bq33 [.int .i64 0, .int .i64 0] [.int .i64 ox, .int .i64 oy] 39 (by rfl) (by rfl) kb rfl info39 (two_one ox oy) ?_
        intro wb kc gb _
        have ka' : Blk wb bq38 39 [.int .i64 px, .int .i64 py] := ka.grown gb (by intro e; injection e with e; exact hne e)
        have hbb : Below W1.heap.size W1 wb := below_of_only hba hba.size gb (fun k hk => by injection hk with hk; omega)
        refine hK _ _ hbb ?_
        clear hK K'
        simp only [Act.put, List.setIfInBounds_toArray, List.set_cons_zero, List.set_cons_succ]
        refine Hoist.over (by kernel_rfl) ?_ _
        go_simp
        exact HQ.out _ _ _ _ _ _ _ _ _ _ _ ka' kc hbb
      case o36_8 =>
        intro K' hK
        go_simp
        obtain ⟨v39, hw39⟩ : ∃ v, v = v35.alloc (.cells #[.int .i64 0, .int .i64 0] 39) := ⟨_, rfl⟩
        have hn39 : Below v35.heap.size v35 v39 := by rw [hw39]; exact below_at (Below.refl _ _) _
        have hbv39 : Below W1.heap.size W1 v39 := up hbv35 hn39
        have kz39_8 : Blk v39 v35.heap.size 39 [.int .i64 0, .int .i64 0] := by rw [hw39]; exact Blk.new v35 39 [.int .i64 0, .int .i64 0]
        have hge39 : W1.heap.size ≤ v35.heap.size := hbv35.size
        have kz39_9 := kz35_9.below hn39 kz35_9.lt
        rw [← hw39]
        clear hw39
        obtain ⟨bq39, hbq39⟩ : ∃ q, q = v35.heap.size := ⟨_, rfl⟩
        rw [← hbq39] at kz39_8 hge39 ⊢
        have hlt39_9 : bq33 < bq39 := by rw [hbq39]; exact kz35_9.lt
        clear hbq39
        refine hK _ _ hbv39 ?_
        clear hK K'
        refine Hoist.only (i := 7) rfl (by kernel_rfl) ?_
        intro K' hK
        go_simp
        refine (HPO.out _).mono ?_
        rintro e v40 ⟨rfl, hn40⟩
        have hbv40 : Below W1.heap.size W1 v40 := up hbv39 hn40
        have kz40_9 := kz39_9.below hn40 kz39_9.lt
        have kz40_8 := kz39_8.below hn40 kz39_8.lt
        refine hK _ _ hbv40 ?_
        clear hK K'
        have hne : bq39 ≠ bq33 := by have := kz40_8.lt; have := kz40_9.lt; omega
        refine Hoist.only (i := 10) rfl (by kernel_rfl) ?_
        intro K' hK
        refine step_store_blk (by rfl) 39 (.tmp 25) (.tmp 166) (by rfl) bq39 [.int .i64 0, .int .i64 0] [.int .i64 px, .int .i64 py] 39 (by rfl) (by rfl) kz40_8 rfl info39 (two_one px py) ?_
        intro wa ka ga _
        have kb : Blk wa bq33 39 [.int .i64 0, .int .i64 0] := kz40_9.grown ga (by intro e; injection e with e; exact hne e.symm)
        have hba : Below W1.heap.size W1 wa := below_of_only hbv40 hbv40.size ga (fun k hk => by injection hk with hk; omega)
        refine hK _ _ hba ?_
        clear hK K'
        simp only [Act.put, List.setIfInBounds_toArray, List.set_cons_zero, List.set_cons_succ]
        refine Hoist.only (i := 11) rfl (by kernel_rfl) ?_
        intro K' hK
        refine step_store_blk (by rfl) 39 (.tmp 26) (.tmp 170) (by rfl) bq33 [.int .i64 0, .int .i64 0] [.int .i64 ox, .int .i64 oy] 39 (by rfl) (by rfl) kb rfl info39 (two_one ox oy) ?_
        intro wb kc gb _
        have ka' : Blk wb bq39 39 [.int .i64 px, .int .i64 py] := ka.grown gb (by intro e; injection e with e; exact hne e)
        have hbb : Below W1.heap.size W1 wb := below_of_only hba hba.size gb (fun k hk => by injection hk with hk; omega)
        refine hK _ _ hbb ?_
        clear hK K'
        simp only [Act.put, List.setIfInBounds_toArray, List.set_cons_zero, List.set_cons_succ]
        refine Hoist.over (by kernel_rfl) ?_ _
        go_simp
        exact HQ.out _ _ _ _ _ _ _ _ _ _ _ ka' kc hbb
    case o34_8 =>
      intro K' hK
      go_simp
      obtain ⟨v41, hw41⟩ : ∃ v, v = v33.alloc (.cells #[.int .i64 0, .int .i64 0] 39) := ⟨_, rfl⟩
      have hn41 : Below v33.heap.size v33 v41 := by rw [hw41]; exact below_at (Below.refl _ _) _
      have hbv41 : Below W1.heap.size W1 v41 := up hbv33 hn41
      have kz41_8 : Blk v41 v33.heap.size 39 [.int .i64 0, .int .i64 0] := by rw [hw41]; exact Blk.new v33 39 [.int .i64 0, .int .i64 0]
      have hge41 : W1.heap.size ≤ v33.heap.size := hbv33.size
      have kz41_9 := kz33_9.below hn41 kz33_9.lt
      rw [← hw41]
      clear hw41
      obtain ⟨bq41, hbq41⟩ : ∃ q, q = v33.heap.size := ⟨_, rfl⟩
      rw [← hbq41] at kz41_8 hge41 ⊢
      have hlt41_9 : bq33 < bq41 := by rw [hbq41]; exact kz33_9.lt
      clear hbq41
      refine hK _ _ hbv41 ?_
      clear hK K'
      refine Hoist.only (i := 3) rfl (by kernel_rfl) ?_
      intro K' hK
      go_simp
      refine (HPN.out _).mono ?_
      rintro e v42 ⟨rfl, hn42⟩
      have hbv42 : Below W1.heap.size W1 v42 := up hbv41 hn42
      have kz42_9 := kz41_9.below hn42 kz41_9.lt
      have kz42_8 := kz41_8.below hn42 kz41_8.lt
      refine hK _ _ hbv42 ?_
      clear hK K'
      refine Hoist.only (i := 7) rfl (by kernel_rfl) ?_
      intro K' hK
      go_simp
      refine (HPO.out _).mono ?_
      rintro e v43 ⟨rfl, hn43⟩
      have hbv43 : Below W1.heap.size W1 v43 := up hbv42 hn43
      have kz43_9 := kz42_9.below hn43 kz42_9.lt
      have kz43_8 := kz42_8.below hn43 kz42_8.lt
      refine hK _ _ hbv43 ?_
      clear hK K'
      have hne : bq41 ≠ bq33 := by have := kz43_8.lt; have := kz43_9.lt; omega
      refine Hoist.only (i := 10) rfl (by kernel_rfl) ?_
      intro K' hK
      refine step_store_blk (by rfl) 39 (.tmp 25) (.tmp 166) (by rfl) bq41 [.int .i64 0, .int .i64 0] [.int .i64 px, .int .i64 py] 39 (by rfl) (by rfl) kz43_8 rfl info39 (two_one px py) ?_
      intro wa ka ga _
      have kb : Blk wa bq33 39 [.int .i64 0, .int .i64 0] := kz43_9.grown ga (by intro e; injection e with e; exact hne e.symm)
      have hba : Below W1.heap.size W1 wa := below_of_only hbv43 hbv43.size ga (fun k hk => by injection hk with hk; omega)
      refine hK _ _ hba ?_
      clear hK K'
      simp only [Act.put, List.setIfInBounds_toArray, List.set_cons_zero, List.set_cons_succ]
      refine Hoist.only (i := 11) rfl (by kernel_rfl) ?_
      intro K' hK
      refine step_store_blk (by rfl) 39 (.tmp 26) (.tmp 170) (by rfl) bq33 [.int .i64 0, .int .i64 0] [.int .i64 ox, .int .i64 oy] 39 (by rfl) (by rfl) kb rfl info39 (two_one ox oy) ?_
      intro wb kc gb _
      have ka' : Blk wb bq41 39 [.int .i64 px, .int .i64 py] := ka.grown gb (by intro e; injection e with e; exact hne e)
      have hbb : Below W1.heap.size W1 wb := below_of_only hba hba.size gb (fun k hk => by injection hk with hk; omega)
      refine hK _ _ hbb ?_
      clear hK K'
      simp only [Act.put, List.setIfInBounds_toArray, List.set_cons_zero, List.set_cons_succ]
      refine Hoist.over (by kernel_rfl) ?_ _
      go_simp
      exact HQ.out _ _ _ _ _ _ _ _ _ _ _ ka' kc hbb
end Go.Proofs.Ytobhlppdolekoaa.Ch
