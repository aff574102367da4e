/- The package's quoting of a text. The walk. -/
import Derived.Test.YtobhlppdolekoaaWtfK
import Derived.Lib.AppendStr
import Derived.Lib.OthersKept
import Derived.Test.YtobhlppdolekoaaHoist
import Derived.Deep.AppendLies
import Derived.Deep.RegionHeld3
import Derived.Deep.CutRange
import Derived.Deep.CutBlock
namespace Go.Proofs.Ytobhlppdolekoaa.Wtf
open Go.RowKit Go.Proofs.Ytobhlppdolekoaa.Aid Go.Proofs.Ytobhlppdolekoaa.Runes Go.Proofs.Ytobhlppdolekoaa.Bytes
attribute [local go_sem ↓] Go.wp_at_zero Go.wp_at_succ
set_option linter.unusedVariables false
set_option linter.unusedSimpArgs false
/-- What a range over a text reads at a place. -/
theorem dec_any (s : ByteArray) (k : Nat) (h : k < s.size) : ∃ r n, Utf8.decode s k = (r, n) ∧ 0 < n ∧ k + n ≤ s.size ∧ r ≤ 1114111 ∧ ¬ (55296 ≤ r ∧ r ≤ 57343) := by
  rcases decode_of s k h with ⟨h1, h2⟩ | ⟨_, h2⟩
  · have hp := rune_pos (s := s) (i := k) (r := (rune s k).1) (n := (rune s k).2) rfl h1
    exact ⟨(rune s k).1, (rune s k).2, h2, h1, hp.2.2.2.1, hp.2.2.2.2.2.1, hp.2.2.2.2.2.2.2⟩
  · exact ⟨65533, 1, h2, by omega, by omega, by omega, by omega⟩
theorem not_can {r : Nat} {ascii : Bool} (h : can r ascii = false) : r ≠ 39 := by
  rintro rfl
  simp [can] at h
/-- What is known at a round's head: where the text is read, what was there before. -/
def EstAt (s : ByteArray) (w wr : World) (k : Nat) : Prop := wr.heap[w.heap.size]? = some (.stringIter s k) ∧ Below w.heap.size w wr
theorem EstAt.next {s : ByteArray} {w wr : World} {k n : Nat} (h : EstAt s w wr k) : EstAt s w (wr.iterAt w.heap.size s (k + n)) (k + n) :=
  ⟨Lib.iterAt_heap wr _ s k (k + n) h.1, Lib.below_iterAt h.2 (Nat.le_refl _) s (k + n)⟩
/-- Where the text may still be read. -/
def Fit (l : List Nat) : Prop := ∃ last us, units last l = some us
theorem fit_pos {l : List Nat} (h : Fit l) (hl : l ≠ []) : 0 < (lrune l).2 ∧ Fit (l.drop (lrune l).2) := by
  obtain ⟨last, us, h⟩ := h
  by_cases hn : 0 < (lrune l).2
  · refine ⟨hn, ?_⟩
    by_cases hp : (lrune l).2 = 3 ∧ trail (lrune l).1 = true ∧ lead last = true
    · rw [units_pair hl hn hp] at h
      cases h
    · rw [units_next hl hn hp] at h
      obtain ⟨vs, hv, _⟩ := Option.map_eq_some_iff.1 h
      exact ⟨_, vs, hv⟩
  · rw [units_none hl (by omega)] at h
    cases h
theorem and15 (x : Nat) (h : x < 2147483648) : bits .and .i32 (x : Int) 15 = ((x % 16 : Nat) : Int) := by
  have := bits_mask .i32 31 (by decide) wraps_i32 4 (by decide) (x : Int) (by omega) (by omega)
  rw [show ((2 : Int) ^ 4 - 1) = 15 from rfl] at this
  rw [this]
  omega
theorem and1023_32 (x : Nat) (h : x < 2147483648) : bits .and .i32 (x : Int) 1023 = ((x % 1024 : Nat) : Int) := by
  have := bits_mask .i32 31 (by decide) wraps_i32 10 (by decide) (x : Int) (by omega) (by omega)
  rw [show ((2 : Int) ^ 10 - 1) = 1023 from rfl] at this
  rw [this]
  omega
/-- A digit out of the package's constant. -/
theorem hex_at (d : Nat) (h : d < 16) (w : World) : (Instr.index 9 (.string ⟨#[48, 49, 50, 51, 52, 53, 54, 55, 56, 57, 65, 66, 67, 68, 69, 70]⟩) (.int .i32 d)).run Try.prog w = .ok (.int .u8 (hx d)) w := by
  rcases (by omega : d = 0 ∨ d = 1 ∨ d = 2 ∨ d = 3 ∨ d = 4 ∨ d = 5 ∨ d = 6 ∨ d = 7 ∨ d = 8 ∨ d = 9 ∨ d = 10 ∨ d = 11 ∨ d = 12 ∨ d = 13 ∨ d = 14 ∨ d = 15) with rfl | rfl | rfl | rfl | rfl | rfl | rfl | rfl | rfl | rfl | rfl | rfl | rfl | rfl | rfl | rfl <;> kernel_rfl
/-- append of elements of one cell each, which lie in a block of their own: told at a step of a region that draws its order. -/
theorem step_append_run {P : Program} {w : World} {ops : Array Oper} {o : Oper} {a : Act} {K : Act → World → Prop} {Q : Exit → Act → World → Prop} {E : Prop} (hgd : o.guard = none) (s x : Operand) (t : TypeId)
    (ho : o.op = .call { callee := .builtin .append, args := #[s, x], argTypes := #[t, t] })
    (base : Nat) (e : TypeId) (i : TypeInfo) (z : Value) (bytes : Nat) (ht : P.underlying t = some (.slice e)) (hi : P.info? e = some i) (hz : i.zero = some z)
    (hsize : i.size = 1) (hby : i.bytes = bytes) (hzs : z.cells.size = 1)
    (v : Value) (n : Nat) (xs : List Value) (hs : a.eval s = v) (hown : w.ownsRow base e 1 v n xs)
    (h : Nat) (m : Nat) (us : List Value) (hm : us.length = m) (hx : a.eval x = .slice (some ⟨h, 0, none⟩) m m) (hb : Blk w h e us) (h1 : ∀ u ∈ us, u.oneCell' = true) (hm0 : 0 < m)
    (h63 : n + m ≤ maxLen) (hbytes : (n + m) * bytes ≤ 140737488355328) (hbase : base ≤ w.heap.size)
    (hk : ∀ g cap w', w'.ownsRow base e 1 (.slice (some ⟨g, 0, none⟩) (n + m) cap) (n + m) (xs ++ us) → w.grownBy w' v.ownBlock → (v.ownBlock = some g ∨ g = w.heap.size) → g < w'.heap.size → K (a.put o.dst (.slice (some ⟨g, 0, none⟩) (n + m) cap)) w') :
    if Region.wanted o (yielded ops a.tmps) = true then Oper.wp P o a w K Q else E :=
  step_append_lies w hgd s x t ho base e i z 1 bytes ht hi hz hsize hby hzs (by omega) v n xs hs hown ⟨h, 0, none⟩ m m us hx (by omega) (fun j u hj => by rw [add_at, Nat.zero_add]; exact hb.get j hj) h1 hm0 h63 hbytes hbase w.heap.size rfl hk
theorem info5 : (Try.prog.info? 5).map (fun i => (i.zero, i.size, i.bytes)) = some (some (.int .u8 0), 1, 1) := by kernel_rfl
theorem esc_two (c : Nat) (d : Nat) (hc : (c, d) ∈ [(8, 98), (12, 102), (10, 110), (13, 114), (9, 116), (92, 92), (34, 34)]) : esc c = [92, d] := by
  simp only [List.mem_cons, List.not_mem_nil, or_false, Prod.mk.injEq] at hc
  rcases hc with ⟨rfl, rfl⟩ | ⟨rfl, rfl⟩ | ⟨rfl, rfl⟩ | ⟨rfl, rfl⟩ | ⟨rfl, rfl⟩ | ⟨rfl, rfl⟩ | ⟨rfl, rfl⟩ <;> rfl

/-- The bytes that were made, as a slice of the call's own. -/
def Out5 (w : World) (v : Value) (l : List Nat) (wr : World) : Prop := wr.ownsRow w.heap.size 5 1 v l.length (ncells l) ∧ Below w.heap.size w wr
theorem Out5.more {w wr w' : World} {v v' : Value} {l x : List Nat} {m : Nat} (h : Out5 w v l wr) (ho : w'.ownsRow w.heap.size 5 1 v' (l.length + m) (ncells l ++ ncells x)) (hm : m = x.length) (hg : wr.grownBy w' v.ownBlock) : Out5 w v' (l ++ x) w' := by
  subst hm
  refine ⟨?_, h.2.grown hg h.2.size (fun k hk => own_below h.1 k hk)⟩
  rw [List.length_append, ncells_append]
  exact ho
theorem Out5.drewN {w wr : World} {v : Value} {l : List Nat} (h : Out5 w v l wr) (n : Nat) : Out5 w v l (wr.drewN n) :=
  ⟨own_keep h.1 (below_drewN (Below.refl _ _) n), below_drewN h.2 n⟩
theorem more_below {w W' w' : World} {v v' : Value} {l x : List Nat} {m : Nat} (hb : Below w.heap.size w W') (ho : w'.ownsRow w.heap.size 5 1 v' (l.length + m) (ncells l ++ ncells x)) (hm : m = x.length) (hg : W'.grownBy w' v.ownBlock) (hv : ∀ k, v.ownBlock = some k → w.heap.size ≤ k) : Out5 w v' (l ++ x) w' := by
  subst hm
  refine ⟨?_, hb.grown hg hb.size hv⟩
  rw [List.length_append, ncells_append]
  exact ho
/-- A run of code points that need no escape. -/
def Run (s : ByteArray) (ascii : Bool) (k j : Nat) : Prop := k ≤ j ∧ j ≤ s.size ∧ cut s k j ++ quote ascii ((nats s).drop j) = quote ascii ((nats s).drop k) ∧ Fit ((nats s).drop j)
theorem rest_ne (s : ByteArray) (j : Nat) (h : j < s.size) : (nats s).drop j ≠ [] := by
  intro e
  have := congrArg List.length e
  rw [List.length_drop, nats_length, List.length_nil] at this
  omega
theorem run_step {s : ByteArray} {ascii : Bool} {k j r n : Nat} (h : Run s ascii k j) (hj : j < s.size) (hr : lrune ((nats s).drop j) = (r, n)) (hc : can r ascii = true) : Run s ascii k (j + n) := by
  obtain ⟨h1, h2, h3, h4⟩ := h
  have hp := fit_pos h4 (rest_ne s j hj)
  rw [hr] at hp
  have ho := lrune_pos hr hp.1
  have hle : j + n ≤ s.size := by have := ho.2.1; rw [List.length_drop, nats_length] at this; omega
  refine ⟨by omega, hle, ?_, ?_⟩
  · rw [← h3, quote_next (rest_ne s j hj) (by rw [hr]; exact hp.1), hr, if_pos hc, ← cut_cat s k j (j + n) h1 (by omega) hle, List.append_assoc, List.drop_drop]
    congr 1
    rw [cut, Nat.add_sub_cancel_left]
  · have := hp.2
    rw [List.drop_drop] at this
    exact this

def regionOf (n : Nat) : Code → Option Code
  | .region m ops b => if m = n then some (.region m ops b) else none
  | .seq a b => match regionOf n a with
    | some c => some c
    | none => regionOf n b
  | .loop c => regionOf n c
  | .block _ c => regionOf n c
  | .scope c => regionOf n c
  | .cond _ a b => match regionOf n a with
    | some c => some c
    | none => regionOf n b
  | _ => none
noncomputable def code41 : Code := (Try.f55.body.bind (regionOf 41)).getD .skip
set_option maxRecDepth 100000 in
set_option maxHeartbeats 4000000 in
theorem region41 {w W : World} {vv : Value} {D : List Nat} (r : Nat) (hr : r ≤ 65535) {x0 x1 x2 x3 x4 x5 x6 x7 x8 x9 x11 x12 x14 x15 x16 x17 x18 x19 x20 x21 x22 x23 x24 x25 x26 x27 x28 x29 x30 x31 x32 x33 x34 x35 x36 x37 x38 x39 x40 x41 x42 x43 x44 x45 x46 x47 x48 x49 x50 x51 x52 x53 x54 x55 x56 x57 x58 x59 x60 x61 x62 x63 x64 x65 x66 x67 x68 x69 x70 x71 x72 x73 x74 x75 x76 x77 x78 x79 x80 x81 x82 x83 x84 x85 x86 x87 x88 x89 x90 x91 x92 x93 x94 x95 x96 x97 x98 x99 x100 x101 x102 x103 x104 x105 x106 x107 x108 x109 x110 x111 x112 x113 x114 x115 x116 x117 x118 x119 x120 x121 x122 x123 x124 x125 x126 x127 x128 x129 x130 x131 x132 x133 x134 x135 x136 x137 x138 x139 x140 x141 x142 x143 x144 x145 x146 x147 x148 x149 x150 x151 x152 x153 x154 x155 x156 x157 x158 x159 x160 x161 x162 x163 x164 x165 x166 x167 x168 x169 x170 x171 x172 x173 x174 x175 x176 x177 x178 x179 x180 x181 x182 x183 x184 x185 x186 x187 x188 x189 x190 x191 x192 x193 x194 x195 x196 x197 x198 x199 x200 x201 x202 x203 x204 x205 x206 x207 x208 x209 x210 x211 x212 x213 x214 x215 x216 x217 x218 x219 x220 x221 x222 x223 x224 x225 x226 x227 x228 x229 x230 : Value} {Q : Exit → Act → World → Prop} (hD : D.length ≤ 100000000000) (HOUT : Hid (Out5 w vv D W))
    (h : ∀ (v' : Value) (W' : World) (y112 y113 y114 y115 y116 y117 y118 y119 y120 y121 y122 y123 y124 y125 y126 y127 y128 : Value), Out5 w v' (D ++ (u4 r)) W' → Q .normal ⟨#[x0, x1, x2, x3, x4, x5, x6, x7, x8, x9, v', x11, x12, .int .i32 r, x14, x15, x16, x17, x18, x19, x20, x21, x22, x23, x24, x25, x26, x27, x28, x29, x30, x31, x32, x33, x34, x35, x36, x37, x38, x39, x40, x41, x42, x43, x44, x45, x46, x47, x48, x49, x50, x51, x52, x53, x54, x55, x56, x57, x58, x59, x60, x61, x62, x63, x64, x65, x66, x67, x68, x69, x70, x71, x72, x73, x74, x75, x76, x77, x78, x79, x80, x81, x82, x83, x84, x85, x86, x87, x88, x89, x90, x91, x92, x93, x94, x95, x96, x97, x98, x99, x100, x101, x102, x103, x104, x105, x106, x107, x108, x109, x110, x111, y112, y113, y114, y115, y116, y117, y118, y119, y120, y121, y122, y123, y124, y125, y126, y127, y128, x129, x130, x131, x132, x133, x134, x135, x136, x137, x138, x139, x140, x141, x142, x143, x144, x145, x146, x147, x148, x149, x150, x151, x152, x153, x154, x155, x156, x157, x158, x159, x160, x161, x162, x163, x164, x165, x166, x167, x168, x169, x170, x171, x172, x173, x174, x175, x176, x177, x178, x179, x180, x181, x182, x183, x184, x185, x186, x187, x188, x189, x190, x191, x192, x193, x194, x195, x196, x197, x198, x199, x200, x201, x202, x203, x204, x205, x206, x207, x208, x209, x210, x211, x212, x213, x214, x215, x216, x217, x218, x219, x220, x221, x222, x223, x224, x225, x226, x227, x228, x229, x230], []⟩ W') :
    Code.wp Try.prog code41 Q ⟨#[x0, x1, x2, x3, x4, x5, x6, x7, x8, x9, vv, x11, x12, .int .i32 r, x14, x15, x16, x17, x18, x19, x20, x21, x22, x23, x24, x25, x26, x27, x28, x29, x30, x31, x32, x33, x34, x35, x36, x37, x38, x39, x40, x41, x42, x43, x44, x45, x46, x47, x48, x49, x50, x51, x52, x53, x54, x55, x56, x57, x58, x59, x60, x61, x62, x63, x64, x65, x66, x67, x68, x69, x70, x71, x72, x73, x74, x75, x76, x77, x78, x79, x80, x81, x82, x83, x84, x85, x86, x87, x88, x89, x90, x91, x92, x93, x94, x95, x96, x97, x98, x99, x100, x101, x102, x103, x104, x105, x106, x107, x108, x109, x110, x111, x112, x113, x114, x115, x116, x117, x118, x119, x120, x121, x122, x123, x124, x125, x126, x127, x128, x129, x130, x131, x132, x133, x134, x135, x136, x137, x138, x139, x140, x141, x142, x143, x144, x145, x146, x147, x148, x149, x150, x151, x152, x153, x154, x155, x156, x157, x158, x159, x160, x161, x162, x163, x164, x165, x166, x167, x168, x169, x170, x171, x172, x173, x174, x175, x176, x177, x178, x179, x180, x181, x182, x183, x184, x185, x186, x187, x188, x189, x190, x191, x192, x193, x194, x195, x196, x197, x198, x199, x200, x201, x202, x203, x204, x205, x206, x207, x208, x209, x210, x211, x212, x213, x214, x215, x216, x217, x218, x219, x220, x221, x222, x223, x224, x225, x226, x227, x228, x229, x230], []⟩ W := by
  obtain ⟨i0, hi, hz0, hz1, hz2⟩ := info_parts info5
  conv => arg 2; whnf
  obtain ⟨a, ha⟩ : ∃ y : Nat, y = r / 4096 := ⟨_, rfl⟩
  obtain ⟨b, hb⟩ : ∃ y : Nat, y = r / 256 % 16 := ⟨_, rfl⟩
  obtain ⟨c, hc⟩ : ∃ y : Nat, y = r / 16 % 16 := ⟨_, rfl⟩
  obtain ⟨d, hd⟩ : ∃ y : Nat, y = r % 16 := ⟨_, rfl⟩
  obtain ⟨x2, hx2⟩ : ∃ y : Nat, y = r / 256 := ⟨_, rfl⟩
  obtain ⟨x3, hx3⟩ : ∃ y : Nat, y = r / 16 := ⟨_, rfl⟩
  have HU := Lib.hid (show u4 r = [92, 117, hx a, hx b, hx c, hx d] by rw [u4, ← ha, ← hb, ← hc, ← hd])
  have ea : (r : Int) / 4096 = (a : Int) := by omega
  have ex2 : (r : Int) / 256 = (x2 : Int) := by omega
  have ex3 : (r : Int) / 16 = (x3 : Int) := by omega
  have mb : bits .and .i32 (x2 : Int) 15 = (b : Int) := by rw [and15 x2 (by omega)]; omega
  have mc : bits .and .i32 (x3 : Int) 15 = (c : Int) := by rw [and15 x3 (by omega)]; omega
  have md : bits .and .i32 (r : Int) 15 = (d : Int) := by rw [and15 r (by omega)]; omega
  have ba : a < 16 := by omega
  have xa := fun w => hex_at a ba w
  have bb : b < 16 := by omega
  have xb := fun w => hex_at b bb w
  have bc : c < 16 := by omega
  have xc := fun w => hex_at c bc w
  have bd : d < 16 := by omega
  have xd := fun w => hex_at d bd w
  obtain ⟨A, hA⟩ : ∃ A, A = hx a := ⟨_, rfl⟩
  rw [← hA] at xa HU
  obtain ⟨B, hB⟩ : ∃ A, A = hx b := ⟨_, rfl⟩
  rw [← hB] at xb HU
  obtain ⟨G, hG⟩ : ∃ A, A = hx c := ⟨_, rfl⟩
  rw [← hG] at xc HU
  obtain ⟨M, hM⟩ : ∃ A, A = hx d := ⟨_, rfl⟩
  rw [← hM] at xd HU
  clear ha hb hc hd hx2 hx3 hA hB hG hM
  have q1 : D.length + 6 ≤ maxLen := by unfold maxLen; omega
  have q2 : (D.length + 6) * 1 ≤ 140737488355328 := by omega
  have q3 := Lib.hid (show ∀ u ∈ [Value.int .u8 92, .int .u8 117, .int .u8 A, .int .u8 B, .int .u8 G, .int .u8 M], Value.oneCell' u = true from by simp [Value.oneCell'])
  have HW5 := Lib.hid (below_at HOUT.out.2 (.cells #[.int .u8 92, .int .u8 117, .int .u8 A, .int .u8 B, .int .u8 G, .int .u8 M] 5)).drew
  have HH := Lib.hid h
  clear h
  refine wp_region_noPanic ?_
  refine Hoist.start (S := fun _ _ => True) (by kernel_rfl) ?_
  refine Hoist.takeP (i := 0) (v := ?v0) rfl (by kernel_rfl) (by kernel_rfl) (by kernel_rfl) (fun _ _ _ h => h) ⟨by rfl, ?hy0⟩ ?rest0
  case hy0 => intro w'; go_simp; rfl
  simp only [Act.put, List.setIfInBounds_toArray, List.set_cons_zero, List.set_cons_succ]
  refine Hoist.takeP (i := 1) (v := ?v1) rfl (by kernel_rfl) (by kernel_rfl) (by kernel_rfl) (fun _ _ _ h => h) ⟨by rfl, ?hy1⟩ ?rest1
  case hy1 => intro w'; go_simp; rfl
  simp only [Act.put, List.setIfInBounds_toArray, List.set_cons_zero, List.set_cons_succ]
  refine Hoist.takeP (i := 2) (v := ?v2) rfl (by kernel_rfl) (by kernel_rfl) (by kernel_rfl) (fun _ _ _ h => h) ⟨by rfl, ?hy2⟩ ?rest2
  case hy2 => intro w'; go_simp; rfl
  simp only [Act.put, List.setIfInBounds_toArray, List.set_cons_zero, List.set_cons_succ]
  refine Hoist.takeP (i := 3) (v := ?v3) rfl (by kernel_rfl) (by kernel_rfl) (by kernel_rfl) (fun _ _ _ h => h) ⟨by rfl, ?hy3⟩ ?rest3
  case hy3 => intro w'; go_simp; rfl
  simp only [Act.put, List.setIfInBounds_toArray, List.set_cons_zero, List.set_cons_succ]
  refine Hoist.takeP (i := 4) (v := ?v4) rfl (by kernel_rfl) (by kernel_rfl) (by kernel_rfl) (fun _ _ _ h => h) ⟨by rfl, ?hy4⟩ ?rest4
  case hy4 => intro w'; go_simp; rfl
  simp only [Act.put, List.setIfInBounds_toArray, List.set_cons_zero, List.set_cons_succ]
  refine Hoist.takeP (i := 5) (v := ?v5) rfl (by kernel_rfl) (by kernel_rfl) (by kernel_rfl) (fun _ _ _ h => h) ⟨by rfl, ?hy5⟩ ?rest5
  case hy5 => intro w'; go_simp; rfl
  simp only [Act.put, List.setIfInBounds_toArray, List.set_cons_zero, List.set_cons_succ]
  refine Hoist.takeP (i := 6) (v := ?v6) rfl (by kernel_rfl) (by kernel_rfl) (by kernel_rfl) (fun _ _ _ h => h) ⟨by rfl, ?hy6⟩ ?rest6
  case hy6 => intro w'; go_simp; rfl
  simp only [Act.put, List.setIfInBounds_toArray, List.set_cons_zero, List.set_cons_succ]
  refine Hoist.takeP (i := 7) (v := ?v7) rfl (by kernel_rfl) (by kernel_rfl) (by kernel_rfl) (fun _ _ _ h => h) ⟨by rfl, ?hy7⟩ ?rest7
  case hy7 => intro w'; go_simp; rfl
  simp only [Act.put, List.setIfInBounds_toArray, List.set_cons_zero, List.set_cons_succ]
  refine Hoist.takeP (i := 8) (v := ?v8) rfl (by kernel_rfl) (by kernel_rfl) (by kernel_rfl) (fun _ _ _ h => h) ⟨by rfl, ?hy8⟩ ?rest8
  case hy8 => intro w'; go_simp; rfl
  simp only [Act.put, List.setIfInBounds_toArray, List.set_cons_zero, List.set_cons_succ]
  refine Hoist.takeP (i := 9) (v := ?v9) rfl (by kernel_rfl) (by kernel_rfl) (by kernel_rfl) (fun _ _ _ h => h) ⟨by rfl, ?hy9⟩ ?rest9
  case hy9 => intro w'; go_simp; rfl
  simp only [Act.put, List.setIfInBounds_toArray, List.set_cons_zero, List.set_cons_succ]
  refine Hoist.takeP (i := 10) (v := ?v10) rfl (by kernel_rfl) (by kernel_rfl) (by kernel_rfl) (fun _ _ _ h => h) ⟨by rfl, ?hy10⟩ ?rest10
  case hy10 => intro w'; go_simp; rfl
  simp only [Act.put, List.setIfInBounds_toArray, List.set_cons_zero, List.set_cons_succ]
  refine Hoist.takeP (i := 11) (v := ?v11) rfl (by kernel_rfl) (by kernel_rfl) (by kernel_rfl) (fun _ _ _ h => h) ⟨by rfl, ?hy11⟩ ?rest11
  case hy11 => intro w'; go_simp; rfl
  simp only [Act.put, List.setIfInBounds_toArray, List.set_cons_zero, List.set_cons_succ]
  refine Hoist.takeP (i := 12) (v := ?v12) rfl (by kernel_rfl) (by kernel_rfl) (by kernel_rfl) (fun _ _ _ h => h) ⟨by rfl, ?hy12⟩ ?rest12
  case hy12 => intro w'; go_simp; rfl
  simp only [Act.put, List.setIfInBounds_toArray, List.set_cons_zero, List.set_cons_succ]
  refine Hoist.takeP (i := 13) (v := ?v13) rfl (by kernel_rfl) (by kernel_rfl) (by kernel_rfl) (fun _ _ _ h => h) ⟨by rfl, ?hy13⟩ ?rest13
  case hy13 => intro w'; go_simp; rfl
  simp only [Act.put, List.setIfInBounds_toArray, List.set_cons_zero, List.set_cons_succ]
  refine Hoist.takeP (i := 14) (v := ?v14) rfl (by kernel_rfl) (by kernel_rfl) (by kernel_rfl) (fun _ _ _ h => h) ⟨by rfl, ?hy14⟩ ?rest14
  case hy14 => intro w'; go_simp; rfl
  simp only [Act.put, List.setIfInBounds_toArray, List.set_cons_zero, List.set_cons_succ]
  refine Hoist.only (i := 15) rfl (by kernel_rfl) ?_
  intro K hK
  go_simp
  refine hK _ _ trivial ?_
  clear hK K
  refine Hoist.only (i := 16) rfl (by kernel_rfl) ?_
  intro K hK
  refine step_append_run (by rfl) _ _ _ (by rfl) w.heap.size 5 i0 _ 1 Try.underlying25 hi hz0 hz1 hz2 rfl _ D.length (ncells D) (by rfl) ((HOUT.out.1.alloc _).drew) W.heap.size 6 [.int .u8 92, .int .u8 117, .int .u8 A, .int .u8 B, .int .u8 G, .int .u8 M] rfl (by rfl) (Blk.new _ _ _).drew q3.out (by omega) q1 q2 HW5.out.size ?_
  intro gg cap w4 ho3 hg3 hat hlt
  refine hK _ _ trivial ?_
  clear hK K
  refine Hoist.only (i := 17) rfl (by kernel_rfl) ?_
  intro K hK
  go_simp
  refine hK _ _ trivial ?_
  clear hK K
  refine Hoist.over (by kernel_rfl) ?_ _
  have HO3 := more_below (x := [92, 117, A, B, G, M]) HW5.out ho3 rfl hg3 (fun k hk => own_below HOUT.out.1 k hk)
  rw [← HU.out] at HO3
  exact NoPanic.normal (HH.out _ _ _ _ _ _ _ _ _ _ _ _ _ _ _ _ _ _ _ HO3)
noncomputable def code45 : Code := (Try.f55.body.bind (regionOf 45)).getD .skip
set_option maxRecDepth 100000 in
set_option maxHeartbeats 4000000 in
theorem region45 {w W : World} {vv : Value} {D : List Nat} (u v : Nat) (u1 : u < 65536) (v1 : v < 65536) {x0 x1 x2 x3 x4 x5 x6 x7 x8 x9 x11 x12 x13 x14 x15 x18 x19 x20 x21 x22 x23 x24 x25 x26 x27 x28 x29 x30 x31 x32 x33 x34 x35 x36 x37 x38 x39 x40 x41 x42 x43 x44 x45 x46 x47 x48 x49 x50 x51 x52 x53 x54 x55 x56 x57 x58 x59 x60 x61 x62 x63 x64 x65 x66 x67 x68 x69 x70 x71 x72 x73 x74 x75 x76 x77 x78 x79 x80 x81 x82 x83 x84 x85 x86 x87 x88 x89 x90 x91 x92 x93 x94 x95 x96 x97 x98 x99 x100 x101 x102 x103 x104 x105 x106 x107 x108 x109 x110 x111 x112 x113 x114 x115 x116 x117 x118 x119 x120 x121 x122 x123 x124 x125 x126 x127 x128 x129 x130 x131 x132 x133 x134 x135 x136 x137 x138 x139 x140 x141 x142 x143 x144 x145 x146 x147 x148 x149 x150 x151 x152 x153 x154 x155 x156 x157 x158 x159 x160 x161 x162 x163 x164 x165 x166 x167 x168 x169 x170 x171 x172 x173 x174 x175 x176 x177 x178 x179 x180 x181 x182 x183 x184 x185 x186 x187 x188 x189 x190 x191 x192 x193 x194 x195 x196 x197 x198 x199 x200 x201 x202 x203 x204 x205 x206 x207 x208 x209 x210 x211 x212 x213 x214 x215 x216 x217 x218 x219 x220 x221 x222 x223 x224 x225 x226 x227 x228 x229 x230 : Value} {Q : Exit → Act → World → Prop} (hD : D.length ≤ 100000000000) (HOUT : Hid (Out5 w vv D W))
    (h : ∀ (v' : Value) (W' : World) (y138 y139 y140 y141 y142 y143 y144 y145 y146 y147 y148 y149 y150 y151 y152 y153 y154 y155 y156 y157 y158 y159 y160 y161 y162 y163 y164 y165 y166 y167 y168 : Value), Out5 w v' (D ++ (u4 u ++ u4 v)) W' → Q .normal ⟨#[x0, x1, x2, x3, x4, x5, x6, x7, x8, x9, v', x11, x12, x13, x14, x15, .int .i32 u, .int .i32 v, x18, x19, x20, x21, x22, x23, x24, x25, x26, x27, x28, x29, x30, x31, x32, x33, x34, x35, x36, x37, x38, x39, x40, x41, x42, x43, x44, x45, x46, x47, x48, x49, x50, x51, x52, x53, x54, x55, x56, x57, x58, x59, x60, x61, x62, x63, x64, x65, x66, x67, x68, x69, x70, x71, x72, x73, x74, x75, x76, x77, x78, x79, x80, x81, x82, x83, x84, x85, x86, x87, x88, x89, x90, x91, x92, x93, x94, x95, x96, x97, x98, x99, x100, x101, x102, x103, x104, x105, x106, x107, x108, x109, x110, x111, x112, x113, x114, x115, x116, x117, x118, x119, x120, x121, x122, x123, x124, x125, x126, x127, x128, x129, x130, x131, x132, x133, x134, x135, x136, x137, y138, y139, y140, y141, y142, y143, y144, y145, y146, y147, y148, y149, y150, y151, y152, y153, y154, y155, y156, y157, y158, y159, y160, y161, y162, y163, y164, y165, y166, y167, y168, x169, x170, x171, x172, x173, x174, x175, x176, x177, x178, x179, x180, x181, x182, x183, x184, x185, x186, x187, x188, x189, x190, x191, x192, x193, x194, x195, x196, x197, x198, x199, x200, x201, x202, x203, x204, x205, x206, x207, x208, x209, x210, x211, x212, x213, x214, x215, x216, x217, x218, x219, x220, x221, x222, x223, x224, x225, x226, x227, x228, x229, x230], []⟩ W') :
    Code.wp Try.prog code45 Q ⟨#[x0, x1, x2, x3, x4, x5, x6, x7, x8, x9, vv, x11, x12, x13, x14, x15, .int .i32 u, .int .i32 v, x18, x19, x20, x21, x22, x23, x24, x25, x26, x27, x28, x29, x30, x31, x32, x33, x34, x35, x36, x37, x38, x39, x40, x41, x42, x43, x44, x45, x46, x47, x48, x49, x50, x51, x52, x53, x54, x55, x56, x57, x58, x59, x60, x61, x62, x63, x64, x65, x66, x67, x68, x69, x70, x71, x72, x73, x74, x75, x76, x77, x78, x79, x80, x81, x82, x83, x84, x85, x86, x87, x88, x89, x90, x91, x92, x93, x94, x95, x96, x97, x98, x99, x100, x101, x102, x103, x104, x105, x106, x107, x108, x109, x110, x111, x112, x113, x114, x115, x116, x117, x118, x119, x120, x121, x122, x123, x124, x125, x126, x127, x128, x129, x130, x131, x132, x133, x134, x135, x136, x137, x138, x139, x140, x141, x142, x143, x144, x145, x146, x147, x148, x149, x150, x151, x152, x153, x154, x155, x156, x157, x158, x159, x160, x161, x162, x163, x164, x165, x166, x167, x168, x169, x170, x171, x172, x173, x174, x175, x176, x177, x178, x179, x180, x181, x182, x183, x184, x185, x186, x187, x188, x189, x190, x191, x192, x193, x194, x195, x196, x197, x198, x199, x200, x201, x202, x203, x204, x205, x206, x207, x208, x209, x210, x211, x212, x213, x214, x215, x216, x217, x218, x219, x220, x221, x222, x223, x224, x225, x226, x227, x228, x229, x230], []⟩ W := by
  obtain ⟨i0, hi, hz0, hz1, hz2⟩ := info_parts info5
  conv => arg 2; whnf
  obtain ⟨a, ha⟩ : ∃ y : Nat, y = u / 4096 := ⟨_, rfl⟩
  obtain ⟨b, hb⟩ : ∃ y : Nat, y = u / 256 % 16 := ⟨_, rfl⟩
  obtain ⟨c, hc⟩ : ∃ y : Nat, y = u / 16 % 16 := ⟨_, rfl⟩
  obtain ⟨d, hd⟩ : ∃ y : Nat, y = u % 16 := ⟨_, rfl⟩
  obtain ⟨x2, hx2⟩ : ∃ y : Nat, y = u / 256 := ⟨_, rfl⟩
  obtain ⟨x3, hx3⟩ : ∃ y : Nat, y = u / 16 := ⟨_, rfl⟩
  obtain ⟨a', ha'⟩ : ∃ y : Nat, y = v / 4096 := ⟨_, rfl⟩
  obtain ⟨b', hb'⟩ : ∃ y : Nat, y = v / 256 % 16 := ⟨_, rfl⟩
  obtain ⟨c', hc'⟩ : ∃ y : Nat, y = v / 16 % 16 := ⟨_, rfl⟩
  obtain ⟨d', hd'⟩ : ∃ y : Nat, y = v % 16 := ⟨_, rfl⟩
  obtain ⟨y2, hy2⟩ : ∃ y : Nat, y = v / 256 := ⟨_, rfl⟩
  obtain ⟨y3, hy3⟩ : ∃ y : Nat, y = v / 16 := ⟨_, rfl⟩
  have HU := Lib.hid (show u4 u ++ u4 v = [92, 117, hx a, hx b, hx c, hx d, 92, 117, hx a', hx b', hx c', hx d'] by rw [u4, u4, ← ha, ← hb, ← hc, ← hd, ← ha', ← hb', ← hc', ← hd']; rfl)
  have ea : (u : Int) / 4096 = (a : Int) := by omega
  have ex2 : (u : Int) / 256 = (x2 : Int) := by omega
  have ex3 : (u : Int) / 16 = (x3 : Int) := by omega
  have mb : bits .and .i32 (x2 : Int) 15 = (b : Int) := by rw [and15 x2 (by omega)]; omega
  have mc : bits .and .i32 (x3 : Int) 15 = (c : Int) := by rw [and15 x3 (by omega)]; omega
  have md : bits .and .i32 ((u : Int)) 15 = (d : Int) := by rw [show ((u : Int) : Int) = ((u : Nat) : Int) by omega, and15 u (by omega)]; omega
  have ba : a < 16 := by omega
  have xa := fun w => hex_at a ba w
  have bb : b < 16 := by omega
  have xb := fun w => hex_at b bb w
  have bc : c < 16 := by omega
  have xc := fun w => hex_at c bc w
  have bd : d < 16 := by omega
  have xd := fun w => hex_at d bd w
  have ea' : (v : Int) / 4096 = (a' : Int) := by omega
  have ey2 : (v : Int) / 256 = (y2 : Int) := by omega
  have ey3 : (v : Int) / 16 = (y3 : Int) := by omega
  have mb' : bits .and .i32 (y2 : Int) 15 = (b' : Int) := by rw [and15 y2 (by omega)]; omega
  have mc' : bits .and .i32 (y3 : Int) 15 = (c' : Int) := by rw [and15 y3 (by omega)]; omega
  have md' : bits .and .i32 ((v : Int)) 15 = (d' : Int) := by rw [show ((v : Int) : Int) = ((v : Nat) : Int) by omega, and15 v (by omega)]; omega
  have ba' : a' < 16 := by omega
  have xa' := fun w => hex_at a' ba' w
  have bb' : b' < 16 := by omega
  have xb' := fun w => hex_at b' bb' w
  have bc' : c' < 16 := by omega
  have xc' := fun w => hex_at c' bc' w
  have bd' : d' < 16 := by omega
  have xd' := fun w => hex_at d' bd' w
  obtain ⟨A, hA⟩ : ∃ A, A = hx a := ⟨_, rfl⟩
  rw [← hA] at xa HU
  obtain ⟨B, hB⟩ : ∃ A, A = hx b := ⟨_, rfl⟩
  rw [← hB] at xb HU
  obtain ⟨G, hG⟩ : ∃ A, A = hx c := ⟨_, rfl⟩
  rw [← hG] at xc HU
  obtain ⟨M, hM⟩ : ∃ A, A = hx d := ⟨_, rfl⟩
  rw [← hM] at xd HU
  obtain ⟨A2, hA2⟩ : ∃ A, A = hx a' := ⟨_, rfl⟩
  rw [← hA2] at xa' HU
  obtain ⟨B2, hB2⟩ : ∃ A, A = hx b' := ⟨_, rfl⟩
  rw [← hB2] at xb' HU
  obtain ⟨G2, hG2⟩ : ∃ A, A = hx c' := ⟨_, rfl⟩
  rw [← hG2] at xc' HU
  obtain ⟨M2, hM2⟩ : ∃ A, A = hx d' := ⟨_, rfl⟩
  rw [← hM2] at xd' HU
  clear ha hb hc hd hx2 hx3 ha' hb' hc' hd' hy2 hy3 hA hB hG hM hA2 hB2 hG2 hM2
  have q1 : D.length + 12 ≤ maxLen := by unfold maxLen; omega
  have q2 : (D.length + 12) * 1 ≤ 140737488355328 := by omega
  have q3 := Lib.hid (show ∀ u ∈ [Value.int .u8 92, .int .u8 117, .int .u8 A, .int .u8 B, .int .u8 G, .int .u8 M, .int .u8 92, .int .u8 117, .int .u8 A2, .int .u8 B2, .int .u8 G2, .int .u8 M2], Value.oneCell' u = true from by simp [Value.oneCell'])
  have HW5 := Lib.hid (below_at HOUT.out.2 (.cells #[.int .u8 92, .int .u8 117, .int .u8 A, .int .u8 B, .int .u8 G, .int .u8 M, .int .u8 92, .int .u8 117, .int .u8 A2, .int .u8 B2, .int .u8 G2, .int .u8 M2] 5)).drew
  have HH := Lib.hid h
  clear h
  refine wp_region_noPanic ?_
  refine Hoist.start (S := fun _ _ => True) (by kernel_rfl) ?_
  refine Hoist.takeP (i := 0) (v := ?v0) rfl (by kernel_rfl) (by kernel_rfl) (by kernel_rfl) (fun _ _ _ h => h) ⟨by rfl, ?hy0⟩ ?rest0
  case hy0 => intro w'; go_simp; rfl
  simp only [Act.put, List.setIfInBounds_toArray, List.set_cons_zero, List.set_cons_succ]
  refine Hoist.takeP (i := 1) (v := ?v1) rfl (by kernel_rfl) (by kernel_rfl) (by kernel_rfl) (fun _ _ _ h => h) ⟨by rfl, ?hy1⟩ ?rest1
  case hy1 => intro w'; go_simp; rfl
  simp only [Act.put, List.setIfInBounds_toArray, List.set_cons_zero, List.set_cons_succ]
  refine Hoist.takeP (i := 2) (v := ?v2) rfl (by kernel_rfl) (by kernel_rfl) (by kernel_rfl) (fun _ _ _ h => h) ⟨by rfl, ?hy2⟩ ?rest2
  case hy2 => intro w'; go_simp; rfl
  simp only [Act.put, List.setIfInBounds_toArray, List.set_cons_zero, List.set_cons_succ]
  refine Hoist.takeP (i := 3) (v := ?v3) rfl (by kernel_rfl) (by kernel_rfl) (by kernel_rfl) (fun _ _ _ h => h) ⟨by rfl, ?hy3⟩ ?rest3
  case hy3 => intro w'; go_simp; rfl
  simp only [Act.put, List.setIfInBounds_toArray, List.set_cons_zero, List.set_cons_succ]
  refine Hoist.takeP (i := 4) (v := ?v4) rfl (by kernel_rfl) (by kernel_rfl) (by kernel_rfl) (fun _ _ _ h => h) ⟨by rfl, ?hy4⟩ ?rest4
  case hy4 => intro w'; go_simp; rfl
  simp only [Act.put, List.setIfInBounds_toArray, List.set_cons_zero, List.set_cons_succ]
  refine Hoist.takeP (i := 5) (v := ?v5) rfl (by kernel_rfl) (by kernel_rfl) (by kernel_rfl) (fun _ _ _ h => h) ⟨by rfl, ?hy5⟩ ?rest5
  case hy5 => intro w'; go_simp; rfl
  simp only [Act.put, List.setIfInBounds_toArray, List.set_cons_zero, List.set_cons_succ]
  refine Hoist.takeP (i := 6) (v := ?v6) rfl (by kernel_rfl) (by kernel_rfl) (by kernel_rfl) (fun _ _ _ h => h) ⟨by rfl, ?hy6⟩ ?rest6
  case hy6 => intro w'; go_simp; rfl
  simp only [Act.put, List.setIfInBounds_toArray, List.set_cons_zero, List.set_cons_succ]
  refine Hoist.takeP (i := 7) (v := ?v7) rfl (by kernel_rfl) (by kernel_rfl) (by kernel_rfl) (fun _ _ _ h => h) ⟨by rfl, ?hy7⟩ ?rest7
  case hy7 => intro w'; go_simp; rfl
  simp only [Act.put, List.setIfInBounds_toArray, List.set_cons_zero, List.set_cons_succ]
  refine Hoist.takeP (i := 8) (v := ?v8) rfl (by kernel_rfl) (by kernel_rfl) (by kernel_rfl) (fun _ _ _ h => h) ⟨by rfl, ?hy8⟩ ?rest8
  case hy8 => intro w'; go_simp; rfl
  simp only [Act.put, List.setIfInBounds_toArray, List.set_cons_zero, List.set_cons_succ]
  refine Hoist.takeP (i := 9) (v := ?v9) rfl (by kernel_rfl) (by kernel_rfl) (by kernel_rfl) (fun _ _ _ h => h) ⟨by rfl, ?hy9⟩ ?rest9
  case hy9 => intro w'; go_simp; rfl
  simp only [Act.put, List.setIfInBounds_toArray, List.set_cons_zero, List.set_cons_succ]
  refine Hoist.takeP (i := 10) (v := ?v10) rfl (by kernel_rfl) (by kernel_rfl) (by kernel_rfl) (fun _ _ _ h => h) ⟨by rfl, ?hy10⟩ ?rest10
  case hy10 => intro w'; go_simp; rfl
  simp only [Act.put, List.setIfInBounds_toArray, List.set_cons_zero, List.set_cons_succ]
  refine Hoist.takeP (i := 11) (v := ?v11) rfl (by kernel_rfl) (by kernel_rfl) (by kernel_rfl) (fun _ _ _ h => h) ⟨by rfl, ?hy11⟩ ?rest11
  case hy11 => intro w'; go_simp; rfl
  simp only [Act.put, List.setIfInBounds_toArray, List.set_cons_zero, List.set_cons_succ]
  refine Hoist.takeP (i := 12) (v := ?v12) rfl (by kernel_rfl) (by kernel_rfl) (by kernel_rfl) (fun _ _ _ h => h) ⟨by rfl, ?hy12⟩ ?rest12
  case hy12 => intro w'; go_simp; rfl
  simp only [Act.put, List.setIfInBounds_toArray, List.set_cons_zero, List.set_cons_succ]
  refine Hoist.takeP (i := 13) (v := ?v13) rfl (by kernel_rfl) (by kernel_rfl) (by kernel_rfl) (fun _ _ _ h => h) ⟨by rfl, ?hy13⟩ ?rest13
  case hy13 => intro w'; go_simp; rfl
  simp only [Act.put, List.setIfInBounds_toArray, List.set_cons_zero, List.set_cons_succ]
  refine Hoist.takeP (i := 14) (v := ?v14) rfl (by kernel_rfl) (by kernel_rfl) (by kernel_rfl) (fun _ _ _ h => h) ⟨by rfl, ?hy14⟩ ?rest14
  case hy14 => intro w'; go_simp; rfl
  simp only [Act.put, List.setIfInBounds_toArray, List.set_cons_zero, List.set_cons_succ]
  refine Hoist.takeP (i := 15) (v := ?v15) rfl (by kernel_rfl) (by kernel_rfl) (by kernel_rfl) (fun _ _ _ h => h) ⟨by rfl, ?hy15⟩ ?rest15
  case hy15 => intro w'; go_simp; rfl
  simp only [Act.put, List.setIfInBounds_toArray, List.set_cons_zero, List.set_cons_succ]
  refine Hoist.takeP (i := 16) (v := ?v16) rfl (by kernel_rfl) (by kernel_rfl) (by kernel_rfl) (fun _ _ _ h => h) ⟨by rfl, ?hy16⟩ ?rest16
  case hy16 => intro w'; go_simp; rfl
  simp only [Act.put, List.setIfInBounds_toArray, List.set_cons_zero, List.set_cons_succ]
  refine Hoist.takeP (i := 17) (v := ?v17) rfl (by kernel_rfl) (by kernel_rfl) (by kernel_rfl) (fun _ _ _ h => h) ⟨by rfl, ?hy17⟩ ?rest17
  case hy17 => intro w'; go_simp; rfl
  simp only [Act.put, List.setIfInBounds_toArray, List.set_cons_zero, List.set_cons_succ]
  refine Hoist.takeP (i := 18) (v := ?v18) rfl (by kernel_rfl) (by kernel_rfl) (by kernel_rfl) (fun _ _ _ h => h) ⟨by rfl, ?hy18⟩ ?rest18
  case hy18 => intro w'; go_simp; rfl
  simp only [Act.put, List.setIfInBounds_toArray, List.set_cons_zero, List.set_cons_succ]
  refine Hoist.takeP (i := 19) (v := ?v19) rfl (by kernel_rfl) (by kernel_rfl) (by kernel_rfl) (fun _ _ _ h => h) ⟨by rfl, ?hy19⟩ ?rest19
  case hy19 => intro w'; go_simp; rfl
  simp only [Act.put, List.setIfInBounds_toArray, List.set_cons_zero, List.set_cons_succ]
  refine Hoist.takeP (i := 20) (v := ?v20) rfl (by kernel_rfl) (by kernel_rfl) (by kernel_rfl) (fun _ _ _ h => h) ⟨by rfl, ?hy20⟩ ?rest20
  case hy20 => intro w'; go_simp; rfl
  simp only [Act.put, List.setIfInBounds_toArray, List.set_cons_zero, List.set_cons_succ]
  refine Hoist.takeP (i := 21) (v := ?v21) rfl (by kernel_rfl) (by kernel_rfl) (by kernel_rfl) (fun _ _ _ h => h) ⟨by rfl, ?hy21⟩ ?rest21
  case hy21 => intro w'; go_simp; rfl
  simp only [Act.put, List.setIfInBounds_toArray, List.set_cons_zero, List.set_cons_succ]
  refine Hoist.takeP (i := 22) (v := ?v22) rfl (by kernel_rfl) (by kernel_rfl) (by kernel_rfl) (fun _ _ _ h => h) ⟨by rfl, ?hy22⟩ ?rest22
  case hy22 => intro w'; go_simp; rfl
  simp only [Act.put, List.setIfInBounds_toArray, List.set_cons_zero, List.set_cons_succ]
  refine Hoist.takeP (i := 23) (v := ?v23) rfl (by kernel_rfl) (by kernel_rfl) (by kernel_rfl) (fun _ _ _ h => h) ⟨by rfl, ?hy23⟩ ?rest23
  case hy23 => intro w'; go_simp; rfl
  simp only [Act.put, List.setIfInBounds_toArray, List.set_cons_zero, List.set_cons_succ]
  refine Hoist.takeP (i := 24) (v := ?v24) rfl (by kernel_rfl) (by kernel_rfl) (by kernel_rfl) (fun _ _ _ h => h) ⟨by rfl, ?hy24⟩ ?rest24
  case hy24 => intro w'; go_simp; rfl
  simp only [Act.put, List.setIfInBounds_toArray, List.set_cons_zero, List.set_cons_succ]
  refine Hoist.takeP (i := 25) (v := ?v25) rfl (by kernel_rfl) (by kernel_rfl) (by kernel_rfl) (fun _ _ _ h => h) ⟨by rfl, ?hy25⟩ ?rest25
  case hy25 => intro w'; go_simp; rfl
  simp only [Act.put, List.setIfInBounds_toArray, List.set_cons_zero, List.set_cons_succ]
  refine Hoist.takeP (i := 26) (v := ?v26) rfl (by kernel_rfl) (by kernel_rfl) (by kernel_rfl) (fun _ _ _ h => h) ⟨by rfl, ?hy26⟩ ?rest26
  case hy26 => intro w'; go_simp; rfl
  simp only [Act.put, List.setIfInBounds_toArray, List.set_cons_zero, List.set_cons_succ]
  refine Hoist.takeP (i := 27) (v := ?v27) rfl (by kernel_rfl) (by kernel_rfl) (by kernel_rfl) (fun _ _ _ h => h) ⟨by rfl, ?hy27⟩ ?rest27
  case hy27 => intro w'; go_simp; rfl
  simp only [Act.put, List.setIfInBounds_toArray, List.set_cons_zero, List.set_cons_succ]
  refine Hoist.takeP (i := 28) (v := ?v28) rfl (by kernel_rfl) (by kernel_rfl) (by kernel_rfl) (fun _ _ _ h => h) ⟨by rfl, ?hy28⟩ ?rest28
  case hy28 => intro w'; go_simp; rfl
  simp only [Act.put, List.setIfInBounds_toArray, List.set_cons_zero, List.set_cons_succ]
  refine Hoist.only (i := 29) rfl (by kernel_rfl) ?_
  intro K hK
  go_simp
  refine hK _ _ trivial ?_
  clear hK K
  refine Hoist.only (i := 30) rfl (by kernel_rfl) ?_
  intro K hK
  refine step_append_run (by rfl) _ _ _ (by rfl) w.heap.size 5 i0 _ 1 Try.underlying25 hi hz0 hz1 hz2 rfl _ D.length (ncells D) (by rfl) ((HOUT.out.1.alloc _).drew) W.heap.size 12 [.int .u8 92, .int .u8 117, .int .u8 A, .int .u8 B, .int .u8 G, .int .u8 M, .int .u8 92, .int .u8 117, .int .u8 A2, .int .u8 B2, .int .u8 G2, .int .u8 M2] rfl (by rfl) (Blk.new _ _ _).drew q3.out (by omega) q1 q2 HW5.out.size ?_
  intro gg cap w4 ho3 hg3 hat hlt
  refine hK _ _ trivial ?_
  clear hK K
  refine Hoist.only (i := 31) rfl (by kernel_rfl) ?_
  intro K hK
  go_simp
  refine hK _ _ trivial ?_
  clear hK K
  refine Hoist.over (by kernel_rfl) ?_ _
  have HO3 := more_below (x := [92, 117, A, B, G, M, 92, 117, A2, B2, G2, M2]) HW5.out ho3 rfl hg3 (fun k hk => own_below HOUT.out.1 k hk)
  rw [← HU.out] at HO3
  exact NoPanic.normal (HH.out _ _ _ _ _ _ _ _ _ _ _ _ _ _ _ _ _ _ _ _ _ _ _ _ _ _ _ _ _ _ _ _ _ HO3)
end Go.Proofs.Ytobhlppdolekoaa.Wtf
