/- The builder of a chunk; appendMappingWithoutRemapping. The walk. -/
import Derived.Test.YtobhlppdolekoaaChC
import Derived.Test.YtobhlppdolekoaaHoist
import Derived.BigQuiet
namespace Go.Proofs.Ytobhlppdolekoaa.Ch
open Go.RowKit Go.Proofs.Ytobhlppdolekoaa.Aid Go.Proofs.Ytobhlppdolekoaa.Bytes
attribute [local go_sem ↓] Go.wp_at_zero Go.wp_at_succ
set_option linter.unusedVariables false
set_option linter.unusedSimpArgs false
theorem S_si {S1 SG : World → Prop} (m i : Nat) (h : i ≠ m) : ∀ (L : Array Bool) (w : World), (S1 w ∧ ((L.setIfInBounds i true).getD m true = false → SG w)) → (S1 w ∧ (L.getD m true = false → SG w)) := fun L w hs => ⟨hs.1, fun hm => hs.2 (by rw [getD_set_ne true h]; exact hm)⟩
theorem size58' : (Try.prog.info? 58).map (·.size) = some 7 := by kernel_rfl
theorem size58 (s : Sm) : (Try.prog.info? 58).map (·.size) = some [Value.int .i64 s.gl, .int .i64 s.gc, .int .i64 s.src, .int .i64 s.ol, .int .i64 s.oc, .int .i64 s.nm, .bool s.has].length := size58'
theorem sm_one (s : Sm) : ∀ v ∈ [Value.int .i64 s.gl, .int .i64 s.gc, .int .i64 s.src, .int .i64 s.ol, .int .i64 s.oc, .int .i64 s.nm, .bool s.has], v.oneCell' = true := by
  intro v hv
  simp only [List.mem_cons, List.not_mem_nil, or_false] at hv
  rcases hv with rfl | rfl | rfl | rfl | rfl | rfl | rfl <;> rfl
theorem _root_.Go.Proofs.Ytobhlppdolekoaa.Aid.Two.fresh {a b c : World} {g k : Nat} {r : Option Nat} (h : Two a b g r) (hk : b.grownBy c (some k)) (hf : a.heap.size ≤ k) : Two a c g r :=
  ⟨hk.os.trans h.os, hk.tape.trans h.tape, hk.output.trans h.output, Nat.le_trans h.size hk.size, fun i hi hg hr => (hk.block i (Nat.lt_of_lt_of_le hi h.size) (fun e => by injection e with e; omega)).trans (h.block i hi hg hr)⟩
/-- Part of a block stored. -/
theorem wpList_store_part {P : Program} {ops : Array Oper} {rest : List Oper} {op : Oper} {a : Act} {w : World} {Q : Exit → Act → World → Prop} (hgd : op.guard = none) (ty : TypeId) (x y : Operand) (ho : op.op = .store ty x y)
    (g o : Nat) (cs vs : List Value) (t : TypeId) (hx : a.eval x = .pointer (some ⟨g, o, none⟩)) (hy : a.eval y = .agg vs.toArray) (hg : Blk w g t cs) (hl : o + vs.length ≤ cs.length)
    (hi : (P.info? ty).map (·.size) = some vs.length) (h1 : ∀ v ∈ vs, v.oneCell' = true)
    (h : ∀ w', Blk w' g t (cs.take o ++ vs ++ cs.drop (o + vs.length)) → w.grownBy w' (some g) → w'.heap.size = w.heap.size → wpList P ops Q rest (a.put op.dst undef) w') : wpList P ops Q (op :: rest) a w := by
  obtain ⟨b1, b2, b3⟩ := blk_setCells vs o w cs hg hl
  refine wpList_store_mid hgd ty x y ho g o vs.toArray hx hy ?_ (by simpa using hi) (by simpa using h1) ?_
  · intro j hj
    rw [hg.cell, hg.frozen]
    refine ⟨?_, rfl⟩
    rw [List.getElem?_eq_getElem (by simp at hj; omega)]
    rfl
  · simpa using h _ b1 b2 b3
/-- What a builder's cells hold (sourcemap.ChunkBuilder without an input map). -/
structure Bd where
  v : Value
  q : Value
  m : Value
  T : Value
  pn : ByteArray
  st : Sm
  upd : Int
  gcol : Int
  plen : Int
  ploc : Int
  fo : Int
  hp : Bool
  asc : Bool
  ls : Bool
def Bd.cells (d : Bd) : List Value := [.pointer none, d.v, d.q, d.m, d.T, .string d.pn, .int .i64 d.st.gl, .int .i64 d.st.gc, .int .i64 d.st.src, .int .i64 d.st.ol, .int .i64 d.st.oc, .int .i64 d.st.nm, .bool d.st.has, .int .i64 d.upd, .int .i64 d.gcol, .int .i64 d.plen, .int .i32 d.ploc, .int .u32 d.fo, .bool d.hp, .bool d.asc, .bool d.ls, .bool true]
/-- The last byte; 0: there is none. -/
def lastOf (l : List Nat) : Nat := l.getLast?.getD 0
theorem lastOf_eq (l : List Nat) (h : 0 < l.length) : l[l.length - 1]? = some (lastOf l) := by
  rw [lastOf, List.getLast?_eq_getElem?]
  rw [List.getElem?_eq_getElem (by omega)]
  rfl
theorem lastOf_lt (l : List Nat) (h : ∀ b ∈ l, b < 256) : lastOf l < 256 := by
  rcases Nat.eq_zero_or_pos l.length with h0 | h0
  · rw [lastOf, List.length_eq_zero_iff.1 h0]; decide
  · exact h _ (List.mem_of_getElem? (lastOf_eq l h0))
theorem Buf.last {w : World} {B : Nat} {A : Option Addr} {c : Nat} {l : List Nat} (h : Buf w B (.slice A l.length c) l) (h0 : 0 < l.length) : ∃ g, A = some ⟨g, 0, none⟩ ∧ w.cell? ⟨g, l.length - 1, none⟩ = some (.int .u8 (lastOf l)) := by
  obtain ⟨A', c', e, hr⟩ := own_form h
  obtain ⟨g, e', _, _, hc⟩ := hr (l.length - 1) (by omega)
  injection e with e1 e2 e3
  refine ⟨g, by rw [e1, e'], ?_⟩
  rw [hc, ncells, List.getElem?_map, lastOf_eq l h0]
  rfl
/-- What a call has told of the builder: its cells, its bytes; no other memory that was there is changed. -/
structure Stepped (w w' : World) (g B : Nat) (d d' : Bd) (l : List Nat) : Prop where
  cells : Blk w' g 83 d'.cells
  buf : Buf w' B d'.v l
  two : Two w w' g d.v.ownBlock
  nx : d'.v.ownBlock = d.v.ownBlock ∨ ∃ k, d'.v.ownBlock = some k ∧ w.heap.size ≤ k
/-- The builder behind a mapping. -/
def Bd.mapped (d : Bd) (v' : Value) (q : Sm) (fo' : Int) : Bd := { d with v := v', st := { q with nm := if q.has then q.nm else d.st.nm }, fo := fo', hp := true }
set_option maxRecDepth 100000 in
set_option maxHeartbeats 8000000 in
theorem appendPlain (B g : Nat) (d : Bd) (l : List Nat) (q : Sm) (w : World) (hc : Blk w g 83 d.cells) (h : Buf w B d.v l) (hB : B ≤ w.heap.size) (hl : l.length ≤ 1000000000) (hl8 : ∀ b ∈ l, b < 256) (hp : d.st.Small) (hq : q.Small) :
    Calls Try.prog 39 #[.pointer (some ⟨g, 0, none⟩), q.val] w fun e w' => e = .returned (.tuple #[]) ∧ ∃ v' fo', Stepped w w' g B d (d.mapped v' q fo') (l ++ (sep (lastOf l) ++ seg d.st q)) := by
  obtain ⟨A, c, hv⟩ := own_slice h
  have HBUF := Lib.hid h
  have HP := Lib.hid hp
  have HQ := Lib.hid hq
  have HC := Lib.hid hc
  have HL8 := Lib.hid hl8
  have hgs : g < w.heap.size := hc.lt
  clear h hp hq hc hl8
  unfold Sm.val
  go_enter Try.func39, Try.ntmps39
  go_upto_region 2 with fail
  obtain ⟨W, hW⟩ : ∃ W, W = w.alloc (.cells q.cells.toArray 58) := ⟨_, rfl⟩
  have B0 : Below w.heap.size w W := by rw [hW]; exact below_at (Below.refl _ _) _
  have KQ : Hid (Blk W w.heap.size 58 q.cells) := Lib.hid (by rw [hW]; exact Blk.new w 58 q.cells)
  have KG : Hid (Blk W g 83 d.cells) := Lib.hid (HC.out.below B0 hgs)
  have KB : Hid (Buf W B d.v l) := Lib.hid (own_keep HBUF.out B0)
  have HB0 := Lib.hid B0
  rw [show w.alloc (.cells #[.int .i64 q.gl, .int .i64 q.gc, .int .i64 q.src, .int .i64 q.ol, .int .i64 q.oc, .int .i64 q.nm, .bool q.has] 58) = W from hW.symm]
  have cv : W.cell? ⟨g, 1, none⟩ = some (.slice A l.length c) := by rw [← hv]; exact KG.out.get 1 rfl
  clear hW B0
  obtain ⟨b, hb⟩ : ∃ b, b = w.heap.size := ⟨_, rfl⟩
  have HBb := Lib.hid hb
  rw [← hb] at KQ hgs ⊢
  clear hb
  obtain ⟨z, hz⟩ : ∃ z : Int, z = (lastOf l : Int) := ⟨_, rfl⟩
  have HZ := Lib.hid hz
  have hv' := Lib.hid hv
  rw [hv] at KB
  clear hz hv
  go_upto_if 12 with fail
  go_cut [4] (fun t wx => t = .int .u8 z ∧ ∃ n, wx = W.drewN n)
  case first =>
    by_cases h0 : l.length = 0
    · have hz0 : z = 0 := by rw [HZ.out, lastOf, List.length_eq_zero_iff.1 h0]; rfl
      rw [h0] at cv
      go_wp2_with fail
      go_meet
      exact ⟨by rw [hz0], 0, rfl⟩
    · obtain ⟨gv, hA, hcell⟩ := KB.out.last (by omega)
      subst hA
      rw [← HZ.out] at hcell
      have t0 : ((l.length : Int) != 0) = true := bne_iff_ne.2 (by omega)
      have t1 : IntKind.i64.wrap ((l.length : Int) - 1) = ((l.length - 1 : Nat) : Int) := by
        have e : (l.length : Int) - 1 = ((l.length - 1 : Nat) : Int) := by omega
        rw [e, IntKind.wrap_i64]
        omega
      go_upto_region 3 with fail
      go_quiet (fail)
      go_wp2_with fail
      go_meet
      exact ⟨rfl, nq, rfl⟩
  case rest =>
    obtain ⟨rfl, n, rfl⟩ := hcut
    go_upto_region 5 with fail
    obtain ⟨X, hX⟩ : ∃ X, X = (W.drewN n).alloc (.cells #[.int .u32 0] 53) := ⟨_, rfl⟩
    have BX : Below W.heap.size W X := by rw [hX]; exact (below_drewN (Below.refl _ _) n).alloc (by simp [World.drewN]) _
    obtain ⟨b5, hb5⟩ : ∃ b5, b5 = W.heap.size := ⟨_, rfl⟩
    have hds : (W.drewN n).heap.size = b5 := by rw [hb5]; rfl
    have K5 : Hid (Blk X b5 53 [.int .u32 0]) := Lib.hid (by rw [hX, ← hds]; exact Blk.new _ 53 _)
    have KG1 : Hid (Blk X g 83 d.cells) := Lib.hid (KG.out.below BX KG.out.lt)
    have KQ1 : Hid (Blk X b 58 q.cells) := Lib.hid (KQ.out.below BX KQ.out.lt)
    have KB1 : Hid (Buf X B (.slice A l.length c) l) := Lib.hid (own_keep KB.out BX)
    have hgb5 : b < b5 := by rw [hb5]; exact KQ.out.lt
    have BWX := Lib.hid BX
    rw [← hX, ← hb5]
    clear hX BX hds hb5 KG KQ KB cv
    have HBX : Hid (B ≤ X.heap.size) := Lib.hid (Nat.le_trans hB (Nat.le_trans HB0.out.size BWX.out.size))
    obtain ⟨S1, hS1⟩ : ∃ S1 : World → Prop, S1 = fun w' => (w'.cell? ⟨g, 6, none⟩ = some (.int .i64 d.st.gl) ∧ w'.cell? ⟨g, 7, none⟩ = some (.int .i64 d.st.gc) ∧ w'.cell? ⟨g, 8, none⟩ = some (.int .i64 d.st.src) ∧ w'.cell? ⟨g, 9, none⟩ = some (.int .i64 d.st.ol) ∧ w'.cell? ⟨g, 10, none⟩ = some (.int .i64 d.st.oc) ∧ w'.cell? ⟨g, 11, none⟩ = some (.int .i64 d.st.nm) ∧ w'.cell? ⟨g, 12, none⟩ = some (.bool d.st.has) ∧ w'.cell? ⟨b, 0, none⟩ = some (.int .i64 q.gl) ∧ w'.cell? ⟨b, 1, none⟩ = some (.int .i64 q.gc) ∧ w'.cell? ⟨b, 2, none⟩ = some (.int .i64 q.src) ∧ w'.cell? ⟨b, 3, none⟩ = some (.int .i64 q.ol) ∧ w'.cell? ⟨b, 4, none⟩ = some (.int .i64 q.oc) ∧ w'.cell? ⟨b, 5, none⟩ = some (.int .i64 q.nm) ∧ w'.cell? ⟨b, 6, none⟩ = some (.bool q.has) ∧ True) := ⟨_, rfl⟩
    obtain ⟨SG, hSG⟩ : ∃ SG : World → Prop, SG = fun w' => w'.cell? ⟨g, 1, none⟩ = some (.slice A l.length c) := ⟨_, rfl⟩
    have MK1 : Hid (∀ w', Blk w' g 83 d.cells → Blk w' b 58 q.cells → S1 w') := Lib.hid (by rw [hS1]; exact fun w' k1 k2 => ⟨k1.get 6 rfl, k1.get 7 rfl, k1.get 8 rfl, k1.get 9 rfl, k1.get 10 rfl, k1.get 11 rfl, k1.get 12 rfl, k2.get 0 rfl, k2.get 1 rfl, k2.get 2 rfl, k2.get 3 rfl, k2.get 4 rfl, k2.get 5 rfl, k2.get 6 rfl, trivial⟩)
    have MKG : Hid (∀ w', Blk w' g 83 d.cells → SG w') := Lib.hid (by rw [hSG]; exact fun w' k1 => by rw [← hv'.out]; exact k1.get 1 rfl)
    have h1 : S1 X.drew := MK1.out _ KG1.out.drew KQ1.out.drew
    have hg : SG X.drew := MKG.out _ KG1.out.drew
    have HS1 := Lib.hid hS1
    have HSG := Lib.hid hSG
    clear hS1 hSG
    refine Hoist.start (S := fun L w' => S1 w' ∧ (L.getD 17 true = false → SG w')) (by kernel_rfl) ?_
    refine Hoist.take (i := 0) (T := S1) (G := fun _ => True) (v := ?v0) rfl (by kernel_rfl) (by kernel_rfl) (by kernel_rfl) (fun _ _ _ h => h) (S_si 17 0 (by decide)) (fun _ _ _ _ _ _ => trivial) (fun _ _ _ h => h.1) trivial (Or.inl ⟨by rfl, ?hy0⟩) ⟨h1, fun _ => hg⟩ ?rest0
    case hy0 =>
      intro w' hSw
      rw [HS1.out] at hSw
      obtain ⟨t0, t1, t2, t3, t4, t5, t6, t7, t8, t9, t10, t11, t12, t13, t14⟩ := hSw
      go_simp
      rfl
    simp only [Act.put, List.setIfInBounds_toArray, List.set_cons_zero, List.set_cons_succ]
    refine Hoist.take (i := 1) (T := S1) (G := fun _ => True) (v := ?v1) rfl (by kernel_rfl) (by kernel_rfl) (by kernel_rfl) (fun _ _ _ h => h) (S_si 17 1 (by decide)) (fun _ _ _ _ _ _ => trivial) (fun _ _ _ h => h.1) trivial (Or.inl ⟨by rfl, ?hy1⟩) ⟨h1, fun _ => hg⟩ ?rest1
    case hy1 =>
      intro w' hSw
      rw [HS1.out] at hSw
      obtain ⟨t0, t1, t2, t3, t4, t5, t6, t7, t8, t9, t10, t11, t12, t13, t14⟩ := hSw
      go_simp
      rfl
    simp only [Act.put, List.setIfInBounds_toArray, List.set_cons_zero, List.set_cons_succ]
    refine Hoist.take (i := 2) (T := S1) (G := fun _ => True) (v := ?v2) rfl (by kernel_rfl) (by kernel_rfl) (by kernel_rfl) (fun _ _ _ h => h) (S_si 17 2 (by decide)) (fun _ _ _ _ _ _ => trivial) (fun _ _ _ h => h.1) trivial (Or.inl ⟨by rfl, ?hy2⟩) ⟨h1, fun _ => hg⟩ ?rest2
    case hy2 =>
      intro w' hSw
      rw [HS1.out] at hSw
      obtain ⟨t0, t1, t2, t3, t4, t5, t6, t7, t8, t9, t10, t11, t12, t13, t14⟩ := hSw
      go_simp
      rfl
    simp only [Act.put, List.setIfInBounds_toArray, List.set_cons_zero, List.set_cons_succ]
    refine Hoist.take (i := 3) (T := S1) (G := fun _ => True) (v := ?v3) rfl (by kernel_rfl) (by kernel_rfl) (by kernel_rfl) (fun _ _ _ h => h) (S_si 17 3 (by decide)) (fun _ _ _ _ _ _ => trivial) (fun _ _ _ h => h.1) trivial (Or.inl ⟨by rfl, ?hy3⟩) ⟨h1, fun _ => hg⟩ ?rest3
    case hy3 =>
      intro w' hSw
      rw [HS1.out] at hSw
      obtain ⟨t0, t1, t2, t3, t4, t5, t6, t7, t8, t9, t10, t11, t12, t13, t14⟩ := hSw
      go_simp
      rfl
    simp only [Act.put, List.setIfInBounds_toArray, List.set_cons_zero, List.set_cons_succ]
    refine Hoist.take (i := 4) (T := fun w' => S1 w' ∧ SG w') (G := fun L => L.getD 17 true = false) (v := ?v4) rfl (by kernel_rfl) (by kernel_rfl) (by kernel_rfl) (fun _ _ _ h => h) (S_si 17 4 (by decide)) (Hoist.waits 17 4 (by kernel_rfl)) (fun _ _ hg h => ⟨h.1, h.2 hg⟩) (by kernel_rfl) (Or.inl ⟨by rfl, ?hy4⟩) ⟨h1, fun _ => hg⟩ ?rest4
    case hy4 =>
      intro w' hSw
      obtain ⟨hSw, hSG⟩ := hSw
      rw [HSG.out] at hSG
      rw [HS1.out] at hSw
      obtain ⟨t0, t1, t2, t3, t4, t5, t6, t7, t8, t9, t10, t11, t12, t13, t14⟩ := hSw
      go_simp
      rfl
    simp only [Act.put, List.setIfInBounds_toArray, List.set_cons_zero, List.set_cons_succ]
    refine Hoist.take (i := 5) (T := S1) (G := fun _ => True) (v := ?v5) rfl (by kernel_rfl) (by kernel_rfl) (by kernel_rfl) (fun _ _ _ h => h) (S_si 17 5 (by decide)) (fun _ _ _ _ _ _ => trivial) (fun _ _ _ h => h.1) trivial (Or.inl ⟨by rfl, ?hy5⟩) ⟨h1, fun _ => hg⟩ ?rest5
    case hy5 =>
      intro w' hSw
      rw [HS1.out] at hSw
      obtain ⟨t0, t1, t2, t3, t4, t5, t6, t7, t8, t9, t10, t11, t12, t13, t14⟩ := hSw
      go_simp
      rfl
    simp only [Act.put, List.setIfInBounds_toArray, List.set_cons_zero, List.set_cons_succ]
    refine Hoist.take (i := 6) (T := S1) (G := fun _ => True) (v := ?v6) rfl (by kernel_rfl) (by kernel_rfl) (by kernel_rfl) (fun _ _ _ h => h) (S_si 17 6 (by decide)) (fun _ _ _ _ _ _ => trivial) (fun _ _ _ h => h.1) trivial (Or.inl ⟨by rfl, ?hy6⟩) ⟨h1, fun _ => hg⟩ ?rest6
    case hy6 =>
      intro w' hSw
      rw [HS1.out] at hSw
      obtain ⟨t0, t1, t2, t3, t4, t5, t6, t7, t8, t9, t10, t11, t12, t13, t14⟩ := hSw
      go_simp
      rfl
    simp only [Act.put, List.setIfInBounds_toArray, List.set_cons_zero, List.set_cons_succ]
    refine Hoist.take (i := 7) (T := S1) (G := fun _ => True) (v := ?v7) rfl (by kernel_rfl) (by kernel_rfl) (by kernel_rfl) (fun _ _ _ h => h) (S_si 17 7 (by decide)) (fun _ _ _ _ _ _ => trivial) (fun _ _ _ h => h.1) trivial (Or.inl ⟨by rfl, ?hy7⟩) ⟨h1, fun _ => hg⟩ ?rest7
    case hy7 =>
      intro w' hSw
      rw [HS1.out] at hSw
      obtain ⟨t0, t1, t2, t3, t4, t5, t6, t7, t8, t9, t10, t11, t12, t13, t14⟩ := hSw
      go_simp
      rfl
    simp only [Act.put, List.setIfInBounds_toArray, List.set_cons_zero, List.set_cons_succ]
    refine Hoist.take (i := 8) (T := S1) (G := fun _ => True) (v := ?v8) rfl (by kernel_rfl) (by kernel_rfl) (by kernel_rfl) (fun _ _ _ h => h) (S_si 17 8 (by decide)) (fun _ _ _ _ _ _ => trivial) (fun _ _ _ h => h.1) trivial (Or.inl ⟨by rfl, ?hy8⟩) ⟨h1, fun _ => hg⟩ ?rest8
    case hy8 =>
      intro w' hSw
      rw [HS1.out] at hSw
      obtain ⟨t0, t1, t2, t3, t4, t5, t6, t7, t8, t9, t10, t11, t12, t13, t14⟩ := hSw
      go_simp
      rfl
    simp only [Act.put, List.setIfInBounds_toArray, List.set_cons_zero, List.set_cons_succ]
    refine Hoist.take (i := 9) (T := S1) (G := fun _ => True) (v := ?v9) rfl (by kernel_rfl) (by kernel_rfl) (by kernel_rfl) (fun _ _ _ h => h) (S_si 17 9 (by decide)) (fun _ _ _ _ _ _ => trivial) (fun _ _ _ h => h.1) trivial (Or.inl ⟨by rfl, ?hy9⟩) ⟨h1, fun _ => hg⟩ ?rest9
    case hy9 =>
      intro w' hSw
      rw [HS1.out] at hSw
      obtain ⟨t0, t1, t2, t3, t4, t5, t6, t7, t8, t9, t10, t11, t12, t13, t14⟩ := hSw
      go_simp
      rfl
    simp only [Act.put, List.setIfInBounds_toArray, List.set_cons_zero, List.set_cons_succ]
    refine Hoist.take (i := 10) (T := S1) (G := fun _ => True) (v := ?v10) rfl (by kernel_rfl) (by kernel_rfl) (by kernel_rfl) (fun _ _ _ h => h) (S_si 17 10 (by decide)) (fun _ _ _ _ _ _ => trivial) (fun _ _ _ h => h.1) trivial (Or.inl ⟨by rfl, ?hy10⟩) ⟨h1, fun _ => hg⟩ ?rest10
    case hy10 =>
      intro w' hSw
      rw [HS1.out] at hSw
      obtain ⟨t0, t1, t2, t3, t4, t5, t6, t7, t8, t9, t10, t11, t12, t13, t14⟩ := hSw
      go_simp
      rfl
    simp only [Act.put, List.setIfInBounds_toArray, List.set_cons_zero, List.set_cons_succ]
    have HT : Hid _ := Lib.hid (toBuffer B (.slice A l.length c) l (lastOf l) d.st q X.drew (own_keep KB1.out (below_drewN (Below.refl _ _) 1)) HBX.out (by omega) HP.out HQ.out (lastOf_lt l HL8.out))
    rw [← HZ.out] at HT
    refine Hoist.only (i := 11) rfl (by kernel_rfl) ?_
    intro K' hK
    go_simp
    refine (HT.out).mono ?_
    rintro e w1 ⟨v1, f1, rfl, hb1, hg1⟩
    obtain ⟨A1, c1, rfl⟩ := own_slice hb1
    obtain ⟨n1, hn1⟩ : ∃ n1, n1 = (l ++ (sep (lastOf l) ++ seg d.st q)).length := ⟨_, rfl⟩
    rw [← hn1] at hb1 hg1 ⊢
    have HN1 := Lib.hid hn1
    clear hn1
    have KB1d : Buf X.drew B (.slice A l.length c) l := own_keep KB1.out (below_drewN (Below.refl _ _) 1)
    have KG2 := Lib.hid (KG1.out.drew.grown hg1.by_ (own_ne KB1d KG1.out.drew (by decide)))
    have KQ2 := Lib.hid (KQ1.out.drew.grown hg1.by_ (own_ne KB1d KQ1.out.drew (by decide)))
    have K52 := Lib.hid (K5.out.drew.grown hg1.by_ (own_ne KB1d K5.out.drew (by decide)))
    have HB1 := Lib.hid hb1
    have HG1 := Lib.hid hg1
    clear hb1 hg1 KB1d HT
    refine hK _ _ ⟨MK1.out _ KG2.out KQ2.out, fun _ => MKG.out _ KG2.out⟩ ?_
    clear hK K'
    refine Hoist.only (i := 12) rfl (by kernel_rfl) ?_
    intro K' hK
    go_simp
    refine hK _ _ ⟨MK1.out _ KG2.out KQ2.out, fun _ => MKG.out _ KG2.out⟩ ?_
    clear hK K' h1 hg
    have h1 : S1 w1 := MK1.out _ KG2.out KQ2.out
    have hg : SG w1 := MKG.out _ KG2.out
    refine Hoist.take (i := 14) (T := S1) (G := fun _ => True) (v := ?v14) rfl (by kernel_rfl) (by kernel_rfl) (by kernel_rfl) (fun _ _ _ h => h) (S_si 17 14 (by decide)) (fun _ _ _ _ _ _ => trivial) (fun _ _ _ h => h.1) trivial (Or.inl ⟨by rfl, ?hy14⟩) ⟨h1, fun _ => hg⟩ ?rest14
    case hy14 =>
      intro w' hSw
      rw [HS1.out] at hSw
      obtain ⟨t0, t1, t2, t3, t4, t5, t6, t7, t8, t9, t10, t11, t12, t13, t14⟩ := hSw
      go_simp
      rfl
    simp only [Act.put, List.setIfInBounds_toArray, List.set_cons_zero, List.set_cons_succ]
    refine Hoist.only (i := 13) rfl (by kernel_rfl) ?_
    intro K' hK
    go_simp
    refine hK _ _ ⟨h1, fun _ => hg⟩ ?_
    clear hK K'
    refine Hoist.only (i := 15) rfl (by kernel_rfl) ?_
    intro K' hK
    go_simp
    refine hK _ _ ⟨h1, fun _ => hg⟩ ?_
    clear hK K'
    refine Hoist.only (i := 16) rfl (by kernel_rfl) ?_
    intro K' hK
    go_simp
    refine hK _ _ ⟨h1, fun _ => hg⟩ ?_
    clear hK K'
    have z1 := KG2.out.get 1 rfl
    have y1 := KG2.out.frozen 1
    refine Hoist.only (i := 17) rfl (by kernel_rfl) ?_
    intro K' hK
    go_simp
    obtain ⟨w2, hw2⟩ : ∃ w2, w2 = w1.setCell ⟨g, 1, none⟩ (.slice A1 n1 c1) := ⟨_, rfl⟩
    have KG3 : Hid (Blk w2 g 83 ({ d with v := (.slice A1 n1 c1) } : Bd).cells) := Lib.hid (by rw [hw2]; exact KG2.out.set_ 1 (.slice A1 n1 c1))
    have hgb : g ≠ b := by omega
    have hg5 : g ≠ b5 := by omega
    have KQ3 : Hid (Blk w2 b 58 q.cells) := Lib.hid (by rw [hw2]; exact KQ2.out.far (Ne.symm hgb) _)
    have K53 : Hid (Blk w2 b5 53 [.int .u32 0]) := Lib.hid (by rw [hw2]; exact K52.out.far (Ne.symm hg5) _)
    have G12 : Hid (w1.grownBy w2 (some g)) := Lib.hid (by rw [hw2]; exact only_setCell (World.grownBy.refl _ _) (.inl rfl) _)
    rw [← hw2]
    clear hw2 h1 hg z1 y1
    have h1 : S1 w2 := by
      rw [HS1.out]
      exact ⟨KG3.out.get 6 rfl, KG3.out.get 7 rfl, KG3.out.get 8 rfl, KG3.out.get 9 rfl, KG3.out.get 10 rfl, KG3.out.get 11 rfl, KG3.out.get 12 rfl, KQ3.out.get 0 rfl, KQ3.out.get 1 rfl, KQ3.out.get 2 rfl, KQ3.out.get 3 rfl, KQ3.out.get 4 rfl, KQ3.out.get 5 rfl, KQ3.out.get 6 rfl, trivial⟩
    refine hK _ _ ⟨h1, fun hL => absurd hL (by simp)⟩ ?_
    clear hK K'
    have z1 := K53.out.get 0 rfl
    have y1 := K53.out.frozen 0
    refine Hoist.only (i := 18) rfl (by kernel_rfl) ?_
    intro K' hK
    go_simp
    obtain ⟨w3, hw3⟩ : ∃ w3, w3 = w2.setCell ⟨b5, 0, none⟩ (.int .u32 f1) := ⟨_, rfl⟩
    have KG4 : Hid (Blk w3 g 83 ({ d with v := (.slice A1 n1 c1) } : Bd).cells) := Lib.hid (by rw [hw3]; exact KG3.out.far hg5 _)
    have KQ4 : Hid (Blk w3 b 58 q.cells) := Lib.hid (by rw [hw3]; exact KQ3.out.far (by simp; omega) _)
    have K54 : Hid (Blk w3 b5 53 [.int .u32 f1]) := Lib.hid (by rw [hw3]; exact K53.out.set_ 0 _)
    have G23 : Hid (w2.grownBy w3 (some b5)) := Lib.hid (by rw [hw3]; exact only_setCell (World.grownBy.refl _ _) (.inl rfl) _)
    rw [← hw3]
    clear hw3 h1 z1 y1
    have h1 : S1 w3 := by
      rw [HS1.out]
      exact ⟨KG4.out.get 6 rfl, KG4.out.get 7 rfl, KG4.out.get 8 rfl, KG4.out.get 9 rfl, KG4.out.get 10 rfl, KG4.out.get 11 rfl, KG4.out.get 12 rfl, KQ4.out.get 0 rfl, KQ4.out.get 1 rfl, KQ4.out.get 2 rfl, KQ4.out.get 3 rfl, KQ4.out.get 4 rfl, KQ4.out.get 5 rfl, KQ4.out.get 6 rfl, trivial⟩
    refine hK _ _ ⟨h1, fun hL => absurd hL (by simp)⟩ ?_
    clear hK K' h1
    refine Hoist.over (by kernel_rfl) ?_ _
    have T3 : Hid (Two w w3 g d.v.ownBlock) := Lib.hid (by
      have t0 : Two w X.drew g d.v.ownBlock := Two.of_below ((HB0.out.trans (BWX.out.mono HB0.out.size)).drew)
      have t1 : Two w w1 g d.v.ownBlock := t0.trans (Two.of_row (by rw [hv'.out]; exact HG1.out.by_))
      have t2 : Two w w2 g d.v.ownBlock := t1.trans (Two.of_block G12.out)
      exact t2.fresh G23.out (by have := HB0.out.size; have := HBb.out; omega))
    have B3 : Hid (Buf w3 B (.slice A1 n1 c1) (l ++ (sep (lastOf l) ++ seg d.st q))) := Lib.hid (by
      have k1 := HB1.out.kept G12.out (.inr fun e => own_ne HB1.out KG2.out (by decide) e.symm)
      exact k1.kept G23.out (.inr fun e => own_ne k1 K53.out (by decide) e.symm))
    have N3 : Hid ((Value.slice A1 n1 c1).ownBlock = d.v.ownBlock ∨ ∃ k, (Value.slice A1 n1 c1).ownBlock = some k ∧ w.heap.size ≤ k) := Lib.hid (by
      rcases HG1.out.nx with e | ⟨k, e, hk⟩
      · left; rw [e, hv'.out]
      · right; exact ⟨k, e, Nat.le_trans (Nat.le_trans HB0.out.size BWX.out.size) hk⟩)
    clear HS1 HSG MK1 MKG KG1 KQ1 KB1 K5 KG2 KQ2 K52 KG3 KQ3 K53 G12 G23 HG1 HB1 HBX BWX
    have HLE : Hid (6 + [Value.int .i64 q.gl, .int .i64 q.gc, .int .i64 q.src, .int .i64 q.ol, .int .i64 q.oc, .int .i64 q.nm, .bool q.has].length ≤ ({ d with v := (.slice A1 n1 c1) } : Bd).cells.length) := Lib.hid (Nat.le_of_ble_eq_true rfl)
    have c11 : w3.cell? ⟨g, 11, none⟩ = some (.int .i64 d.st.nm) := KG4.out.get 11 rfl
    have q0 : w3.cell? ⟨b, 0, none⟩ = some (.int .i64 q.gl) := KQ4.out.get 0 rfl
    have q1 : w3.cell? ⟨b, 1, none⟩ = some (.int .i64 q.gc) := KQ4.out.get 1 rfl
    have q2 : w3.cell? ⟨b, 2, none⟩ = some (.int .i64 q.src) := KQ4.out.get 2 rfl
    have q3 : w3.cell? ⟨b, 3, none⟩ = some (.int .i64 q.ol) := KQ4.out.get 3 rfl
    have q4 : w3.cell? ⟨b, 4, none⟩ = some (.int .i64 q.oc) := KQ4.out.get 4 rfl
    have q5 : w3.cell? ⟨b, 5, none⟩ = some (.int .i64 q.nm) := KQ4.out.get 5 rfl
    have q6 : w3.cell? ⟨b, 6, none⟩ = some (.bool q.has) := KQ4.out.get 6 rfl
    go_wp2_with (with_reducible refine wpList_store_part rfl 58 (.tmp 50) (.tmp 48) rfl g 6 ({ d with v := (.slice A1 n1 c1) } : Bd).cells [.int .i64 q.gl, .int .i64 q.gc, .int .i64 q.src, .int .i64 q.ol, .int .i64 q.oc, .int .i64 q.nm, .bool q.has] 83 rfl rfl KG4.out HLE.out (size58 q) (sm_one q) ?_)
    intro w4 H4 G4 S4
    have KG5 : Hid (Blk w4 g 83 ({ d with v := (.slice A1 n1 c1), st := q } : Bd).cells) := Lib.hid H4
    have hgb' : b ≠ g := Ne.symm hgb
    have KQ5 : Hid (Blk w4 b 58 q.cells) := Lib.hid (KQ4.out.grown G4 (by intro e; injection e with e; omega))
    have K55 : Hid (Blk w4 b5 53 [.int .u32 f1]) := Lib.hid (K54.out.grown G4 (by intro e; injection e with e; omega))
    have T4 : Hid (Two w w4 g d.v.ownBlock) := Lib.hid (T3.out.trans (Two.of_block G4))
    have B4 : Hid (Buf w4 B (.slice A1 n1 c1) (l ++ (sep (lastOf l) ++ seg d.st q))) := Lib.hid (B3.out.kept G4 (.inr fun e => own_ne B3.out KG4.out (by decide) e.symm))
    clear H4 G4 S4 KG4 KQ4 K54 T3 B3 HLE c11 q0 q1 q2 q3 q4 q5 q6
    have c18 : w4.cell? ⟨g, 18, none⟩ = some (.bool d.hp) := KG5.out.get 18 rfl
    have f18 := KG5.out.frozen 18
    have c17 : w4.cell? ⟨g, 17, none⟩ = some (.int .u32 d.fo) := KG5.out.get 17 rfl
    have f17 := KG5.out.frozen 17
    have c11 : w4.cell? ⟨g, 11, none⟩ = some (.int .i64 q.nm) := KG5.out.get 11 rfl
    have f11 := KG5.out.frozen 11
    have d5 : w4.cell? ⟨b5, 0, none⟩ = some (.int .u32 f1) := K55.out.get 0 rfl
    obtain ⟨zh, hzh⟩ : ∃ z, q.has = z := ⟨_, rfl⟩
    have q6 : w4.cell? ⟨b, 6, none⟩ = some (.bool zh) := by rw [← hzh]; exact KQ5.out.get 6 rfl
    have HZH := Lib.hid hzh
    clear hzh
    go_upto_if 53 with fail
    go_cut [] (fun wx => Hid (∃ fo', Blk wx g 83 ({ d with v := (.slice A1 n1 c1), st := { q with nm := if q.has then q.nm else d.st.nm }, fo := fo' } : Bd).cells ∧ Buf wx B (.slice A1 n1 c1) (l ++ (sep (lastOf l) ++ seg d.st q)) ∧ Two w wx g d.v.ownBlock))
    case first =>
      cases zh with
      | false =>
        go_wp2_with fail
        go_meet
        refine Lib.hid ⟨d.fo, ?_, ?_, ?_⟩
        · have e : (if q.has = true then q.nm else d.st.nm) = d.st.nm := by rw [HZH.out]; rfl
          rw [e]
          exact KG5.out.set_ 11 (.int .i64 d.st.nm)
        · exact B4.out.kept (only_setCell (p := ⟨g, 11, none⟩) (World.grownBy.refl w4 (some g)) (.inl rfl) _) (.inr fun e => own_ne B4.out KG5.out (by decide) e.symm)
        · exact T4.out.trans (Two.of_block (only_setCell (p := ⟨g, 11, none⟩) (World.grownBy.refl w4 (some g)) (.inl rfl) _))
      | true =>
        have HV := Lib.hid isValid
        go_wp2_with fail
        refine (HV.out _ _).mono ?_
        rintro e w5 ⟨hb5, zv, rfl⟩
        have KG6 : Hid (Blk w5 g 83 ({ d with v := (.slice A1 n1 c1), st := q } : Bd).cells) := Lib.hid (KG5.out.below hb5 KG5.out.lt)
        have K56 : Hid (Blk w5 b5 53 [.int .u32 f1]) := Lib.hid (K55.out.below hb5 K55.out.lt)
        have T5 : Hid (Two w w5 g d.v.ownBlock) := Lib.hid (T4.out.trans (Two.of_below hb5))
        have B5 : Hid (Buf w5 B (.slice A1 n1 c1) (l ++ (sep (lastOf l) ++ seg d.st q))) := Lib.hid (own_keep B4.out hb5)
        clear hb5 c18 f18 c17 f17 c11 f11 d5 q6 HV
        have c17 : w5.cell? ⟨g, 17, none⟩ = some (.int .u32 d.fo) := KG6.out.get 17 rfl
        have f17 := KG6.out.frozen 17
        have d5 : w5.cell? ⟨b5, 0, none⟩ = some (.int .u32 f1) := K56.out.get 0 rfl
        cases zv with
        | true =>
          go_wp2_with fail
          go_meet
          refine Lib.hid ⟨d.fo, ?_, B5.out, T5.out⟩
          have e : (if q.has = true then q.nm else d.st.nm) = q.nm := by rw [HZH.out]; rfl
          rw [e]
          exact KG6.out
        | false =>
          go_wp2_with fail
          go_meet
          refine Lib.hid ⟨f1, ?_, ?_, ?_⟩
          · have e : (if q.has = true then q.nm else d.st.nm) = q.nm := by rw [HZH.out]; rfl
            rw [e]
            exact KG6.out.set_ 17 (.int .u32 f1)
          · exact B5.out.kept (only_setCell (p := ⟨g, 17, none⟩) (World.grownBy.refl w5 (some g)) (.inl rfl) _) (.inr fun e => own_ne B5.out KG6.out (by decide) e.symm)
          · exact T5.out.trans (Two.of_block (only_setCell (p := ⟨g, 17, none⟩) (World.grownBy.refl w5 (some g)) (.inl rfl) _))
    case rest =>
      obtain ⟨fo', k1, k2, k3⟩ := hcut.out
      obtain ⟨w6, hw6⟩ : ∃ w6, w6 = wc := ⟨_, rfl⟩
      subst hw6
      have c18 : w6.cell? ⟨g, 18, none⟩ = some (.bool d.hp) := k1.get 18 rfl
      have f18 := k1.frozen 18
      have H1 := Lib.hid k1
      have H2 := Lib.hid k2
      have H3 := Lib.hid k3
      clear k1 k2 k3 hcut
      go_wp2_with fail
      go_returns
      refine ⟨rfl, _, fo', ⟨H1.out.set_ 18 (.bool true), ?_, ?_, N3.out⟩⟩
      · exact H2.out.kept (only_setCell (p := ⟨g, 18, none⟩) (World.grownBy.refl w6 (some g)) (.inl rfl) _) (.inr fun e => own_ne H2.out H1.out (by decide) e.symm)
      · exact H3.out.trans (Two.of_block (only_setCell (p := ⟨g, 18, none⟩) (World.grownBy.refl w6 (some g)) (.inl rfl) _))
end Go.Proofs.Ytobhlppdolekoaa.Ch
