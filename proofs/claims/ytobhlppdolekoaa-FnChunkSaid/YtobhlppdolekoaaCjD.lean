/- impl.ChunkOf. The walk. -/
import Derived.Test.YtobhlppdolekoaaCjC
import Derived.Test.YtobhlppdolekoaaChV
import Derived.Test.YtobhlppdolekoaaHoist
import Derived.Maps.AppendAt
namespace Go.Proofs.Ytobhlppdolekoaa.Ch
open Go.RowKit Go.Proofs.Ytobhlppdolekoaa.Aid Go.Proofs.Ytobhlppdolekoaa.Bytes Go.Proofs.Ytobhlppdolekoaa.Runes Go.Proofs.Ytobhlppdolekoaa.Wtf
attribute [local go_sem ↓] Go.wp_at_zero Go.wp_at_succ
set_option linter.unusedVariables false
set_option linter.unusedSimpArgs false
/-- append of a list that came in, whatever its length. -/
theorem run_append_reads {P : Program} (w : World) (t ty : TypeId) (base : Nat) (e : TypeId) (i : TypeInfo) (z : Value) (bytes : Nat) (ht : P.underlying t = some (.slice e)) (hi : P.info? e = some i) (hz : i.zero = some z)
    (hsize : i.size = 1) (hby : i.bytes = bytes) (hzs : z.cells.size = 1) (v : Value) (n : Nat) (xs : List Value) (hown : w.ownsRow base e 1 v n xs)
    (A : Option Addr) (m c : Nat) (f : Nat → Value) (hr : Reads w A m f) (hc : A = none → c = 0) (h1 : ∀ i, i < m → (f i).oneCell' = true)
    (h63 : n + m ≤ maxLen) (hbytes : (n + m) * bytes ≤ 140737488355328) (hbase : base ≤ w.heap.size) :
    ∃ v' w', (Builtin.append_ #[t, t] ty #[v, .slice A m c]).run P w = .ok v' w' ∧ w'.ownsRow base e 1 v' (n + m) (xs ++ row m f) ∧ w.grownBy w' v.ownBlock ∧ (v'.ownBlock = v.ownBlock ∨ v'.ownBlock = some w.heap.size) := by
  cases A with
  | none =>
    have hm : m = 0 := by
      rcases Nat.eq_zero_or_pos m with q | q
      · exact q
      · obtain ⟨b, o, hA, _⟩ := hr 0 q
        cases hA
    subst hm
    rw [hc rfl]
    refine ⟨v, w, run_append_owned_none (P := P) (w := w) base t ty e i 1 ht hi v n xs hown, ?_, World.grownBy.refl _ _, .inl rfl⟩
    simpa [row] using hown
  | some a =>
    obtain ⟨v', w', hrun, h2, h3, _, h5⟩ := run_append_own_at (P := P) w base t ty e i z 1 bytes ht hi hz hsize hby hzs (by omega) v n xs hown a m c (row m f) (by rw [row_length, Nat.mul_one]) (fun j u hj => by
      have hlt : j < m := by
        rcases Nat.lt_or_ge j m with q | q
        · exact q
        · rw [List.getElem?_eq_none (by rw [row_length]; exact q)] at hj
          cases hj
      obtain ⟨ad, had, hh⟩ := hr.src (by omega)
      injection had with had
      subst had
      exact hh j u hj) (row_one m f h1) h63 hbytes hbase
    exact ⟨v', w', hrun, h2, h3, h5⟩
theorem step_append_reads {P : Program} {w : World} {ops : Array Oper} {o : Oper} {a : Act} {K : Act → World → Prop} {Q : Exit → Act → World → Prop} {E : Prop} (hgd : o.guard = none) (s x : Operand) (t : TypeId)
    (ho : o.op = .call { callee := .builtin .append, args := #[s, x], argTypes := #[t, t] })
    (base : Nat) (e : TypeId) (i : TypeInfo) (z : Value) (bytes : Nat) (ht : P.underlying t = some (.slice e)) (hi : P.info? e = some i) (hz : i.zero = some z)
    (hsize : i.size = 1) (hby : i.bytes = bytes) (hzs : z.cells.size = 1) (v : Value) (n : Nat) (xs : List Value) (hs : a.eval s = v) (hown : w.ownsRow base e 1 v n xs)
    (A : Option Addr) (m c : Nat) (f : Nat → Value) (hx : a.eval x = .slice A m c) (hr : Reads w A m f) (hc : A = none → c = 0) (h1 : ∀ i, i < m → (f i).oneCell' = true)
    (h63 : n + m ≤ maxLen) (hbytes : (n + m) * bytes ≤ 140737488355328) (hbase : base ≤ w.heap.size)
    (hk : ∀ v' w', w'.ownsRow base e 1 v' (n + m) (xs ++ row m f) → w.grownBy w' v.ownBlock → (v'.ownBlock = v.ownBlock ∨ v'.ownBlock = some w.heap.size) → K (a.put o.dst v') w') :
    if Region.wanted o (yielded ops a.tmps) = true then Oper.wp P o a w K Q else E := by
  have hw : Region.wanted o (yielded ops a.tmps) = true := by simp [Region.wanted, hgd]
  rw [if_pos hw]
  obtain ⟨v', w', hrun, h2, h3, h5⟩ := run_append_reads (P := P) w t o.type base e i z bytes ht hi hz hsize hby hzs v n xs hown A m c f hr hc h1 h63 hbytes hbase
  unfold Oper.wp execOp
  simp only [ho, resolve, invoke, builtin, Sem.run_bind, Sem.run_pure, Result.andThen_ok, List.map_toArray, List.map_cons, List.map_nil, hs, hx, hrun]
  exact hk v' w' h2 h3 h5
theorem Fin.keep {w w' : World} {src out : ByteArray} {ms : List Mk} {asc : Bool} {B bm : Nat} {a : Ab} {v qv : Value} {ns : List ByteArray} {E : List Mp} {n0 : Nat} (h : Fin w src out ms asc B bm a v qv ns E n0) (hb : Below w.heap.size w w') : Fin w' src out ms asc B bm a v qv ns E n0 := by
  obtain ⟨f1, f2, f3, f4, f5, f6, f7, f8, f9, f10, f11, f12⟩ := h
  exact ⟨own_keep f1 hb, f2.below hb, f3, f4, f5, f6, f7, f8, f9, f10, f11, f12⟩
/-- What is known of a chunk, but for the memory. -/
structure Tale (src out : ByteArray) (ms : List Mk) (a : Ab) (ns : List ByteArray) (E : List Mp) (n0 : Nat) : Prop where
  maps : Maps a E
  order : InOrder E
  each : ∀ m ∈ E, From src out ns ms m
  led : Led src out ms E
  gl : a.st.gl = ((placeOf out out.size).1 : Int)
  gcol : a.gcol = ((placeOf out out.size).2 : Int)
  lim : a.Lim n0
  n0 : n0 ≤ 40000
  len : ns.length ≤ 500
  names : ∀ s ∈ ns, ∃ k ∈ ms, k.name = s
theorem Fin.tale {w : World} {src out : ByteArray} {ms : List Mk} {asc : Bool} {B bm : Nat} {a : Ab} {v qv : Value} {ns : List ByteArray} {E : List Mp} {n0 : Nat} (h : Fin w src out ms asc B bm a v qv ns E n0) : Tale src out ms a ns E n0 := ⟨h.maps, h.order, h.each, h.led, h.gl, h.gcol, h.lim, h.n0, h.len, h.names⟩
theorem info5 : (Try.prog.info? 5).map (fun i => (i.zero, i.size, i.bytes)) = some (some (.int .u8 0), 1, 1) := by kernel_rfl
theorem own_fresh (w : World) (e : TypeId) : ((w.alloc (.cells #[] e)).drew).ownsRow w.heap.size e 1 (.slice (some ⟨w.heap.size, 0, none⟩) 0 0) 0 [] := (World.ownsRow_made (base := w.heap.size) (e := e) (size := 1) w #[] 0 (Nat.le_refl _) (Nat.zero_le _) rfl).drew
theorem row_bytes (l : List Nat) : row l.length (fun i => .int .u8 ((l.getD i 0 : Nat) : Int)) = ncells l := by
  apply List.ext_getElem?
  intro i
  by_cases h : i < l.length
  · rw [row_get _ _ _ h, ncells, List.getElem?_map, List.getElem?_eq_getElem h]
    simp [h]
  · rw [List.getElem?_eq_none (by rw [row_length]; omega), List.getElem?_eq_none (by simp [ncells]; omega)]
theorem own_mono {w : World} {base base' : Nat} {e : TypeId} {size n : Nat} {v : Value} {xs : List Value} (h : w.ownsRow base e size v n xs) (hb : base' ≤ base) : w.ownsRow base' e size v n xs :=
  ⟨h.1, h.2.imp id fun ⟨g, cap, cur, a1, a2, a3⟩ => ⟨g, cap, cur, a1, Nat.le_trans hb a2, a3⟩⟩
theorem own_nil_cap {w : World} {base : Nat} {e : TypeId} {size n c : Nat} {A : Option Addr} {xs : List Value} (h : w.ownsRow base e size (.slice A n c) n xs) (hA : A = none) : c = 0 := by
  rcases h.2 with ⟨h, _⟩ | ⟨g, cap, cur, h, _⟩
  · injection h
  · injection h with h1
    rw [hA] at h1
    cases h1
theorem info28 : (Try.prog.info? 28).map (·.size) = some 7 := by kernel_rfl
theorem info58 : (Try.prog.info? 58).map (·.size) = some 7 := by kernel_rfl
def stCells (q : Sm) : List Value := [.int .i64 q.gl, .int .i64 q.gc, .int .i64 q.src, .int .i64 q.ol, .int .i64 q.oc, .int .i64 q.nm, .bool q.has]
theorem st_one (q : Sm) : ∀ u ∈ stCells q, u.oneCell' = true := by
  intro u hu
  simp only [stCells, List.mem_cons, List.not_mem_nil, or_false] at hu
  rcases hu with rfl | rfl | rfl | rfl | rfl | rfl | rfl <;> rfl
set_option maxRecDepth 100000 in
set_option maxHeartbeats 8000000 in
theorem chunkOf (src out : ByteArray) (ms : List Mk) (asc : Bool) (A : Option Addr) (cm : Nat) (w : World) (hm : Marks w A ms) (hf : MFit src out ms) :
    Calls Try.prog 6 #[.string src, .string out, .slice A ms.length cm, .bool asc] w fun e w' => ∃ a dv nv ns E n0, e = .returned (.tuple #[dv, nv, .agg (stCells a.st).toArray, .int .i64 a.gcol, .bool true]) ∧ w'.ownsRow w.heap.size 5 1 dv a.l.length (ncells a.l) ∧ w'.ownsRow w.heap.size 9 1 nv ns.length (qtexts asc ns) ∧ Tale src out ms a ns E n0 ∧ Below w.heap.size w w' := by
  obtain ⟨i5, hi5, hz0, hz1, hz2⟩ := info_parts info5
  have Hi5 := Lib.hid hi5
  have Hz0 := Lib.hid hz0
  have Hz1 := Lib.hid hz1
  have Hz2 := Lib.hid hz2
  clear hi5 hz0 hz1 hz2
  have HC := Lib.hid (fun (W : World) (hb : Below w.heap.size w W) => chunk src out ms asc A cm W (hm.below hb) hf)
  clear hm hf
  obtain ⟨n, hn⟩ : ∃ n, n = ms.length := ⟨_, rfl⟩
  rw [← hn] at HC ⊢
  clear hn
  go_enter Try.func6, Try.ntmps6
  go_upto_region 1 with fail
  obtain ⟨W, hW⟩ : ∃ W, W = w.alloc (.cells #[.int .i64 0, .int .i64 0, .int .i64 0, .int .i64 0, .int .i64 0, .int .i64 0, .bool false] 28) := ⟨_, rfl⟩
  have BW : Below w.heap.size w W := by rw [hW]; exact below_at (Below.refl _ _) _
  have K0 : Blk W w.heap.size 28 [.int .i64 0, .int .i64 0, .int .i64 0, .int .i64 0, .int .i64 0, .int .i64 0, .bool false] := by rw [hW]; exact Blk.new w 28 [.int .i64 0, .int .i64 0, .int .i64 0, .int .i64 0, .int .i64 0, .int .i64 0, .bool false]
  rw [← hW]
  clear hW
  obtain ⟨bz, hbz⟩ : ∃ bz, bz = w.heap.size := ⟨_, rfl⟩
  have hbw : w.heap.size ≤ bz := by omega
  rw [← hbz] at K0 ⊢
  clear hbz
  have HBW := Lib.hid BW
  have HK0 := Lib.hid K0
  have HCW := Lib.hid (HC.out W BW)
  clear BW K0 HC
  go_wp2_with fail
  refine (HCW.out).mono ?_
  rintro e w1 ⟨B, bm, a, v, qv, fo, z, ns, E, n0, rfl, hfin, hB, hb1⟩
  obtain ⟨w2, hw2⟩ : ∃ w2, w2 = w1.alloc (.cells zeros12.toArray 60) := ⟨_, rfl⟩
  have b2 : Below w1.heap.size w1 w2 := by rw [hw2]; exact below_at (Below.refl _ _) _
  have k2 : Hid (Blk w2 w1.heap.size 60 zeros12) := Lib.hid (by rw [hw2]; exact Blk.new w1 60 zeros12)
  have HFIN := Lib.hid hfin
  have hone := Lib.hid (chunk_one a v qv fo z (own_one hfin.buf) (by obtain ⟨qs, hr, _⟩ := hfin.nms.row; exact own_one hr))
  have HB1 := Lib.hid hb1
  have HBB := Lib.hid hB
  have HW2 := Lib.hid hw2
  have HB2 := Lib.hid b2
  clear hfin hb1 hB hw2 b2 HCW
  have hi60 : (Try.prog.info? 60).map (·.size) = some (chunkCells a v qv fo z).length := info60
  go_wp2_with (refine wpList_store_blk rfl 60 (.tmp 13) (.tmp 21) rfl w1.heap.size zeros12 (chunkCells a v qv fo z) 60 (by rfl) (by rfl) (show Blk (w1.alloc (.cells zeros12.toArray 60)) w1.heap.size 60 zeros12 from Blk.new w1 60 zeros12) rfl hi60 hone.out ?_)
  intro w3 k3 g3 hs3
  clear hs3
  have HB3 : Hid (Below w1.heap.size w1 w3) := Lib.hid (below_of_only (below_at (Below.refl _ _) _) (by simp) g3 (fun k hk => by injection hk with hk; omega))
  have HFIN3 := Lib.hid (HFIN.out.keep HB3.out)
  have HBV3 : Hid (Below W.heap.size W w3) := Lib.hid (up HB1.out HB3.out)
  have HBB3 : Hid (W.heap.size ≤ B ∧ W.heap.size ≤ w1.heap.size) := Lib.hid ⟨HBB.out, HB1.out.size⟩
  obtain ⟨b13, hb13⟩ : ∃ b13, b13 = w1.heap.size := ⟨_, rfl⟩
  rw [← hb13] at k3 HBB3 ⊢
  have HK3 := Lib.hid k3
  clear g3 k3 hb13 HW2 HB2 k2 HFIN HBB HB3 hone hi60
  obtain ⟨q, hq⟩ : ∃ q, q = a.st := ⟨_, rfl⟩
  have HQ := Lib.hid hq
  have z3 : w3.cell? ⟨b13, 3, none⟩ = some (.int .i64 q.gl) := by rw [hq]; exact HK3.out.get 3 rfl
  have z4 : w3.cell? ⟨b13, 4, none⟩ = some (.int .i64 q.gc) := by rw [hq]; exact HK3.out.get 4 rfl
  have z5 : w3.cell? ⟨b13, 5, none⟩ = some (.int .i64 q.src) := by rw [hq]; exact HK3.out.get 5 rfl
  have z6 : w3.cell? ⟨b13, 6, none⟩ = some (.int .i64 q.ol) := by rw [hq]; exact HK3.out.get 6 rfl
  have z7 : w3.cell? ⟨b13, 7, none⟩ = some (.int .i64 q.oc) := by rw [hq]; exact HK3.out.get 7 rfl
  have z8 : w3.cell? ⟨b13, 8, none⟩ = some (.int .i64 q.nm) := by rw [hq]; exact HK3.out.get 8 rfl
  have z9 : w3.cell? ⟨b13, 9, none⟩ = some (.bool q.has) := by rw [hq]; exact HK3.out.get 9 rfl
  clear hq
  have hst := Lib.hid (st_one q)
  go_upto_region 5 with fail
  obtain ⟨w4, hw4⟩ : ∃ w4, w4 = w3.alloc (.cells #[.int .i64 q.gl, .int .i64 q.gc, .int .i64 q.src, .int .i64 q.ol, .int .i64 q.oc, .int .i64 q.nm, .bool q.has] 58) := ⟨_, rfl⟩
  have HK4 : Hid (Blk w4 w3.heap.size 58 (stCells q)) := Lib.hid (by rw [hw4]; exact Blk.new w3 58 (stCells q))
  have HB4 : Hid (Below w3.heap.size w3 w4) := Lib.hid (by rw [hw4]; exact below_at (Below.refl _ _) _)
  rw [← hw4]
  clear hw4
  obtain ⟨b14, hb14⟩ : ∃ b14, b14 = w3.heap.size := ⟨_, rfl⟩
  rw [← hb14] at HK4 ⊢
  clear hb14
  have HFIN4 := Lib.hid (HFIN3.out.keep HB4.out)
  have HK34 : Hid (Blk w4 b13 60 (chunkCells a v qv fo z)) := Lib.hid (HK3.out.below HB4.out HK3.out.lt)
  have HBV4 : Hid (Below W.heap.size W w4) := Lib.hid (up HBV3.out HB4.out)
  have HK04 := Lib.hid (HK0.out.below HBV4.out HK0.out.lt)
  clear z3 z4 z5 z6 z7 z8 z9 HFIN3 HK3 HBV3 HB4
  have z0 : w4.cell? ⟨b14, 0, none⟩ = some (.int .i64 q.gl) := HK4.out.get 0 rfl
  have z1 : w4.cell? ⟨b14, 1, none⟩ = some (.int .i64 q.gc) := HK4.out.get 1 rfl
  have z2 : w4.cell? ⟨b14, 2, none⟩ = some (.int .i64 q.src) := HK4.out.get 2 rfl
  have z3 : w4.cell? ⟨b14, 3, none⟩ = some (.int .i64 q.ol) := HK4.out.get 3 rfl
  have z4 : w4.cell? ⟨b14, 4, none⟩ = some (.int .i64 q.oc) := HK4.out.get 4 rfl
  have z5 : w4.cell? ⟨b14, 5, none⟩ = some (.int .i64 q.nm) := HK4.out.get 5 rfl
  have z6 : w4.cell? ⟨b14, 6, none⟩ = some (.bool q.has) := HK4.out.get 6 rfl
  go_wp2_with (refine wpList_store_blk rfl 28 (.tmp 10) (.tmp 42) rfl bz [.int .i64 0, .int .i64 0, .int .i64 0, .int .i64 0, .int .i64 0, .int .i64 0, .bool false] (stCells q) 28 (by rfl) (by rfl) HK04.out rfl info28 hst.out ?_)
  intro w5 k5 g5 hs5
  clear hs5
  have HFIN5 := Lib.hid (HFIN4.out.moved HK04.out (by decide) (by decide) g5)
  have hzb : bz ≠ b13 := by have := HK0.out.lt; have := HBB3.out.2; omega
  have HK35 : Hid (Blk w5 b13 60 (chunkCells a v qv fo z)) := Lib.hid (HK34.out.grown g5 (by intro e; injection e with e; exact hzb e.symm))
  have HB5 : Hid (Below w.heap.size w w5) := Lib.hid (below_of_only (up HBW.out HBV4.out) (up HBW.out HBV4.out).size g5 (fun k hk => by injection hk with hk; omega))
  have HK05 := Lib.hid k5
  clear k5 g5 HFIN4 HK34 HBV4 HK04 z0 z1 z2 z3 z4 z5 z6
  go_upto_region 6 with fail
  obtain ⟨Av, cv, hv⟩ := own_slice HFIN5.out.buf
  subst hv
  have x0 : w5.cell? ⟨b13, 0, none⟩ = some (.slice Av a.l.length cv) := HK35.out.get 0 rfl
  have x2 : w5.cell? ⟨b13, 2, none⟩ = some qv := HK35.out.get 2 rfl
  have x10 : w5.cell? ⟨b13, 10, none⟩ = some (.int .i64 a.gcol) := HK35.out.get 10 rfl
  obtain ⟨SP, hSP⟩ : ∃ SP : World → Prop, SP = fun w' => Blk w' b13 60 (chunkCells a (.slice Av a.l.length cv) qv fo z) ∧ Blk w' bz 28 (stCells q) := ⟨_, rfl⟩
  have hsp : SP w5.drew := by rw [hSP]; exact ⟨HK35.out.drew, HK05.out.drew⟩
  have HSP := Lib.hid hSP
  clear hSP x0 x2 x10
  refine Hoist.start (S := fun _ w' => SP w') (by kernel_rfl) ?_
  refine Hoist.takeS (i := 1) (v := ?vs1) rfl (by kernel_rfl) (by kernel_rfl) (by kernel_rfl) (fun _ _ _ h => h) ⟨by rfl, ?hys1⟩ hsp ?rests1
  case hys1 =>
    intro w' hSw
    rw [HSP.out] at hSw
    obtain ⟨hk1, hk2⟩ := hSw
    have x0 : w'.cell? ⟨b13, 0, none⟩ = some (.slice Av a.l.length cv) := hk1.get 0 rfl
    have x2 : w'.cell? ⟨b13, 2, none⟩ = some qv := hk1.get 2 rfl
    have x10 : w'.cell? ⟨b13, 10, none⟩ = some (.int .i64 a.gcol) := hk1.get 10 rfl
    have y0 := hk2.get 0 rfl
    have y1 := hk2.get 1 rfl
    have y2 := hk2.get 2 rfl
    have y3 := hk2.get 3 rfl
    have y4 := hk2.get 4 rfl
    have y5 := hk2.get 5 rfl
    have y6 := hk2.get 6 rfl
    go_simp
    rfl
  simp only [Act.put, List.setIfInBounds_toArray, List.set_cons_zero, List.set_cons_succ]
  refine Hoist.takeS (i := 2) (v := ?vs2) rfl (by kernel_rfl) (by kernel_rfl) (by kernel_rfl) (fun _ _ _ h => h) ⟨by rfl, ?hys2⟩ hsp ?rests2
  case hys2 =>
    intro w' hSw
    rw [HSP.out] at hSw
    obtain ⟨hk1, hk2⟩ := hSw
    have x0 : w'.cell? ⟨b13, 0, none⟩ = some (.slice Av a.l.length cv) := hk1.get 0 rfl
    have x2 : w'.cell? ⟨b13, 2, none⟩ = some qv := hk1.get 2 rfl
    have x10 : w'.cell? ⟨b13, 10, none⟩ = some (.int .i64 a.gcol) := hk1.get 10 rfl
    have y0 := hk2.get 0 rfl
    have y1 := hk2.get 1 rfl
    have y2 := hk2.get 2 rfl
    have y3 := hk2.get 3 rfl
    have y4 := hk2.get 4 rfl
    have y5 := hk2.get 5 rfl
    have y6 := hk2.get 6 rfl
    go_simp
    rfl
  simp only [Act.put, List.setIfInBounds_toArray, List.set_cons_zero, List.set_cons_succ]
  refine Hoist.takeS (i := 3) (v := ?vs3) rfl (by kernel_rfl) (by kernel_rfl) (by kernel_rfl) (fun _ _ _ h => h) ⟨by rfl, ?hys3⟩ hsp ?rests3
  case hys3 =>
    intro w' hSw
    rw [HSP.out] at hSw
    obtain ⟨hk1, hk2⟩ := hSw
    have x0 : w'.cell? ⟨b13, 0, none⟩ = some (.slice Av a.l.length cv) := hk1.get 0 rfl
    have x2 : w'.cell? ⟨b13, 2, none⟩ = some qv := hk1.get 2 rfl
    have x10 : w'.cell? ⟨b13, 10, none⟩ = some (.int .i64 a.gcol) := hk1.get 10 rfl
    have y0 := hk2.get 0 rfl
    have y1 := hk2.get 1 rfl
    have y2 := hk2.get 2 rfl
    have y3 := hk2.get 3 rfl
    have y4 := hk2.get 4 rfl
    have y5 := hk2.get 5 rfl
    have y6 := hk2.get 6 rfl
    go_simp
    rfl
  simp only [Act.put, List.setIfInBounds_toArray, List.set_cons_zero, List.set_cons_succ]
  refine Hoist.takeS (i := 5) (v := ?vs5) rfl (by kernel_rfl) (by kernel_rfl) (by kernel_rfl) (fun _ _ _ h => h) ⟨by rfl, ?hys5⟩ hsp ?rests5
  case hys5 =>
    intro w' hSw
    rw [HSP.out] at hSw
    obtain ⟨hk1, hk2⟩ := hSw
    have x0 : w'.cell? ⟨b13, 0, none⟩ = some (.slice Av a.l.length cv) := hk1.get 0 rfl
    have x2 : w'.cell? ⟨b13, 2, none⟩ = some qv := hk1.get 2 rfl
    have x10 : w'.cell? ⟨b13, 10, none⟩ = some (.int .i64 a.gcol) := hk1.get 10 rfl
    have y0 := hk2.get 0 rfl
    have y1 := hk2.get 1 rfl
    have y2 := hk2.get 2 rfl
    have y3 := hk2.get 3 rfl
    have y4 := hk2.get 4 rfl
    have y5 := hk2.get 5 rfl
    have y6 := hk2.get 6 rfl
    go_simp
    rfl
  simp only [Act.put, List.setIfInBounds_toArray, List.set_cons_zero, List.set_cons_succ]
  refine Hoist.takeS (i := 6) (v := ?vs6) rfl (by kernel_rfl) (by kernel_rfl) (by kernel_rfl) (fun _ _ _ h => h) ⟨by rfl, ?hys6⟩ hsp ?rests6
  case hys6 =>
    intro w' hSw
    rw [HSP.out] at hSw
    obtain ⟨hk1, hk2⟩ := hSw
    have x0 : w'.cell? ⟨b13, 0, none⟩ = some (.slice Av a.l.length cv) := hk1.get 0 rfl
    have x2 : w'.cell? ⟨b13, 2, none⟩ = some qv := hk1.get 2 rfl
    have x10 : w'.cell? ⟨b13, 10, none⟩ = some (.int .i64 a.gcol) := hk1.get 10 rfl
    have y0 := hk2.get 0 rfl
    have y1 := hk2.get 1 rfl
    have y2 := hk2.get 2 rfl
    have y3 := hk2.get 3 rfl
    have y4 := hk2.get 4 rfl
    have y5 := hk2.get 5 rfl
    have y6 := hk2.get 6 rfl
    go_simp
    rfl
  simp only [Act.put, List.setIfInBounds_toArray, List.set_cons_zero, List.set_cons_succ]
  refine Hoist.takeS (i := 8) (v := ?vs8) rfl (by kernel_rfl) (by kernel_rfl) (by kernel_rfl) (fun _ _ _ h => h) ⟨by rfl, ?hys8⟩ hsp ?rests8
  case hys8 =>
    intro w' hSw
    rw [HSP.out] at hSw
    obtain ⟨hk1, hk2⟩ := hSw
    have x0 : w'.cell? ⟨b13, 0, none⟩ = some (.slice Av a.l.length cv) := hk1.get 0 rfl
    have x2 : w'.cell? ⟨b13, 2, none⟩ = some qv := hk1.get 2 rfl
    have x10 : w'.cell? ⟨b13, 10, none⟩ = some (.int .i64 a.gcol) := hk1.get 10 rfl
    have y0 := hk2.get 0 rfl
    have y1 := hk2.get 1 rfl
    have y2 := hk2.get 2 rfl
    have y3 := hk2.get 3 rfl
    have y4 := hk2.get 4 rfl
    have y5 := hk2.get 5 rfl
    have y6 := hk2.get 6 rfl
    go_simp
    rfl
  simp only [Act.put, List.setIfInBounds_toArray, List.set_cons_zero, List.set_cons_succ]
  refine Hoist.takeS (i := 9) (v := ?vs9) rfl (by kernel_rfl) (by kernel_rfl) (by kernel_rfl) (fun _ _ _ h => h) ⟨by rfl, ?hys9⟩ hsp ?rests9
  case hys9 =>
    intro w' hSw
    rw [HSP.out] at hSw
    obtain ⟨hk1, hk2⟩ := hSw
    have x0 : w'.cell? ⟨b13, 0, none⟩ = some (.slice Av a.l.length cv) := hk1.get 0 rfl
    have x2 : w'.cell? ⟨b13, 2, none⟩ = some qv := hk1.get 2 rfl
    have x10 : w'.cell? ⟨b13, 10, none⟩ = some (.int .i64 a.gcol) := hk1.get 10 rfl
    have y0 := hk2.get 0 rfl
    have y1 := hk2.get 1 rfl
    have y2 := hk2.get 2 rfl
    have y3 := hk2.get 3 rfl
    have y4 := hk2.get 4 rfl
    have y5 := hk2.get 5 rfl
    have y6 := hk2.get 6 rfl
    go_simp
    rfl
  simp only [Act.put, List.setIfInBounds_toArray, List.set_cons_zero, List.set_cons_succ]
  refine Hoist.takeS (i := 10) (v := ?vs10) rfl (by kernel_rfl) (by kernel_rfl) (by kernel_rfl) (fun _ _ _ h => h) ⟨by rfl, ?hys10⟩ hsp ?rests10
  case hys10 =>
    intro w' hSw
    rw [HSP.out] at hSw
    obtain ⟨hk1, hk2⟩ := hSw
    have x0 : w'.cell? ⟨b13, 0, none⟩ = some (.slice Av a.l.length cv) := hk1.get 0 rfl
    have x2 : w'.cell? ⟨b13, 2, none⟩ = some qv := hk1.get 2 rfl
    have x10 : w'.cell? ⟨b13, 10, none⟩ = some (.int .i64 a.gcol) := hk1.get 10 rfl
    have y0 := hk2.get 0 rfl
    have y1 := hk2.get 1 rfl
    have y2 := hk2.get 2 rfl
    have y3 := hk2.get 3 rfl
    have y4 := hk2.get 4 rfl
    have y5 := hk2.get 5 rfl
    have y6 := hk2.get 6 rfl
    go_simp
    rfl
  simp only [Act.put, List.setIfInBounds_toArray, List.set_cons_zero, List.set_cons_succ]
  refine Hoist.only (i := 0) rfl (by kernel_rfl) ?_
  intro K' hK
  go_simp
  obtain ⟨w6, hw6⟩ : ∃ w6, w6 = (w5.alloc (.cells #[] 5)).drew := ⟨_, rfl⟩
  have own6 : w6.ownsRow w5.heap.size 5 1 (.slice (some ⟨w5.heap.size, 0, none⟩) 0 0) 0 [] := by rw [hw6]; exact own_fresh w5 5
  have B6 : Below w5.heap.size w5 w6 := by rw [hw6]; exact below_drewN (below_at (Below.refl _ _) _) 1
  rw [← hw6]
  clear hw6
  have hsp6 : SP w6 := by rw [HSP.out]; exact ⟨HK35.out.below B6 HK35.out.lt, HK05.out.below B6 HK05.out.lt⟩
  refine hK _ _ hsp6 ?_
  clear hK K' hsp
  have F6 := HFIN5.out.keep B6
  have hll := F6.lim.len
  have hn0 := F6.n0
  have hrd : Reads w6 Av a.l.length (fun i => .int .u8 ((a.l.getD i 0 : Nat) : Int)) := Reads.of_own F6.buf (fun i hi => by
    rw [ncells, List.getElem?_map, List.getElem?_eq_getElem hi]
    simp [hi])
  refine Hoist.only (i := 4) rfl (by kernel_rfl) ?_
  intro K' hK
  refine step_append_reads rfl (.tmp 43) (.tmp 46) 25 rfl w5.heap.size 5 i5 (.int .u8 0) 1 Try.underlying25 Hi5.out Hz0.out Hz1.out Hz2.out rfl (.slice (some ⟨w5.heap.size, 0, none⟩) 0 0) 0 [] (by rfl) own6 Av a.l.length cv _ (by rfl) hrd (fun h => own_nil_cap F6.buf h) (fun _ _ => rfl) (by unfold maxLen; omega) (by omega) B6.size ?_
  intro dv w7 own7 g7 _
  rw [row_bytes, List.nil_append, Nat.zero_add] at own7
  have B7 : Below w5.heap.size w5 w7 := below_of_only B6 B6.size g7 (fun k hk => Nat.le_of_eq (show w5.heap.size = k by simpa [Value.ownBlock] using hk))
  have hsp7 : SP w7 := by rw [HSP.out]; exact ⟨HK35.out.below B7 HK35.out.lt, HK05.out.below B7 HK05.out.lt⟩
  refine hK _ _ hsp7 ?_
  clear hK K' own6 hsp6 F6 hrd
  have F7 := Lib.hid (HFIN5.out.keep B7)
  refine Hoist.only (i := 7) rfl (by kernel_rfl) ?_
  intro K' hK
  go_simp
  have hns := F7.out.len
  refine (namesWalk B bm _ qv asc ns w7 F7.out.nms (by omega)).mono ?_
  rintro e w8 ⟨nv, rfl, own8, hb8⟩
  have B8 : Below w5.heap.size w5 w8 := up B7 hb8
  have hspN : SP w8 := by rw [HSP.out]; exact ⟨HK35.out.below B8 HK35.out.lt, HK05.out.below B8 HK05.out.lt⟩
  refine hK _ _ hspN ?_
  clear hK K' hsp7
  have HO7 := Lib.hid (own_keep own7 hb8)
  have HO8 := Lib.hid own8
  have HS75 := Lib.hid B7.size
  have HT := Lib.hid F7.out.tale
  have HB8 := Lib.hid (up HB5.out B8)
  have k8 : Hid (Blk w8 bz 28 (stCells q)) := Lib.hid (HK05.out.below B8 HK05.out.lt)
  have HK8 : Hid (Blk w8 b13 60 (chunkCells a (.slice Av a.l.length cv) qv fo z)) := Lib.hid (HK35.out.below B8 HK35.out.lt)
  have HS5 : Hid (bz < w5.heap.size) := Lib.hid HK05.out.lt
  clear own7 own8 hb8 g7 B6 B7 B8 F7
  refine Hoist.only (i := 11) rfl (by kernel_rfl) ?_
  intro K' hK
  go_simp
  refine hK _ _ hspN ?_
  clear hK K'
  refine Hoist.only (i := 12) rfl (by kernel_rfl) ?_
  intro K' hK
  go_simp
  refine hK _ _ hspN ?_
  clear hK K'
  refine Hoist.only (i := 13) rfl (by kernel_rfl) ?_
  intro K' hK
  refine step_store_blk (by rfl) 28 (.tmp 10) (.tmp 51) (by rfl) bz (stCells q) (stCells q) 28 (by rfl) (by rfl) k8.out rfl info28 hst.out ?_
  intro w9 k9 g9 _
  have hspN : SP w9 := by rw [HSP.out]; exact ⟨HK8.out.grown g9 (by intro e; injection e with e; exact hzb e.symm), k9⟩
  have HO79 := Lib.hid (HO7.out.kept g9 (.inr (fun e => own_ne HO7.out k8.out (by decide) e.symm)))
  have HO89 := Lib.hid (HO8.out.kept g9 (.inr (fun e => own_ne HO8.out k8.out (by decide) e.symm)))
  have HB9 := Lib.hid (below_of_only HB8.out HB8.out.size g9 (fun k hk => by injection hk with hk; omega))
  have HK9 := Lib.hid k9
  refine hK _ _ hspN ?_
  clear hK K' k9 g9
  simp only [Act.put, List.setIfInBounds_toArray, List.set_cons_zero, List.set_cons_succ]
  refine Hoist.only (i := 14) rfl (by kernel_rfl) ?_
  intro K' hK
  go_simp
  refine hK _ _ hspN ?_
  clear hK K'
  refine Hoist.only (i := 15) rfl (by kernel_rfl) ?_
  intro K' hK
  go_simp
  refine hK _ _ hspN ?_
  clear hK K'
  refine Hoist.over (by kernel_rfl) ?_ _
  have z0 : w9.cell? ⟨bz, 0, none⟩ = some (.int .i64 q.gl) := HK9.out.get 0 rfl
  have z1 : w9.cell? ⟨bz, 1, none⟩ = some (.int .i64 q.gc) := HK9.out.get 1 rfl
  have z2 : w9.cell? ⟨bz, 2, none⟩ = some (.int .i64 q.src) := HK9.out.get 2 rfl
  have z3 : w9.cell? ⟨bz, 3, none⟩ = some (.int .i64 q.ol) := HK9.out.get 3 rfl
  have z4 : w9.cell? ⟨bz, 4, none⟩ = some (.int .i64 q.oc) := HK9.out.get 4 rfl
  have z5 : w9.cell? ⟨bz, 5, none⟩ = some (.int .i64 q.nm) := HK9.out.get 5 rfl
  have z6 : w9.cell? ⟨bz, 6, none⟩ = some (.bool q.has) := HK9.out.get 6 rfl
  go_wp2_with fail
  refine bodyPost_ret (v := .tuple #[dv, nv, .agg (stCells q).toArray, .int .i64 a.gcol, .bool true]) (by simp [results, Try.results6, z0, z1, z2, z3, z4, z5, z6, go_sem, stCells]; done) rfl ?_
  have hs5 := HB5.out.size
  have hs7 := HS75.out
  exact ⟨a, dv, nv, ns, E, n0, by rw [← HQ.out], own_mono HO79.out (by omega), own_mono HO89.out (by omega), HT.out, HB9.out⟩
end Go.Proofs.Ytobhlppdolekoaa.Ch
