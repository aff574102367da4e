/- The symbols that a scope declares: a list of its own. The walk. -/
import Derived.Test.YtofdoaollanbpaaDoorReG
import Derived.Test.YtofdoaollanbpaaDoorHoist
import Derived.Maps.AppendAt
import Derived.Deep.DeepCutAuto
import Derived.Deep.CutRange
import Derived.Deep.CutBlock
namespace Go.Proofs.YtofdoaollanbpaaDoor.Res
open Go.RowKit Go.Proofs.YtofdoaollanbpaaDoor.Aid
attribute [local go_sem ↓] Go.wp_at_zero Go.wp_at_succ
set_option linter.unusedVariables false
set_option linter.unusedSimpArgs false
/-- append of a list that came in, whatever its length. -/
theorem run_append_reads {P : Program} (w : World) (t ty : TypeId) (base : Nat) (e : TypeId) (i : TypeInfo) (z : Value) (bytes : Nat) (ht : P.underlying t = some (.slice e)) (hi : P.info? e = some i) (hz : i.zero = some z)
    (hsize : i.size = 1) (hby : i.bytes = bytes) (hzs : z.cells.size = 1) (v : Value) (n : Nat) (xs : List Value) (hown : w.ownsRow base e 1 v n xs)
    (A : Option Addr) (m c : Nat) (f : Nat → Value) (hr : Reads w A m f) (hc : A = none → c = 0) (h1 : ∀ i, i < m → (f i).oneCell' = true)
    (h63 : n + m ≤ maxLen) (hbytes : (n + m) * bytes ≤ 140737488355328) (hbase : base ≤ w.heap.size) :
    ∃ v' w', (Builtin.append_ #[t, t] ty #[v, .slice A m c]).run P w = .ok v' w' ∧ w'.ownsRow base e 1 v' (n + m) (xs ++ row m f) ∧ w.grownBy w' v.ownBlock ∧ (v'.ownBlock = v.ownBlock ∨ v'.ownBlock = some w.heap.size) := by
  cases A with
  | none =>
    have hm : m = 0 := by
      rcases Nat.eq_zero_or_pos m with q | q
      · exact q
      · obtain ⟨b, o, hA, _⟩ := hr 0 q
        cases hA
    subst hm
    rw [hc rfl]
    refine ⟨v, w, run_append_owned_none (P := P) (w := w) base t ty e i 1 ht hi v n xs hown, ?_, World.grownBy.refl _ _, .inl rfl⟩
    simpa [row] using hown
  | some a =>
    obtain ⟨v', w', hrun, h2, h3, _, h5⟩ := run_append_own_at (P := P) w base t ty e i z 1 bytes ht hi hz hsize hby hzs (by omega) v n xs hown a m c (row m f) (by rw [row_length, Nat.mul_one]) (fun j u hj => by
      have hlt : j < m := by
        rcases Nat.lt_or_ge j m with q | q
        · exact q
        · rw [List.getElem?_eq_none (by rw [row_length]; exact q)] at hj
          cases hj
      obtain ⟨ad, had, hh⟩ := hr.src (by omega)
      injection had with had
      subst had
      exact hh j u hj) (row_one m f h1) h63 hbytes hbase
    exact ⟨v', w', hrun, h2, h3, h5⟩
theorem step_append_reads {P : Program} {w : World} {ops : Array Oper} {o : Oper} {a : Act} {K : Act → World → Prop} {Q : Exit → Act → World → Prop} {E : Prop} (hgd : o.guard = none) (s x : Operand) (t : TypeId)
    (ho : o.op = .call { callee := .builtin .append, args := #[s, x], argTypes := #[t, t] })
    (base : Nat) (e : TypeId) (i : TypeInfo) (z : Value) (bytes : Nat) (ht : P.underlying t = some (.slice e)) (hi : P.info? e = some i) (hz : i.zero = some z)
    (hsize : i.size = 1) (hby : i.bytes = bytes) (hzs : z.cells.size = 1) (v : Value) (n : Nat) (xs : List Value) (hs : a.eval s = v) (hown : w.ownsRow base e 1 v n xs)
    (A : Option Addr) (m c : Nat) (f : Nat → Value) (hx : a.eval x = .slice A m c) (hr : Reads w A m f) (hc : A = none → c = 0) (h1 : ∀ i, i < m → (f i).oneCell' = true)
    (h63 : n + m ≤ maxLen) (hbytes : (n + m) * bytes ≤ 140737488355328) (hbase : base ≤ w.heap.size)
    (hk : ∀ v' w', w'.ownsRow base e 1 v' (n + m) (xs ++ row m f) → w.grownBy w' v.ownBlock → (v'.ownBlock = v.ownBlock ∨ v'.ownBlock = some w.heap.size) → K (a.put o.dst v') w') :
    if Region.wanted o (yielded ops a.tmps) = true then Oper.wp P o a w K Q else E := by
  have hw : Region.wanted o (yielded ops a.tmps) = true := by simp [Region.wanted, hgd]
  rw [if_pos hw]
  obtain ⟨v', w', hrun, h2, h3, h5⟩ := run_append_reads (P := P) w t o.type base e i z bytes ht hi hz hsize hby hzs v n xs hown A m c f hr hc h1 h63 hbytes hbase
  unfold Oper.wp execOp
  simp only [ho, resolve, invoke, builtin, Sem.run_bind, Sem.run_pure, Result.andThen_ok, List.map_toArray, List.map_cons, List.map_nil, hs, hx, hrun]
  exact hk v' w' h2 h3 h5
theorem info3 : (Tryd.prog.info? 3).map (fun i => (i.zero, i.size, i.bytes)) = some (some (.int .i64 0), 1, 8) := by kernel_rfl
/-- What a scope declares. -/
def Sc.own (s : Sc) : List Value := row s.rn (fun i => .int .i64 (s.refs i)) ++ row s.gn (fun i => .int .i64 (s.gens i)) ++ (if 0 ≤ s.l then [.int .i64 s.l] else [])
set_option maxRecDepth 100000 in
theorem scopeOwn (s : Sc) (w : World) (hs : s.In w) (h2 : s.rn ≤ 2147483647) (h3 : s.gn ≤ 2147483647) :
    Calls Tryd.prog 17 #[s.val] w fun e w' => Below w.heap.size w w' ∧ ∃ A n c, e = .returned (.slice A n c) ∧ w'.ownsRow w.heap.size 3 1 (.slice A n c) n s.own ∧ n ≤ 4294967295 := by
  obtain ⟨i0, hi, hz0, hz1, hz2⟩ := info_parts info3
  unfold Sc.val scV
  go_enter Tryd.func17, Tryd.ntmps17
  go_upto_region 1 with fail
  obtain ⟨W, hW⟩ : ∃ W, W = w.alloc (.cells #[.int .i64 s.p, .int .i64 s.k, .slice s.A s.n s.c, .slice s.R s.rn s.rc, .slice s.G s.gn s.gc, .int .i64 s.l, .bool s.ev] 39) := ⟨_, rfl⟩
  have B0 : Below w.heap.size w W := by rw [hW]; exact below_at (Below.refl _ _) _
  have K0 : Blk W w.heap.size 39 [.int .i64 s.p, .int .i64 s.k, .slice s.A s.n s.c, .slice s.R s.rn s.rc, .slice s.G s.gn s.gc, .int .i64 s.l, .bool s.ev] := by rw [hW]; exact Blk.new w 39 _
  rw [← hW]
  clear hW
  have hs0 := hs.below B0
  have c3 := K0.get 3 rfl
  have c4 := K0.get 4 rfl
  refine Hoist.start (S := fun _ w' => w'.cell? ⟨w.heap.size, 3, none⟩ = some (.slice s.R s.rn s.rc) ∧ w'.cell? ⟨w.heap.size, 4, none⟩ = some (.slice s.G s.gn s.gc)) (by kernel_rfl) ?_
  refine Hoist.takeS (i := 1) (v := ?v1) rfl (by kernel_rfl) (by kernel_rfl) (by kernel_rfl) (fun _ _ _ h => h) ⟨by rfl, ?hy1⟩ ⟨c3, c4⟩ ?rest1
  case hy1 =>
    intro w' hSw
    obtain ⟨s0, s1⟩ := hSw
    go_simp
    rfl
  simp only [Act.put, List.setIfInBounds_toArray, List.set_cons_zero, List.set_cons_succ]
  refine Hoist.takeS (i := 2) (v := ?v2) rfl (by kernel_rfl) (by kernel_rfl) (by kernel_rfl) (fun _ _ _ h => h) ⟨by rfl, ?hy2⟩ ⟨c3, c4⟩ ?rest2
  case hy2 =>
    intro w' hSw
    obtain ⟨s0, s1⟩ := hSw
    go_simp
    rfl
  simp only [Act.put, List.setIfInBounds_toArray, List.set_cons_zero, List.set_cons_succ]
  refine Hoist.takeS (i := 4) (v := ?v4) rfl (by kernel_rfl) (by kernel_rfl) (by kernel_rfl) (fun _ _ _ h => h) ⟨by rfl, ?hy4⟩ ⟨c3, c4⟩ ?rest4
  case hy4 =>
    intro w' hSw
    obtain ⟨s0, s1⟩ := hSw
    go_simp
    rfl
  simp only [Act.put, List.setIfInBounds_toArray, List.set_cons_zero, List.set_cons_succ]
  refine Hoist.takeS (i := 5) (v := ?v5) rfl (by kernel_rfl) (by kernel_rfl) (by kernel_rfl) (fun _ _ _ h => h) ⟨by rfl, ?hy5⟩ ⟨c3, c4⟩ ?rest5
  case hy5 =>
    intro w' hSw
    obtain ⟨s0, s1⟩ := hSw
    go_simp
    rfl
  simp only [Act.put, List.setIfInBounds_toArray, List.set_cons_zero, List.set_cons_succ]
  refine Hoist.only (i := 0) rfl (by kernel_rfl) ?_
  intro K hK
  go_simp
  obtain ⟨W1, hW1⟩ : ∃ W1, W1 = (W.alloc (.cells #[] 3)).drew := ⟨_, rfl⟩
  have B1 : Below w.heap.size w W1 := by rw [hW1]; exact (B0.alloc B0.size _).drew
  have k3 : W1.cell? ⟨w.heap.size, 3, none⟩ = some (.slice s.R s.rn s.rc) := by rw [hW1]; exact ((K0.alloc _).drew).get 3 rfl
  have k4 : W1.cell? ⟨w.heap.size, 4, none⟩ = some (.slice s.G s.gn s.gc) := by rw [hW1]; exact ((K0.alloc _).drew).get 4 rfl
  have K1 : Blk W1 w.heap.size 39 [.int .i64 s.p, .int .i64 s.k, .slice s.A s.n s.c, .slice s.R s.rn s.rc, .slice s.G s.gn s.gc, .int .i64 s.l, .bool s.ev] := by rw [hW1]; exact (K0.alloc _).drew
  have O1 : W1.ownsRow w.heap.size 3 1 (.slice (some ⟨W.heap.size, 0, none⟩) 0 0) 0 [] := by rw [hW1]; exact (World.ownsRow_lit W #[] 0 B0.size (by decide) rfl)
  rw [← hW1]
  clear hW1
  refine hK _ _ ⟨k3, k4⟩ ?_
  clear hK K
  refine Hoist.only (i := 3) rfl (by kernel_rfl) ?_
  intro K hK
  refine step_append_reads rfl (.tmp 4) (.tmp 6) 32 rfl w.heap.size 3 i0 _ 8 Tryd.underlying32 hi hz0 hz1 hz2 rfl _ 0 [] rfl O1 s.R s.rn s.rc _ rfl (hs.below B1).r2 hs.z2 (fun _ _ => rfl) (by simp only [maxLen]; omega) (by omega) B1.size ?_
  intro v2 W2 O2 G2 E2
  have N2 : ∀ k, v2.ownBlock = some k → k ≠ w.heap.size := by
    rintro k hk rfl
    exact (own_ne O2 (K1.grown G2 (own_ne O1 K1 (by decide))) (by decide)) hk.symm
  have K2 := K1.grown G2 (own_ne O1 K1 (by decide))
  have B2 : Below w.heap.size w W2 := below_of_only B1 B1.size G2 (fun g hg => own_below O1 g hg)
  refine hK _ _ ⟨K2.get 3 rfl, K2.get 4 rfl⟩ ?_
  clear hK K
  refine Hoist.only (i := 6) rfl (by kernel_rfl) ?_
  intro K hK
  refine step_append_reads rfl (.tmp 7) (.tmp 9) 32 rfl w.heap.size 3 i0 _ 8 Tryd.underlying32 hi hz0 hz1 hz2 rfl v2 (0 + s.rn) _ rfl O2 s.G s.gn s.gc _ rfl (hs.below B2).r3 hs.z3 (fun _ _ => rfl) (by simp only [maxLen]; omega) (by omega) B2.size ?_
  intro v3 W3 O3 G3 E3
  have K3 := K2.grown G3 (own_ne O2 K2 (by decide))
  have B3 : Below w.heap.size w W3 := below_of_only B2 B2.size G3 (fun g hg => own_below O2 g hg)
  refine hK _ _ ⟨K3.get 3 rfl, K3.get 4 rfl⟩ ?_
  clear hK K
  refine Hoist.only (i := 7) rfl (by kernel_rfl) ?_
  intro K hK
  go_simp
  refine hK _ _ ⟨K3.get 3 rfl, K3.get 4 rfl⟩ ?_
  clear hK K
  refine Hoist.over (by kernel_rfl) ?_ _
  have c5 := K3.get 5 rfl
  simp only [Nat.zero_add, List.nil_append] at O3
  obtain ⟨A3, c3', rfl, -⟩ := own_form O3
  have O3' := Lib.hid O3
  have HB := Lib.hid B3
  clear B1 B2 E2 E3 N2 O1 G2 O2 G3 K0 K1 K2 c3 c4 k3 k4 hs0 B0
  by_cases hl : 0 ≤ s.l
  · have HO := Lib.hid (show s.own = row s.rn (fun i => .int .i64 (s.refs i)) ++ row s.gn (fun i => .int .i64 (s.gens i)) ++ [.int .i64 s.l] by
      unfold Sc.own
      rw [if_pos hl])
    have hm1 : s.rn + s.gn + 1 ≤ maxLen := by simp only [maxLen]; omega
    go_wp2_with (at_builtin; refine wpList_append_one rfl _ _ 32 rfl w.heap.size 3 i0 _ 8 Tryd.underlying32 hi hz0 hz1 hz2 rfl _ _ _ rfl O3'.out _ rfl rfl hm1 (by omega) HB.out.size ?_; intro v1 w4 hown1 hgrow1 _)
    go_returns
    obtain ⟨A4, c4', rfl, -⟩ := own_form hown1
    exact ⟨below_of_only HB.out HB.out.size hgrow1 (fun g hg => own_below O3'.out g hg), _, _, _, rfl, by rw [HO.out]; exact hown1, by omega⟩
  · have HO := Lib.hid (show s.own = row s.rn (fun i => .int .i64 (s.refs i)) ++ row s.gn (fun i => .int .i64 (s.gens i)) by
      unfold Sc.own
      rw [if_neg hl, List.append_nil])
    go_wp2_with fail
    go_returns
    exact ⟨HB.out, _, _, _, rfl, by rw [HO.out]; exact O3'.out, by omega⟩
end Go.Proofs.YtofdoaollanbpaaDoor.Res
