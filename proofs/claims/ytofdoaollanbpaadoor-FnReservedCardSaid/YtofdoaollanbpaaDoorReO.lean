/- impl.valid and what it calls. The walks. -/
import Derived.Test.YtofdoaollanbpaaDoorReN
import Derived.Test.YtofdoaollanbpaaDoorShelf
namespace Go.Proofs.YtofdoaollanbpaaDoor.Res
open Go.RowKit Go.Proofs.YtofdoaollanbpaaDoor.Aid
attribute [local go_sem ↓] Go.wp_at_zero Go.wp_at_succ
set_option linter.unusedVariables false
set_option linter.unusedSimpArgs false
theorem wpList_append_reads {P : Program} {w : World} {ops : Array Oper} {rest : List Oper} {o : Oper} {a : Act} {Q : Exit → Act → World → Prop} (hgd : o.guard = none) (s x : Operand) (t : TypeId)
    (ho : o.op = .call { callee := .builtin .append, args := #[s, x], argTypes := #[t, t] })
    (base : Nat) (e : TypeId) (i : TypeInfo) (z : Value) (bytes : Nat) (ht : P.underlying t = some (.slice e)) (hi : P.info? e = some i) (hz : i.zero = some z)
    (hsize : i.size = 1) (hby : i.bytes = bytes) (hzs : z.cells.size = 1) (v : Value) (n : Nat) (xs : List Value) (hs : a.eval s = v) (hown : w.ownsRow base e 1 v n xs)
    (A : Option Addr) (m c : Nat) (f : Nat → Value) (hx : a.eval x = .slice A m c) (hr : Reads w A m f) (hc : A = none → c = 0) (h1 : ∀ i, i < m → (f i).oneCell' = true)
    (h63 : n + m ≤ maxLen) (hbytes : (n + m) * bytes ≤ 140737488355328) (hbase : base ≤ w.heap.size)
    (hk : ∀ v' w', w'.ownsRow base e 1 v' (n + m) (xs ++ row m f) → w.grownBy w' v.ownBlock → (v'.ownBlock = v.ownBlock ∨ v'.ownBlock = some w.heap.size) → wpList P ops Q rest (a.put o.dst v') w') : wpList P ops Q (o :: rest) a w := by
  refine wpList_plain hgd fun K hK => ?_
  have := step_append_reads (P := P) (w := w) (ops := ops) (K := K) (Q := Q) (E := False) hgd s x t ho base e i z bytes ht hi hz hsize hby hzs v n xs hs hown A m c f hx hr hc h1 h63 hbytes hbase (fun v' w' b1 b2 b3 => hK _ _ (hk v' w' b1 b2 b3))
  have hw : Region.wanted o (yielded ops a.tmps) = true := by simp [Region.wanted, hgd]
  rwa [if_pos hw] at this
set_option maxRecDepth 100000 in
theorem clone (A : Option Addr) (n c : Nat) (f : Nat → Int) (w : World) (h : Reads w A n fun i => .int .i64 (f i)) (hn : n ≤ 4294967296) :
    Calls Tryd.prog 29 #[.slice A n c] w fun e w' => Below w.heap.size w w' ∧ ∃ A' c', e = .returned (.slice A' n c') ∧ w'.ownsRow w.heap.size 3 1 (.slice A' n c') n (row n fun i => .int .i64 (f i)) := by
  obtain ⟨i0, hi0, hz0, hz1, hz2⟩ := info_parts info3
  rcases Nat.eq_zero_or_pos n with q | q
  · subst q
    cases A with
    | none =>
      refine (Tryd.slices_Clone_int_nil 0 c w).mono ?_
      rintro e w' ⟨rfl, rfl⟩
      exact ⟨Below.refl _ _, none, 0, rfl, own_nil _ _ _ _⟩
    | some a =>
      refine (Tryd.slices_Clone_int_zero a c w).mono ?_
      rintro e w' ⟨v', rfl, hO, _, hB⟩
      obtain ⟨A', c', rfl, _⟩ := own_form hO
      exact ⟨hB, A', c', rfl, by simpa [row] using hO⟩
  · obtain ⟨b, o, rfl, _⟩ := h 0 q
    refine (Tryd.slices_Clone i0 _ 1 8 hi0 hz0 hz1 hz2 rfl (by omega) (fun w => Tryd.sizeOf3 w) b o n c (row n fun i => .int .i64 (f i)) w (by rw [row_length, Nat.mul_one]) (by simp only [maxLen]; omega) (by omega) (fun j u hj => ?_) (row_one _ _ fun _ _ => rfl)).mono ?_
    · have hlt : j < n := by
        rcases Nat.lt_or_ge j n with p | p
        · exact p
        · rw [List.getElem?_eq_none (by rw [row_length]; exact p)] at hj
          cases hj
      rw [row_get _ _ _ hlt] at hj
      obtain ⟨b', o', hA, _, hc⟩ := h j hlt
      injection hA with hA
      injection hA with q0 q1
      subst q0 q1
      rw [hc, hj]
    · rintro e w' ⟨v', rfl, hO, _, hB⟩
      obtain ⟨A', c', rfl, _⟩ := own_form hO
      exact ⟨hB, A', c', rfl, hO⟩
theorem own_lower {w : World} {base base' : Nat} {e : TypeId} {size n : Nat} {v : Value} {xs : List Value} (h : w.ownsRow base e size v n xs) (hb : base' ≤ base) : w.ownsRow base' e size v n xs := by
  refine ⟨h.1, ?_⟩
  rcases h.2 with h2 | ⟨g, cap, cur, h1, h2, h3⟩
  · exact .inl h2
  · exact .inr ⟨g, cap, cur, h1, Nat.le_trans hb h2, h3⟩
theorem below_drew {B : Nat} {a w : World} (h : Below B a w) : Below B a w.drew := ⟨h.os, h.tape, h.output, h.size, h.block⟩
set_option maxRecDepth 100000 in
/-- The closure: a number names no symbol. -/
theorem outside (x : Nat) (g : Nat) (B : Option Addr) (m mc : Nat) (w : World) (hg : w.cell? ⟨g, 0, none⟩ = some (.slice B m mc)) (hx : x < m) :
    Calls Tryd.prog 31 #[.int .i64 x, .pointer (some ⟨g, 0, none⟩)] w fun e w' => e = .returned (.bool false) ∧ w' = w := by
  have h0 : decide ((x : Int) < 0) = false := by simp
  have h1 : ¬ m ≤ x := by omega
  go_enter Tryd.func31, Tryd.ntmps31
  go_wp2_with fail
  go_returns
  exact ⟨rfl, rfl⟩
set_option maxRecDepth 100000 in
theorem indexFunc (A : Option Addr) (n c : Nat) (f : Nat → Int) (g : Nat) (B : Option Addr) (m mc : Nat) (w : World) (h : Reads w A n fun i => .int .i64 (f i)) (hn : n ≤ 9223372036854775807) (hf : ∀ i, i < n → 0 ≤ f i ∧ f i < m) (hg : w.cell? ⟨g, 0, none⟩ = some (.slice B m mc)) (F : Value) (hF : F = .func (.func 31) #[] #[.pointer (some ⟨g, 0, none⟩)]) :
    Calls Tryd.prog 40 #[.slice A n c, F] w fun e w' => e = .returned (.int .i64 (-1)) ∧ w' = w := by
  have HH := Lib.hid h
  have HF := Lib.hid hf
  have HO := Lib.hid (fun x (hx : x < m) => outside x g B m mc w hg hx)
  clear h hf hg
  subst hF
  go_enter Tryd.func40, Tryd.ntmps40
  go_wp2_with fail
  go_loopw [8] (fun iv wr => ∃ i : Nat, iv = .int .i64 i ∧ i ≤ n ∧ wr = w) (fun iv _ => ((n : Int) - intOf iv).toNat)
  case atStart => exact ⟨0, rfl, by omega, rfl⟩
  case round =>
    obtain ⟨i, rfl, hi, rfl⟩ := hrel
    by_cases hlt : i < n
    · obtain ⟨b, o, rfl, hb, hc⟩ := HH.out i hlt
      obtain ⟨g0, g1⟩ := HF.out i hlt
      obtain ⟨x, hx⟩ : ∃ x : Nat, f i = x := ⟨(f i).toNat, by omega⟩
      simp only [hx] at hc
      have hxm : x < m := by omega
      have hlt' : (i : Int) < n := by omega
      clear hx g0 g1
      go_wp2_with fail
      refine (HO.out x hxm).mono ?_
      rintro e w' ⟨rfl, rfl⟩
      go_wp2_with fail
      go_roundw
      case rel => exact ⟨i + 1, val_int (by omega), by omega, by trivial⟩
      case measure => simp [intOf]; omega
    · go_wp2_with fail
      go_returns
      exact ⟨rfl, rfl⟩
theorem containsFunc (A : Option Addr) (n c : Nat) (f : Nat → Int) (g : Nat) (B : Option Addr) (m mc : Nat) (w : World) (h : Reads w A n fun i => .int .i64 (f i)) (hn : n ≤ 9223372036854775807) (hf : ∀ i, i < n → 0 ≤ f i ∧ f i < m) (hg : w.cell? ⟨g, 0, none⟩ = some (.slice B m mc)) :
    Calls Tryd.prog 30 #[.slice A n c, .func (.func 31) #[] #[.pointer (some ⟨g, 0, none⟩)]] w fun e w' => e = .returned (.bool false) ∧ w' = w := by
  have HI := Lib.hid (indexFunc A n c f g B m mc w h hn hf hg _ rfl)
  clear h hf hg
  go_enter Tryd.func30, Tryd.ntmps30
  go_wp2_with fail
  refine HI.out.mono ?_
  rintro e w' ⟨rfl, rfl⟩
  go_wp2_with fail
  go_returns
  exact ⟨rfl, rfl⟩
set_option maxRecDepth 100000 in
set_option maxHeartbeats 4000000 in
theorem valid (A : Option Addr) (n c : Nat) (S : Nat → Sc) (B : Option Addr) (m mc : Nat) (Y : Nat → Sy) (w : World) (h : RSc w A n S) (hn : n ≤ 60) (h0 : 0 < n) (hS : ∀ i, i < n → (S i).Small) (hF : ∀ i, i < n → Fit (S i) Y m i) :
    Calls Tryd.prog 18 #[.slice A n c, .slice B m mc] w fun e w' => Below w.heap.size w w' ∧ e = .returned (.bool true) := by
  obtain ⟨i0, hi0, hz0, hz1, hz2⟩ := info_parts info3
  have HH := Lib.hid (fun W (hb : Below w.heap.size w W) => h.below hb)
  have HSM := Lib.hid hS
  have HF := Lib.hid hF
  have HCL := Lib.hid clone
  have HCF := Lib.hid containsFunc
  have hn0 : (0 : Int) < n := by omega
  have HB0 := Lib.hid (below_at (Below.refl w.heap.size w) (.cells #[.slice B m mc] 23))
  have HG0 := Lib.hid (Blk.new w 23 [.slice B m mc])
  clear h hS hF
  go_enter Tryd.func18, Tryd.ntmps18
  go_wp2_with fail
  go_loopg [10] n (fun k iv wr => ∃ (i : Nat), iv = .int .i64 i ∧ Aside (i + k = n ∧ Below w.heap.size w wr ∧ Blk wr w.heap.size 23 [.slice B m mc]))
  case atStart => exact ⟨0, rfl, ⟨by omega, HB0.out, HG0.out⟩⟩
  case round =>
    obtain ⟨i, rfl, HA⟩ := hrel
    by_cases hlt : i < n
    · obtain ⟨h0, h1, h2⟩ := HA.out
      obtain ⟨hIn, b, o, hA, hb, c0, c1, c2, c3, c4, c5, c6⟩ := HH.out _ h1 i hlt
      subst hA
      have hlt' : (i : Int) < n := by omega
      have HB := Lib.hid h1
      have HI := Lib.hid h0
      have HIn := Lib.hid hIn
      have HSm := Lib.hid (HSM.out i hlt)
      have HFit := Lib.hid (HF.out i hlt)
      have HGr := Lib.hid h2
      obtain ⟨s, hs⟩ : ∃ s, S i = s := ⟨_, rfl⟩
      rw [hs] at HIn HSm HFit c0 c1 c2 c3 c4 c5 c6
      clear h1 h0 h2 HA hIn hs
      go_upto_region 4 with fail
      obtain ⟨W, hW⟩ : ∃ W, W = wr.alloc (.cells #[.int .i64 s.p, .int .i64 s.k, .slice s.A s.n s.c, .slice s.R s.rn s.rc, .slice s.G s.gn s.gc, .int .i64 s.l, .bool s.ev] 39) := ⟨_, rfl⟩
      have HBW := Lib.hid (show Below w.heap.size w W by rw [hW]; exact below_at HB.out _)
      have HInW := Lib.hid (show s.In W by rw [hW]; exact HIn.out.below (below_at (Below.refl _ _) _))
      have HK : Hid (Blk W wr.heap.size 39 [.int .i64 s.p, .int .i64 s.k, .slice s.A s.n s.c, .slice s.R s.rn s.rc, .slice s.G s.gn s.gc, .int .i64 s.l, .bool s.ev]) := Lib.hid (by rw [hW]; exact Blk.new wr 39 _)
      replace HGr := Lib.hid (show Blk W w.heap.size 23 [.slice B m mc] by rw [hW]; exact HGr.out.alloc _)
      rw [← hW]
      clear hW c0 c1 c2 c3 c4 c5 c6 HIn
      have k3 := HK.out.get 3 rfl
      have k4 := HK.out.get 4 rfl
      refine Hoist.start (S := fun _ w' => w'.cell? ⟨wr.heap.size, 3, none⟩ = some (.slice s.R s.rn s.rc) ∧ w'.cell? ⟨wr.heap.size, 4, none⟩ = some (.slice s.G s.gn s.gc)) (by kernel_rfl) ?_
      refine Hoist.takeS (i := 0) (v := ?v0) rfl (by kernel_rfl) (by kernel_rfl) (by kernel_rfl) (fun _ _ _ h => h) ⟨by rfl, ?hy0⟩ ⟨k3, k4⟩ ?rest0
      case hy0 =>
        intro w' hSw
        obtain ⟨s0, s1⟩ := hSw
        go_simp
        rfl
      simp only [Act.put, List.setIfInBounds_toArray, List.set_cons_zero, List.set_cons_succ]
      refine Hoist.takeS (i := 1) (v := ?v1) rfl (by kernel_rfl) (by kernel_rfl) (by kernel_rfl) (fun _ _ _ h => h) ⟨by rfl, ?hy1⟩ ⟨k3, k4⟩ ?rest1
      case hy1 =>
        intro w' hSw
        obtain ⟨s0, s1⟩ := hSw
        go_simp
        rfl
      simp only [Act.put, List.setIfInBounds_toArray, List.set_cons_zero, List.set_cons_succ]
      refine Hoist.takeS (i := 3) (v := ?v3) rfl (by kernel_rfl) (by kernel_rfl) (by kernel_rfl) (fun _ _ _ h => h) ⟨by rfl, ?hy3⟩ ⟨k3, k4⟩ ?rest3
      case hy3 =>
        intro w' hSw
        obtain ⟨s0, s1⟩ := hSw
        go_simp
        rfl
      simp only [Act.put, List.setIfInBounds_toArray, List.set_cons_zero, List.set_cons_succ]
      refine Hoist.takeS (i := 4) (v := ?v4) rfl (by kernel_rfl) (by kernel_rfl) (by kernel_rfl) (fun _ _ _ h => h) ⟨by rfl, ?hy4⟩ ⟨k3, k4⟩ ?rest4
      case hy4 =>
        intro w' hSw
        obtain ⟨s0, s1⟩ := hSw
        go_simp
        rfl
      simp only [Act.put, List.setIfInBounds_toArray, List.set_cons_zero, List.set_cons_succ]
      refine Hoist.only (i := 2) rfl (by kernel_rfl) ?_
      intro K hK
      go_simp
      have hsz : W.drew.heap.size = W.heap.size := rfl
      have r2' := HInW.out.below (below_drew (Below.refl W.heap.size W))
      refine (HCL.out s.R s.rn s.rc s.refs _ r2'.r2 (by have := HSm.out.2.2.1; omega)).mono ?_
      rintro e w1 ⟨b1, A1, c1, rfl, O1⟩
      have b1' := up (below_drew (Below.refl W.heap.size W)) b1
      have HB1 := Lib.hid (up HBW.out b1')
      have HK1 := Lib.hid (HK.out.below b1' HK.out.lt)
      have HG1 := Lib.hid (HGr.out.below b1' HGr.out.lt)
      have HIn1 := Lib.hid (HInW.out.below b1')
      have HS1 := Lib.hid b1'.size
      refine hK _ _ ⟨HK1.out.get 3 rfl, HK1.out.get 4 rfl⟩ ?_
      clear hK K k3 k4 r2' b1 b1'
      refine Hoist.only (i := 5) rfl (by kernel_rfl) ?_
      intro K hK
      have sm1 := HSm.out.2.2.1
      have sm2 := HSm.out.2.2.2
      refine step_append_reads rfl (.tmp 17) (.tmp 19) 32 rfl _ 3 i0 _ 8 Tryd.underlying32 hi0 hz0 hz1 hz2 rfl _ s.rn _ rfl O1 s.G s.gn s.gc _ rfl HIn1.out.r3 HIn1.out.z3 (fun _ _ => rfl) (by simp only [maxLen]; omega) (by omega) HS1.out ?_
      intro v2 w2 O2 G2 _
      have HB2 := Lib.hid (below_of_only HB1.out HB1.out.size G2 (fun g hg => Nat.le_trans HBW.out.size (own_below O1 g hg)))
      have HK2 := Lib.hid (HK1.out.grown G2 (own_ne O1 HK1.out (by decide)))
      have HG2 := Lib.hid (HG1.out.grown G2 (own_ne O1 HG1.out (by decide)))
      have HO2 := Lib.hid (own_lower O2 HBW.out.size)
      refine hK _ _ ⟨HK2.out.get 3 rfl, HK2.out.get 4 rfl⟩ ?_
      clear hK K O1 O2 G2 HB1 HG1 HIn1 HS1 HK1 hsz
      refine Hoist.only (i := 6) rfl (by kernel_rfl) ?_
      intro K hK
      go_simp
      refine hK _ _ ⟨HK2.out.get 3 rfl, HK2.out.get 4 rfl⟩ ?_
      clear hK K
      refine Hoist.over (by kernel_rfl) ?_ _
      have k5 := HK2.out.get 5 rfl
      clear HBW HInW HK HGr
      obtain ⟨A2, c2, rfl, -⟩ := own_form HO2.out
      go_upto_if 23 with fail
      go_cut [7] (fun av wx => ∃ A3 n3 c3, av = .slice A3 n3 c3 ∧ Aside (wx.ownsRow w.heap.size 3 1 (.slice A3 n3 c3) n3 s.own ∧ Below w.heap.size w wx ∧ Blk wx wr.heap.size 39 [.int .i64 s.p, .int .i64 s.k, .slice s.A s.n s.c, .slice s.R s.rn s.rc, .slice s.G s.gn s.gc, .int .i64 s.l, .bool s.ev] ∧ Blk wx w.heap.size 23 [.slice B m mc] ∧ n3 ≤ 4294967297))
      case first =>
        by_cases hl : 0 ≤ s.l
        · have HO := Lib.hid (show s.own = row s.rn (fun i => .int .i64 (s.refs i)) ++ row s.gn (fun i => .int .i64 (s.gens i)) ++ [.int .i64 s.l] by
            unfold Sc.own
            rw [if_pos hl])
          have hm1 : s.rn + s.gn + 1 ≤ maxLen := by simp only [maxLen]; omega
          go_wp2_with (at_builtin; refine wpList_append_one rfl _ _ 32 rfl w.heap.size 3 i0 _ 8 Tryd.underlying32 hi0 hz0 hz1 hz2 rfl _ _ _ rfl HO2.out _ rfl rfl hm1 (by omega) HB2.out.size ?_; intro v1 w4 hown1 hgrow1 _)
          go_meet
          obtain ⟨A4, c4', rfl, -⟩ := own_form hown1
          exact ⟨_, _, _, rfl, by rw [HO.out]; exact hown1, below_of_only HB2.out HB2.out.size hgrow1 (fun g hg => own_below HO2.out g hg), HK2.out.grown hgrow1 (own_ne HO2.out HK2.out (by decide)), HG2.out.grown hgrow1 (own_ne HO2.out HG2.out (by decide)), by omega⟩
        · have HO := Lib.hid (show s.own = row s.rn (fun i => .int .i64 (s.refs i)) ++ row s.gn (fun i => .int .i64 (s.gens i)) by
            unfold Sc.own
            rw [if_neg hl, List.append_nil])
          go_wp2_with fail
          go_meet
          exact ⟨_, _, _, rfl, by rw [HO.out]; exact HO2.out, HB2.out, HK2.out, HG2.out, by omega⟩
      case rest =>
        obtain ⟨A3, n3, c3, rfl, HC⟩ := hcut
        have HB3 := Lib.hid HC.out.2.1
        have HK3 := Lib.hid HC.out.2.2.1
        have HG3 := Lib.hid HC.out.2.2.2.1
        have HO3 := Lib.hid (Sc.own_reads HC.out.1)
        have hn3 := HC.out.2.2.2.2
        clear HC HB2 HK2 HG2 HO2 k5
        have d0 := HK3.out.get 0 rfl
        have d2 := HK3.out.get 2 rfl
        have d3 := HK3.out.get 3 rfl
        have e1 : ((s.n : Int) != (s.rn : Int)) = false := by have := HFit.out.named.1; simp; omega
        have HEND := Lib.hid (HCF.out A3 n3 c3 s.ownAt w.heap.size B m mc wc HO3.out.2 (by omega) (by rw [HO3.out.1]; exact HFit.out.own) (HG3.out.get 0 rfl))
        by_cases hi0 : i = 0
        · have hp := (HFit.out.top hi0).1
          have t1 : ¬ (i : Int) ≤ s.p := by omega
          have t2 : decide (s.p < 0) = true := by simp; omega
          have t3 : ((i : Int) == 0) = true := by simp [hi0]
          clear hp
          have HI0 := Lib.hid hi0
          clear hi0
          go_wp2_with fail
          refine HEND.out.mono ?_
          rintro e w' ⟨rfl, rfl⟩
          go_wp2_with fail
          go_roundg (n - (i + 1))
          case measure => have := HI.out; omega
          case rel => exact ⟨i + 1, val_int (by omega), ⟨by have := HI.out; omega, HB3.out, HG3.out⟩⟩
        · have hp := HFit.out.par (by omega)
          have t1 : ¬ (i : Int) ≤ s.p := by omega
          have t2 : decide (s.p < 0) = false := by simp; omega
          have t3 : ((i : Int) == 0) = false := by simp; omega
          clear hp
          have HI0 := Lib.hid hi0
          clear hi0
          go_wp2_with fail
          refine HEND.out.mono ?_
          rintro e w' ⟨rfl, rfl⟩
          go_wp2_with fail
          go_roundg (n - (i + 1))
          case measure => have := HI.out; omega
          case rel => exact ⟨i + 1, val_int (by omega), ⟨by have := HI.out; omega, HB3.out, HG3.out⟩⟩
    · have HBE := Lib.hid HA.out.2.1
      clear HA
      go_wp2_with fail
      go_returns
      exact ⟨HBE.out, rfl⟩
end Go.Proofs.YtofdoaollanbpaaDoor.Res
