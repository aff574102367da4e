/- GenerateLineOffsetTables. The walk. -/
import Derived.Test.YtobhlppdolekoaaChM
import Derived.Test.YtobhlppdolekoaaChF
import Derived.WalkSpells
namespace Go.Proofs.Ytobhlppdolekoaa.Ch
open Go.RowKit Go.Proofs.Ytobhlppdolekoaa.Aid Go.Proofs.Ytobhlppdolekoaa.Bytes Go.Proofs.Ytobhlppdolekoaa.Runes
attribute [local go_sem ↓] Go.wp_at_zero Go.wp_at_succ
set_option linter.unusedVariables false
set_option linter.unusedSimpArgs false
theorem Tabled.open_ {w wr : World} {B : Nat} {t : Tb} {v tv : Value} (h : Tabled w wr B t v tv) (hB : B ≤ wr.heap.size) (hn : t.cols = none) (cb f : Nat) :
    Tabled w (wr.alloc (.cells #[] 21)) B { t with cb := cb, f := f, cols := some [] } (.slice (some ⟨wr.heap.size, 0, none⟩) 0 0) tv := by
  obtain ⟨hlow, hcur, cs, htold, hne⟩ := h
  have hb := below_at (Below.refl wr.heap.size wr) (.cells #[] 21)
  refine ⟨hlow.trans (hb.mono hlow.size), ⟨⟨wr.heap.size, 0, rfl, hB, by simp⟩, rfl, .inr ⟨wr.heap.size, 0, #[], rfl, hB, heap_alloc_new wr _, Nat.le_refl _, Nat.zero_le _, rfl, rfl⟩⟩, cs, ⟨own_keep htold.row hb, htold.len, fun i ln u h1 h2 => (htold.cols i ln u h1 h2).keep hb⟩, fun u hu => ?_⟩
  obtain ⟨i, hi⟩ := List.getElem?_of_mem hu
  have hlt : i < t.D.length := by
    rcases Nat.lt_or_ge i cs.length with h | h
    · rw [htold.len]; exact h
    · rw [List.getElem?_eq_none h] at hi; cases hi
  have := (htold.cols i _ u (List.getElem?_eq_getElem hlt) hi).lt
  cases hub : u.ownBlock with
  | none => exact .inl rfl
  | some j =>
    right
    intro e
    injection e with e
    have e' : j = wr.heap.size := e
    have := (this j hub).2
    omega
set_option maxRecDepth 100000 in
set_option maxHeartbeats 8000000 in
theorem lineTables (s : ByteArray) (w : World) (hs : s.size ≤ 16384) (hwf : wf s 0 = true) :
    Calls Try.prog 28 #[.string s, .int .i32 1] w fun e w' => ∃ tv cs, e = .returned tv ∧ Told w' w.heap.size tv (table s) cs ∧ Below w.heap.size w w' := by
  obtain ⟨i100, hi, hz0, hz1, hz2⟩ := info_parts info100
  obtain ⟨i21, hj, hy0, hy1, hy2⟩ := info_parts info21
  have HWF := Lib.hid hwf
  clear hwf
  obtain ⟨B, hB⟩ : ∃ B, B = w.heap.size := ⟨_, rfl⟩
  rw [← hB]
  have HB := Lib.hid hB
  have hBw : B ≤ w.heap.size := Nat.le_of_eq hB
  clear hB
  have en1 : ∀ w, (binOp .eql 98 (.slice none 0 0) (.slice none 0 0)).run Try.prog w = .ok (.bool true) w := fun w => Lib.run_eql_slice_nil w 98 21 none 0 0 0 0 Try.underlying98
  have en2 : ∀ w k n c, (binOp .eql 98 (.slice (some k) n c) (.slice none 0 0)).run Try.prog w = .ok (.bool false) w := fun w k n c => Lib.run_eql_slice_nil w 98 21 (some k) n c 0 0 Try.underlying98
  have nn1 : ∀ w, (binOp .neq 98 (.slice none 0 0) (.slice none 0 0)).run Try.prog w = .ok (.bool false) w := fun w => run_neq_slice_nil_any w 98 21 none 0 0 0 0 Try.underlying98
  have nn2 : ∀ w k n c, (binOp .neq 98 (.slice (some k) n c) (.slice none 0 0)).run Try.prog w = .ok (.bool true) w := fun w k n c => run_neq_slice_nil_any w 98 21 (some k) n c 0 0 Try.underlying98
  go_enter Try.func28, Try.ntmps28
  go_upto_region 7 with (at_make; refine wpList_make_own _ rfl _ _ 79 rfl B 100 i100 _ 3 Try.underlying79 hi hz0 hz1 .i64 .i32 1 1 rfl rfl rfl (by rw [hz2]; omega) (by unfold maxLen; omega) hBw ?_)
  intro w1 hown1 hgr1
  have HT0 := Lib.hid (show Tabled w w1 B Tb.new (.slice none 0 0) (.slice (some ⟨w.heap.size, 0, none⟩) 0 1) from ⟨below_of_only (Below.refl _ _) (Nat.le_refl _) hgr1 (fun g hg => by cases hg), rfl, [], ⟨hown1, rfl, fun i ln v h => by simp [Tb.new] at h⟩, fun u hu => by cases hu⟩)
  have HW1 : Hid (w.heap.size ≤ w1.heap.size) := Lib.hid hgr1.size
  have hw1 : w.heap.size ≤ w1.heap.size := hgr1.size
  clear hown1 hgr1
  obtain ⟨tv, htv⟩ : ∃ tv, tv = Value.slice (some ⟨w.heap.size, 0, none⟩) 0 1 := ⟨_, rfl⟩
  rw [← htv] at HT0 ⊢
  clear htv
  go_upto_block 8 with fail
  obtain ⟨F, hF⟩ : ∃ F, F = Tb.run s 0 Tb.new := ⟨_, rfl⟩
  have HF := Lib.hid hF
  clear hF
  have HI0 : Hid ((w1.iter s 0).heap[w1.heap.size]? = some (.stringIter s 0)) := Lib.hid (World.iter_heap w1 s 0)
  have HT1 : Hid (Tabled w (w1.iter s 0) B Tb.new (.slice none 0 0) tv) := Lib.hid (HT0.out.below (below_at (Below.refl _ _) _))
  have HBI : Hid (B ≤ (w1.iter s 0).heap.size) := Lib.hid (by
    have : (w1.iter s 0).heap.size = w1.heap.size + 1 := by simp [World.iter]
    have := HW1.out
    omega)
  obtain ⟨it, hit⟩ : ∃ it, it = w1.heap.size := ⟨_, rfl⟩
  have hiw : w.heap.size ≤ it := by omega
  rw [← hit] at HI0 ⊢
  clear hit HW1 hw1 HT0
  go_loopg [5, 6, 7, 8, 9, 10] s.size (fun m cv fv lv bv ov tv wr => ∃ (k : Nat) (t : Tb), k + m = s.size ∧ fv = .int .i32 t.f ∧ lv = .int .i64 t.lb ∧ bv = .int .i64 t.cb ∧ ov = .int .i32 t.c ∧ Aside (wr.heap[it]? = some (.stringIter s k) ∧ Tabled w wr B t cv tv ∧ t.Lim k ∧ Tb.run s k t = F ∧ wf s k = true ∧ B ≤ wr.heap.size))
  case atStart => exact ⟨0, Tb.new, by omega, rfl, rfl, rfl, rfl, ⟨HI0.out, HT1.out, Tb.Lim.new, HF.out.symm, HWF.out, HBI.out⟩⟩
  case round =>
    clear HI0 HT1 HBI
    obtain ⟨k, t, hkm, rfl, rfl, rfl, rfl, HA⟩ := hrel
    obtain ⟨h1, h2, h3, h4, h5, h6⟩ := HA.out
    have HTT := Lib.hid h2
    have HLM := Lib.hid h3
    have HBW := Lib.hid h6
    by_cases hlt : k < s.size
    · have hpos := wf_pos hlt h5
      obtain ⟨r, n, hrn⟩ : ∃ r n, rune s k = (r, n) := ⟨_, _, rfl⟩
      rw [hrn] at hpos
      obtain ⟨_, hdec, hn4, hkn, hr8, hr, hrb⟩ := rune_pos hrn hpos
      have HRB := Lib.hid hrb
      clear hrb
      have hw' := wf_next hlt (by rw [hrn]; exact hpos)
      rw [hrn, h5] at hw'
      have hup := Tb.run_next (t := t) hlt (by rw [hrn]; exact hpos)
      rw [hrn, h4] at hup
      obtain ⟨wn, hwn⟩ : ∃ wn, wn = wr.iterAt it s (k + n) := ⟨_, rfl⟩
      have hnx : ∀ ty, (Instr.next (.pointer (some ⟨it, 0, none⟩)) true ty).run Try.prog wr = .ok (.tuple #[.bool true, .int .i64 k, .int .i32 r]) wn := by
        intro ty
        rw [Lib.run_next_any_at wr _ s k ty h1 hlt, hdec, hwn]
      have HIN : Hid (wn.heap[it]? = some (.stringIter s (k + n))) := Lib.hid (by rw [hwn]; exact Lib.iterAt_heap wr it s k (k + n) h1)
      have HTN : Hid (Tabled w wn B t u5 u10) := Lib.hid (by
        have gr : wr.grownBy (wr.iterAt it s (k + n)) (some it) := ⟨rfl, rfl, rfl, by rw [Lib.iterAt_size]; exact Nat.le_refl _, fun i _ hne => Lib.iterAt_other wr it i s (k + n) (fun e => hne (by rw [e]))⟩
        rw [hwn]
        exact h2.iter h1 hiw (fun ho => own_iter ho h1) gr)
      have HWN : Hid (wf s (k + n) = true) := Lib.hid hw'.symm
      have HUP : Hid (F = Tb.run s (k + n) (t.step s k (r, n))) := Lib.hid hup
      have HLN : Hid ((t.step s k (r, n)).Lim (k + n)) := Lib.hid (h3.step s (r, n) hpos)
      have HBN : Hid (B ≤ wn.heap.size) := Lib.hid (by rw [hwn, Lib.iterAt_size]; exact h6)
      have hn0 : 0 < n := hpos
      obtain ⟨t2, ht2⟩ : ∃ t2, t2 = (t.start k).wide k r := ⟨_, rfl⟩
      obtain ⟨t3, ht3⟩ : ∃ t3, t3 = t2.fill k := ⟨_, rfl⟩
      obtain ⟨t4, ht4⟩ : ∃ t4, t4 = t3.count s k (r, n) := ⟨_, rfl⟩
      have hst : t.step s k (r, n) = t4 := by rw [ht4, ht3, ht2]; rfl
      rw [hst] at HUP HLN
      have HL2 : Hid (t2.Lim k) := Lib.hid (by rw [ht2]; exact h3.start.wide r)
      have HL3 : Hid (t3.Lim1 k) := Lib.hid (by rw [ht3]; exact HL2.out.fill)
      have H2 := Lib.hid ht2
      have H3 := Lib.hid ht3
      have H4 := Lib.hid ht4
      obtain ⟨f0, hf0⟩ : ∃ f0, f0 = t.f := ⟨_, rfl⟩
      obtain ⟨lb0, hlb0⟩ : ∃ lb0, lb0 = t.lb := ⟨_, rfl⟩
      obtain ⟨cb0, hcb0⟩ : ∃ cb0, cb0 = t.cb := ⟨_, rfl⟩
      obtain ⟨c0, hc0⟩ : ∃ c0, c0 = t.c := ⟨_, rfl⟩
      rw [← hf0, ← hlb0, ← hcb0, ← hc0]
      have E0 := Lib.hid (show f0 = t.f ∧ lb0 = t.lb ∧ cb0 = t.cb ∧ c0 = t.c from ⟨hf0, hlb0, hcb0, hc0⟩)
      have hc0l : c0 ≤ 2 * k := by rw [hc0]; exact h3.c
      obtain ⟨lb1, hlb1⟩ : ∃ lb1, lb1 = (t.start k).lb := ⟨_, rfl⟩
      have E1 := Lib.hid hlb1
      have hlb1l : lb1 ≤ k := by rw [hlb1]; exact h3.start.lb
      clear h1 h2 h3 h4 h5 h6 hup hw' hwn HA hrn hdec HTT HBW ht2 ht3 ht4 hst hf0 hlb0 hcb0 hc0 hlb1 hpos
      go_upto_if 24 with fail
      go_cut [7] (fun v wx => v = .int .i64 lb1 ∧ wx = wn)
      case first =>
        by_cases hz : c0 = 0
        · have q0 : ((c0 : Int) == 0) = true := by simp; omega
          have e1 : Hid ((k : Int) = lb1) := Lib.hid (by
            have h1 := E1.out
            have h2 := E0.out.2.2.2
            rw [Tb.start, if_pos (by omega)] at h1
            have h3 : lb1 = k := h1
            omega)
          clear hz
          go_wp2_with fail
          go_meet
          exact ⟨by rw [e1.out], rfl⟩
        · have q0 : ((c0 : Int) == 0) = false := by simp; omega
          have e1 : Hid (lb0 = lb1) := Lib.hid (by
            have h1 := E1.out
            have h2 := E0.out.2.2.2
            have h4 := E0.out.2.1
            rw [Tb.start, if_neg (by omega)] at h1
            omega)
          clear hz
          go_wp2_with fail
          go_meet
          exact ⟨by rw [e1.out], rfl⟩
      case rest =>
        obtain ⟨rfl, rfl⟩ := hcut
        obtain ⟨W1, hW1⟩ : ∃ W1, W1 = wc := ⟨_, rfl⟩
        subst hW1
        clear hnx
        have ES : Hid ((t.start k).c = c0 ∧ (t.start k).cb = cb0 ∧ (t.start k).f = f0 ∧ (t.start k).cols = t.cols ∧ (t.start k).D = t.D) := Lib.hid (by
          obtain ⟨e1, e2, e3, e4⟩ := E0.out
          unfold Tb.start
          split <;> exact ⟨e4.symm, e3.symm, e1.symm, rfl, rfl⟩)
        have HTS : Hid (Tabled w W1 B (t.start k) u5 u10) := Lib.hid (by
          obtain ⟨a1, a2, a3⟩ := HTN.out
          exact ⟨a1, by rw [ES.out.2.2.2.1]; exact a2, by rw [ES.out.2.2.2.2]; exact a3⟩)
        have E2 : Hid (t2.lb = lb1 ∧ t2.c = c0) := Lib.hid (by
          rw [H2.out]
          unfold Tb.wide
          split <;> exact ⟨E1.out.symm, ES.out.1⟩)
        clear HTN
        obtain ⟨z, hz⟩ : ∃ z, z = (decide (127 < r) && t.cols.isNone) := ⟨_, rfl⟩
        have HZ := Lib.hid hz
        clear hz
        go_upto_region 12 with fail
        go_cut [31] (fun v wx => v = .bool z ∧ wx = W1)
        case first =>
          by_cases hr127 : 127 < r
          · have q1 : (127 : Int) < r := by omega
            cases hcols : t.cols with
            | none =>
              have hu5 : u5 = .slice none 0 0 := by
                have := HTS.out.cur
                rw [ES.out.2.2.2.1, hcols] at this
                exact this
              subst hu5
              have HZT : Hid (z = true) := Lib.hid (by rw [HZ.out, hcols]; simp [hr127])
              clear hcols hr127
              go_wp2_with fail
              go_meet
              exact ⟨by rw [HZT.out], rfl⟩
            | some l =>
              have hcur := HTS.out.cur
              rw [ES.out.2.2.2.1, hcols] at hcur
              obtain ⟨⟨kk, cc, hu5, _, _⟩, _⟩ := hcur
              subst hu5
              have HZT : Hid (z = false) := Lib.hid (by rw [HZ.out, hcols]; simp)
              clear hcols hr127
              go_wp2_with fail
              go_meet
              exact ⟨by rw [HZT.out], rfl⟩
          · have q1 : ¬ (127 : Int) < r := by omega
            have HZT : Hid (z = false) := Lib.hid (by rw [HZ.out]; simp [hr127])
            clear hr127
            go_wp2_with fail
            go_meet
            exact ⟨by rw [HZT.out], rfl⟩
        case rest =>
        obtain ⟨rfl, rfl⟩ := hcut
        obtain ⟨W1', hW1'⟩ : ∃ W1', W1' = wc := ⟨_, rfl⟩
        subst hW1'
        go_upto_if 31 with fail
        go_cut [5, 6, 8] (fun v5 v6 v8 wx => Hid (v6 = .int .i32 t2.f ∧ v8 = .int .i64 t2.cb ∧ Tabled w wx B t2 v5 u10 ∧ wx.heap[it]? = some (.stringIter s (k + n)) ∧ B ≤ wx.heap.size))
        case first =>
          cases z with
          | true =>
            have HZZ : Hid (127 < r ∧ t.cols = none) := Lib.hid (by
              have := HZ.out
              cases hc : t.cols with
              | none => rw [hc] at this; simp at this; exact ⟨this, rfl⟩
              | some l => rw [hc] at this; simp at this)
            have EW : Hid (t2 = { (t.start k) with cb := k - lb1, f := k - lb1, cols := some [] }) := Lib.hid (by
              rw [H2.out, Tb.wide, if_pos ⟨HZZ.out.1, by rw [ES.out.2.2.2.1]; exact HZZ.out.2⟩, E1.out])
            have hsub : (k : Int) - lb1 = ((k - lb1 : Nat) : Int) := by omega
            have hw1 : IntKind.i64.wrap ((k - lb1 : Nat) : Int) = ((k - lb1 : Nat) : Int) := by rw [IntKind.wrap_i64]; omega
            have hw2 : IntKind.i32.wrap ((k - lb1 : Nat) : Int) = ((k - lb1 : Nat) : Int) := by rw [IntKind.wrap_i32]; omega
            have HO : Hid (Tabled w (W1'.alloc (.cells #[] 21)) B t2 (.slice (some ⟨W1'.heap.size, 0, none⟩) 0 0) u10) := Lib.hid (by
              rw [EW.out]
              exact HTS.out.open_ HBN.out (by rw [ES.out.2.2.2.1]; exact HZZ.out.2) _ _)
            have HIO : Hid ((W1'.alloc (.cells #[] 21)).heap[it]? = some (.stringIter s (k + n))) := Lib.hid ((Below.heap_alloc W1' _ it (Array.getElem?_eq_some_iff.1 HIN.out).1).trans HIN.out)
            have EF : Hid (t2.f = k - lb1 ∧ t2.cb = k - lb1) := Lib.hid (by rw [EW.out]; exact ⟨rfl, rfl⟩)
            go_wp2_with fail
            go_meet
            exact Lib.hid ⟨by rw [EF.out.1], by rw [EF.out.2], HO.out, HIO.out, by have := HBN.out; simp; omega⟩
          | false =>
            have EW : Hid (t2 = t.start k) := Lib.hid (by
              rw [H2.out, Tb.wide, if_neg]
              rintro ⟨h1, h2⟩
              have := HZ.out
              rw [ES.out.2.2.2.1] at h2
              rw [h2] at this
              simp at this
              omega)
            go_wp2_with fail
            go_meet
            exact Lib.hid ⟨by rw [EW.out, ES.out.2.2.1], by rw [EW.out, ES.out.2.1], by rw [EW.out]; exact HTS.out, HIN.out, HBN.out⟩
        case rest =>
          obtain ⟨rfl, rfl, hc3, hc4, hc5⟩ := hcut.out
          obtain ⟨W2, hW2⟩ : ∃ W2, W2 = wc := ⟨_, rfl⟩
          subst hW2
          have HT2 := Lib.hid hc3
          have HI2 := Lib.hid hc4
          have HB2 := Lib.hid hc5
          obtain ⟨v5, hv5⟩ : ∃ v5, v5 = u5 := ⟨_, rfl⟩
          subst hv5
          clear hcut hc3 hc4 hc5 HTS HIN HBN E0 E1 ES H2
          obtain ⟨f2, hf2⟩ : ∃ f2, f2 = t2.f := ⟨_, rfl⟩
          obtain ⟨cb2, hcb2⟩ : ∃ cb2, cb2 = t2.cb := ⟨_, rfl⟩
          rw [← hf2, ← hcb2]
          have hcb2l : cb2 ≤ k := by rw [hcb2]; exact HL2.out.cb
          have hf2l : f2 ≤ k := by rw [hf2]; exact HL2.out.f
          have E3 := Lib.hid (show f2 = t2.f ∧ cb2 = t2.cb from ⟨hf2, hcb2⟩)
          clear hf2 hcb2
          obtain ⟨J, hJ⟩ : ∃ J, J = k - lb1 + 1 - cb2 := ⟨_, rfl⟩
          have HJ := Lib.hid hJ
          clear hJ
          obtain ⟨z2, hz2⟩ : ∃ z2, z2 = t2.cols.isSome := ⟨_, rfl⟩
          have nq : ∀ w, (binOp .neq 98 v5 (.slice none 0 0)).run Try.prog w = .ok (.bool z2) w := by
            intro w
            have hcur := HT2.out.cur
            cases hcols : t2.cols with
            | none =>
              rw [hcols] at hcur hz2
              rw [show v5 = .slice none 0 0 from hcur, hz2]
              exact nn1 w
            | some l =>
              rw [hcols] at hcur hz2
              obtain ⟨⟨kk, cc, hu5, _, _⟩, _⟩ := hcur
              rw [hu5, hz2]
              exact nn2 w _ _ _
          have ng : ∀ w, (eqGuard .neq 98 (.tmp 38) (.const (.slice none 0 0)) v5 (.slice none 0 0)).run Try.prog w = .ok () w := by
            intro w
            have hcur := HT2.out.cur
            cases hcols : t2.cols with
            | none =>
              rw [hcols] at hcur
              rw [show v5 = .slice none 0 0 from hcur]
              rfl
            | some l =>
              rw [hcols] at hcur
              obtain ⟨⟨kk, cc, hu5, _, _⟩, _⟩ := hcur
              rw [hu5]
              rfl
          have HZ2 := Lib.hid hz2
          clear hz2
          go_upto_if 39 with fail
          go_cut [5, 8] (fun v5 v8 wx => Hid (v8 = .int .i64 t3.cb ∧ Tabled w wx B t3 v5 u10 ∧ wx.heap[it]? = some (.stringIter s (k + n)) ∧ B ≤ wx.heap.size))
          case first =>
            cases z2 with
            | false =>
              have EW : Hid (t3 = t2) := Lib.hid (by
                have := HZ2.out
                cases hcols : t2.cols with
                | none => rw [H3.out, Tb.fill, hcols]
                | some l => rw [hcols] at this; cases this)
              go_wp2_with fail
              go_meet
              exact Lib.hid ⟨by rw [EW.out, ← E3.out.2], by rw [EW.out]; exact HT2.out, HI2.out, HB2.out⟩
            | true =>
              obtain ⟨l, hcols⟩ : ∃ l, t2.cols = some l := by
                have := HZ2.out
                cases hcols : t2.cols with
                | none => rw [hcols] at this; cases this
                | some l => exact ⟨l, rfl⟩
              have HC := Lib.hid hcols
              have EW : Hid (t3 = { t2 with cols := some (l ++ List.replicate J c0), cb := cb2 + J }) := Lib.hid (by
                rw [H3.out, Tb.fill, hcols]
                have e1 := E2.out
                have e2 := E3.out.2
                have e3 := HJ.out
                simp only
                rw [e1.1, ← e2, e1.2, e3]
                congr 1
                omega)
              have hsub : (k : Int) - lb1 = ((k - lb1 : Nat) : Int) := by omega
              have hw1 : IntKind.i64.wrap ((k - lb1 : Nat) : Int) = ((k - lb1 : Nat) : Int) := by rw [IntKind.wrap_i64]; omega
              have HLL : Hid (l.length ≤ cb2) := Lib.hid (by have := HL2.out.cols l hcols; rw [E3.out.2]; exact this)
              have HT20 : Hid (Tabled w W2 B { t2 with cols := some (l ++ List.replicate 0 c0), cb := cb2 + 0 } v5 u10) := Lib.hid (by
                have h := HT2.out
                obtain ⟨a1, a2, a3⟩ := h
                exact ⟨a1, by simpa [hcols] using a2, a3⟩)
              obtain ⟨d, hd⟩ : ∃ d, d = k - lb1 := ⟨_, rfl⟩
              rw [← hd] at hw1 hsub
              have hdl : d ≤ k := by omega
              have hJ : J = d + 1 - cb2 := by rw [hd]; exact HJ.out
              have HJ2 := Lib.hid hJ
              clear hcols nq hd hJ
              go_wp2_with fail
              go_loopg [5, 8] J (fun m v5 v8 wr => ∃ j : Nat, j + m = J ∧ v8 = .int .i64 ((cb2 + j : Nat) : Int) ∧ Aside (Tabled w wr B { t2 with cols := some (l ++ List.replicate j c0), cb := cb2 + j } v5 u10 ∧ wr.heap[it]? = some (.stringIter s (k + n)) ∧ B ≤ wr.heap.size))
              case atStart => exact ⟨0, by omega, rfl, ⟨HT20.out, HI2.out, HB2.out⟩⟩
              case round =>
                clear HT20
                obtain ⟨j, hjm, rfl, HR⟩ := hrel
                have HR := Lib.hid HR.out
                by_cases hjJ : j < J
                · have hJ := HJ2.out
                  have q1 : ((cb2 + j : Nat) : Int) ≤ (d : Int) := by omega
                  have hw3 : IntKind.i64.wrap (((cb2 + j : Nat) : Int) + 1) = ((cb2 + (j + 1) : Nat) : Int) := by rw [IntKind.wrap_i64]; omega
                  have hcur := HR.out.1.cur
                  obtain ⟨⟨kk, cc, hv5', hkk1, hkk2⟩, hrow⟩ := hcur
                  subst hv5'
                  have hlen : (l ++ List.replicate j c0).length = l.length + j := by simp
                  rw [hlen] at hrow
                  rw [hlen]
                  have HROW := Lib.hid hrow
                  have HLEN := Lib.hid hlen
                  have hll : l.length + j ≤ 100000 := by have := HLL.out; omega
                  have HLL2 := Lib.hid hll
                  clear hrow hlen hJ hll
                  obtain ⟨nl, hnl⟩ : ∃ nl, nl = l.length + j := ⟨_, rfl⟩
                  rw [← hnl] at HROW HLEN HLL2 ⊢
                  have HNL := Lib.hid hnl
                  clear hnl
                  go_wp2_with (at_builtin; (refine wpList_append_new rfl _ _ 98 rfl B 21 i21 _ 1 4 Try.underlying98 hj hy0 hy1 hy2 rfl (by omega) (.slice (some ⟨kk, 0, none⟩) nl cc) nl (icells (l ++ List.replicate j c0)) rfl HROW.out [.int .i32 c0] rfl rfl (one_int _ _) (by have := HLL2.out; unfold maxLen; omega) (by have := HLL2.out; omega) HR.out.2.2 ?_))
                  intro gg cap w6 hown6 hgr6 hloc6
                  have HT6 := Lib.hid (show Tabled w w6 B { t2 with cols := some (l ++ List.replicate (j + 1) c0), cb := cb2 + (j + 1) } (.slice (some ⟨gg, 0, none⟩) (nl + 1) cap) u10 by
                    have h := HR.out.1.col (v' := .slice (some ⟨gg, 0, none⟩) (nl + 1) cap) (l := l ++ List.replicate j c0) (x := c0) (Nat.le_of_eq HB.out.symm) HR.out.2.2 rfl (k := gg) (c := cap) (by rw [HLEN.out]) (by rw [HLEN.out]; exact hown6) hgr6 hloc6 (cb2 + (j + 1))
                    rw [List.append_assoc, ← List.replicate_succ'] at h
                    exact h)
                  have HI6 : Hid (w6.heap[it]? = some (.stringIter s (k + n))) := Lib.hid ((hgr6.block it (Array.getElem?_eq_some_iff.1 HR.out.2.1).1 (own_iter HROW.out HR.out.2.1)).trans HR.out.2.1)
                  have HB6 : Hid (B ≤ w6.heap.size) := Lib.hid (Nat.le_trans HR.out.2.2 hgr6.size)
                  clear hown6 hgr6 hloc6
                  go_wp2_with fail
                  go_roundg (J - (j + 1))
                  case rel => exact ⟨j + 1, by omega, rfl, ⟨HT6.out, HI6.out, HB6.out⟩⟩
                  case measure => omega
                · have hJ := HJ2.out
                  have q1 : ¬ ((cb2 + j : Nat) : Int) ≤ (d : Int) := by omega
                  have hjJ' : j = J := by omega
                  subst hjJ'
                  clear hjJ hJ
                  go_wp2_with fail
                  go_meet
                  exact Lib.hid ⟨by rw [EW.out]; rfl, by rw [EW.out]; exact HR.out.1, HR.out.2.1, HR.out.2.2⟩
          case rest =>
            obtain ⟨rfl, hc3, hc4, hc5⟩ := hcut.out
            obtain ⟨W3, hW3⟩ : ∃ W3, W3 = wc := ⟨_, rfl⟩
            subst hW3
            have HT3 := Lib.hid hc3
            have HI3 := Lib.hid hc4
            have HB3 := Lib.hid hc5
            obtain ⟨A5, n5, c5, hu5⟩ := hc3.cur.slice
            subst hu5
            have E4 : Hid (t3.lb = lb1 ∧ t3.c = c0 ∧ t3.f = f2) := Lib.hid (by
              rw [H3.out, Tb.fill]
              split
              · exact ⟨E2.out.1, E2.out.2, E3.out.1.symm⟩
              · exact ⟨E2.out.1, E2.out.2, E3.out.1.symm⟩)
            clear hcut hc3 hc4 hc5 HT2 HI2 HB2 E2 E3 HJ HZ2 nq ng
            obtain ⟨cb3, hcb3⟩ : ∃ cb3, cb3 = t3.cb := ⟨_, rfl⟩
            rw [← hcb3]
            have E5 := Lib.hid hcb3
            clear hcb3
            have hwc1 : IntKind.i32.wrap ((c0 : Int) + 1) = ((c0 + 1 : Nat) : Int) := by rw [IntKind.wrap_i32]; omega
            have hwc2 : IntKind.i32.wrap ((c0 : Int) + 2) = ((c0 + 2 : Nat) : Int) := by rw [IntKind.wrap_i32]; omega
            have hwk : IntKind.i64.wrap ((k : Int) + 1) = ((k + 1 : Nat) : Int) := by rw [IntKind.wrap_i64]; omega
            have hwl : IntKind.i32.wrap (lb1 : Int) = (lb1 : Int) := by rw [IntKind.wrap_i32]; omega
            by_cases hle : lineEnd r = true
            · have hr4 : r = 13 ∨ r = 10 ∨ r = 8232 ∨ r = 8233 := by
                unfold lineEnd at hle
                simp only [Bool.or_eq_true, decide_eq_true_eq] at hle
                omega
              have HLE := Lib.hid hle
              have HR4 := Lib.hid hr4
              clear hle hr4
              go_upto_if 59 with fail
              go_cut [59] (fun t wx => t = .bool true ∧ wx = W3)
              case first =>
                rcases HR4.out with rfl | rfl | rfl | rfl
                all_goals
                  go_wp2_with fail
                  go_meet
                  exact ⟨rfl, rfl⟩
              case rest =>
                obtain ⟨rfl, rfl⟩ := hcut
                obtain ⟨W4, hW4⟩ : ∃ W4, W4 = wc := ⟨_, rfl⟩
                subst hW4
                obtain ⟨zc, hzc⟩ : ∃ zc, zc = decide (r = 13 ∧ k + n < s.size ∧ byt s (k + n) = 10) := ⟨_, rfl⟩
                have HZC := Lib.hid hzc
                clear hzc
                go_upto_region 29 with fail
                go_cut [79] (fun v wx => v = .bool zc ∧ wx = W4)
                case first =>
                  by_cases h13 : r = 13
                  · have q13 : ((r : Int) == 13) = true := by simp; omega
                    have hn1 : n = 1 := by omega
                    by_cases hend : k + 1 < s.size
                    · have hlt2 : ((k + 1 : Nat) : Int) < s.size := by omega
                      obtain ⟨y, hy⟩ : ∃ y, (s[k + 1]'hend).toNat = y := ⟨_, rfl⟩
                      obtain ⟨zy, hzy⟩ : ∃ zy, ((y : Int) == 10) = zy := ⟨_, rfl⟩
                      have HZT : Hid (zc = zy) := Lib.hid (by
                        rw [HZC.out, ← hzy, hn1, byt_eq s (k + 1) hend, hy]
                        by_cases h : y = 10
                        · subst h; simp [h13, hend]
                        · simp [h13, hend, h]
                          omega)
                      clear h13 hn1 hr8 hn4
                      go_wp2_with fail
                      go_meet
                      exact ⟨by rw [HZT.out], rfl⟩
                    · have hlt2 : ¬ ((k + 1 : Nat) : Int) < s.size := by omega
                      have HZT : Hid (zc = false) := Lib.hid (by
                        rw [HZC.out, hn1]
                        simp [hend])
                      clear h13 hn1 hr8 hn4 hend
                      go_wp2_with fail
                      go_meet
                      exact ⟨by rw [HZT.out], rfl⟩
                  · have q13 : ((r : Int) == 13) = false := by simp; omega
                    have HZT : Hid (zc = false) := Lib.hid (by rw [HZC.out]; simp [h13])
                    clear h13
                    go_wp2_with fail
                    go_meet
                    exact ⟨by rw [HZT.out], rfl⟩
                case rest =>
                  obtain ⟨rfl, rfl⟩ := hcut
                  obtain ⟨W5, hW5⟩ : ∃ W5, W5 = wc := ⟨_, rfl⟩
                  subst hW5
                  cases zc with
                  | true =>
                    have HE4 : Hid (t4 = { t3 with c := c0 + 1 }) := Lib.hid (by
                      have := HZC.out
                      rw [H4.out, Tb.count, if_pos (by simpa using this.symm), E4.out.2.1])
                    go_wp2_with fail
                    go_roundg (s.size - (k + n))
                    case rel => exact ⟨k + n, t4, by omega, by rw [HE4.out, ← E4.out.2.2], by rw [HE4.out, ← E4.out.1], by rw [HE4.out, E5.out], by rw [HE4.out]; rfl, ⟨HI3.out, HT3.out.same (by rw [HE4.out]) (by rw [HE4.out]), HLN.out, HUP.out.symm, HWN.out, HB3.out⟩⟩
                    case measure => omega
                  | false =>
                    have HE4 : Hid (t4 = ⟨t3.D ++ [t3.ln], t3.lb, 0, 0, 0, none⟩) := Lib.hid (by
                      have := HZC.out
                      rw [H4.out, Tb.count, if_neg (by simpa using this.symm), if_pos HLE.out])
                    have hth := HT3.out.told
                    obtain ⟨cs, htold, hne⟩ := hth
                    have hcur := HT3.out.cur
                    have hlow := HT3.out.low
                    obtain ⟨A10, c10, hu10⟩ := own_slice htold.row
                    subst hu10
                    have HTO := Lib.hid htold
                    have HCU := Lib.hid hcur
                    have HLO := Lib.hid hlow
                    have hDl : t3.D.length ≤ 100000 := by have := HL3.out.D; omega
                    obtain ⟨nD, hnD⟩ : ∃ nD, nD = t3.D.length := ⟨_, rfl⟩
                    have hrow : Hid (W5.ownsRow B 100 3 (.slice A10 nD c10) nD (tcells t3.D cs)) := Lib.hid (by rw [hnD]; exact htold.row)
                    rw [← hnD] at hDl ⊢
                    have HND := Lib.hid hnD
                    have hone : Hid (∀ u ∈ [Value.slice A5 n5 c5, .int .i32 f2, .int .i32 lb1], u.oneCell' = true) := Lib.hid (by
                      intro u hu
                      simp only [List.mem_cons, List.not_mem_nil, or_false] at hu
                      rcases hu with rfl | rfl | rfl <;> rfl)
                    clear hnD htold hcur hlow hne
                    go_wp2_with (at_builtin; (refine wpList_append_new rfl _ _ 79 rfl B 100 i100 _ 3 32 Try.underlying79 hi hz0 hz1 hz2 rfl (by omega) (.slice A10 nD c10) nD (tcells t3.D cs) rfl hrow.out [Value.slice A5 n5 c5, .int .i32 f2, .int .i32 lb1] rfl rfl hone.out (by unfold maxLen; omega) (by omega) HB3.out ?_))
                    intro gg cap w6 hown6 hgr6 hloc6
                    have HT6 := Lib.hid (show Tabled w w6 B t4 (.slice none 0 0) (.slice (some ⟨gg, 0, none⟩) (nD + 1) cap) from Tabled.line (t := t3) HLO.out HCU.out HTO.out (Nat.le_of_eq HB.out.symm) HB3.out (by
                      rw [← HND.out, show lcells t3.ln (.slice A5 n5 c5) = [.slice A5 n5 c5, .int .i32 f2, .int .i32 lb1] from by unfold lcells Tb.ln; rw [E4.out.1, E4.out.2.2]]
                      exact hown6) (by rw [show (Value.slice A10 t3.D.length c10).ownBlock = (Value.slice A10 nD c10).ownBlock from by cases A10 <;> rfl]; exact hgr6) (by rw [HE4.out]) (by rw [HE4.out]))
                    have HI6 : Hid (w6.heap[it]? = some (.stringIter s (k + n))) := Lib.hid ((hgr6.block it (Array.getElem?_eq_some_iff.1 HI3.out).1 (own_iter hrow.out HI3.out)).trans HI3.out)
                    have HB6 : Hid (B ≤ w6.heap.size) := Lib.hid (Nat.le_trans HB3.out hgr6.size)
                    clear hown6 hgr6 hloc6
                    go_wp2_with fail
                    go_roundg (s.size - (k + n))
                    case rel => exact ⟨k + n, t4, by omega, by rw [HE4.out]; rfl, by rw [HE4.out, ← E4.out.1], by rw [HE4.out]; rfl, by rw [HE4.out]; rfl, ⟨HI6.out, HT6.out, HLN.out, HUP.out.symm, HWN.out, HB6.out⟩⟩
                    case measure => omega
            · have HLE : Hid (lineEnd r = false) := Lib.hid (by cases h : lineEnd r with | true => exact absurd h hle | false => rfl)
              have hx : r ≠ 13 ∧ r ≠ 10 ∧ r ≠ 8232 ∧ r ≠ 8233 := by
                refine ⟨?_, ?_, ?_, ?_⟩ <;> rintro rfl <;> exact hle rfl
              have x1 : ((r : Int) == 13) = false := by simp; omega
              have x2 : ((r : Int) == 10) = false := by simp; omega
              have x3 : ((r : Int) == 8232) = false := by simp; omega
              have x4 : ((r : Int) == 8233) = false := by simp; omega
              have HX := Lib.hid hx
              clear hle hx
              by_cases hbig : 65535 < r
              · have y1 : ¬ (r : Int) ≤ 65535 := by omega
                have HE4 : Hid (t4 = { t3 with c := c0 + 2 }) := Lib.hid (by
                  rw [H4.out, Tb.count, if_neg (fun h => HX.out.1 h.1), if_neg (by rw [HLE.out]; decide), if_pos hbig, E4.out.2.1])
                clear hbig
                go_wp2_with fail
                go_roundg (s.size - (k + n))
                case rel => exact ⟨k + n, t4, by omega, by rw [HE4.out, ← E4.out.2.2], by rw [HE4.out, ← E4.out.1], by rw [HE4.out, E5.out], by rw [HE4.out]; rfl, ⟨HI3.out, HT3.out.same (by rw [HE4.out]) (by rw [HE4.out]), HLN.out, HUP.out.symm, HWN.out, HB3.out⟩⟩
                case measure => omega
              · have y1 : (r : Int) ≤ 65535 := by omega
                have HE4 : Hid (t4 = { t3 with c := c0 + 1 }) := Lib.hid (by
                  rw [H4.out, Tb.count, if_neg (fun h => HX.out.1 h.1), if_neg (by rw [HLE.out]; decide), if_neg hbig, E4.out.2.1])
                clear hbig
                go_wp2_with fail
                go_roundg (s.size - (k + n))
                case rel => exact ⟨k + n, t4, by omega, by rw [HE4.out, ← E4.out.2.2], by rw [HE4.out, ← E4.out.1], by rw [HE4.out, E5.out], by rw [HE4.out]; rfl, ⟨HI3.out, HT3.out.same (by rw [HE4.out]) (by rw [HE4.out]), HLN.out, HUP.out.symm, HWN.out, HB3.out⟩⟩
                case measure => omega
    · have hk : k = s.size := by omega
      have hnx : ∀ ty, (Instr.next (.pointer (some ⟨it, 0, none⟩)) true ty).run Try.prog wr = .ok (.tuple #[.bool false]) wr := fun ty => Lib.run_next_end_at wr _ s k ty h1 hlt
      have HE := Lib.hid (show t = F by rw [← h4, Tb.run_end hlt])
      rw [hk] at h3
      obtain ⟨t2, ht2⟩ : ∃ t2, t2 = t.start s.size := ⟨_, rfl⟩
      obtain ⟨t3, ht3⟩ : ∃ t3, t3 = t2.fill s.size := ⟨_, rfl⟩
      have HL2 : Hid (t2.Lim s.size) := Lib.hid (by rw [ht2]; exact h3.start)
      have HL3 : Hid (t3.Lim1 s.size) := Lib.hid (by rw [ht3]; exact HL2.out.fill)
      have HTB : Hid (table s = t3.D ++ [t3.ln]) := Lib.hid (by
        rw [table, ← HF.out, ← HE.out, Tb.last, ← ht2, ← ht3])
      have H2 := Lib.hid ht2
      have H3 := Lib.hid ht3
      obtain ⟨f0, hf0⟩ : ∃ f0, f0 = t.f := ⟨_, rfl⟩
      obtain ⟨lb0, hlb0⟩ : ∃ lb0, lb0 = t.lb := ⟨_, rfl⟩
      obtain ⟨cb2, hcb2⟩ : ∃ cb2, cb2 = t.cb := ⟨_, rfl⟩
      obtain ⟨c0, hc0⟩ : ∃ c0, c0 = t.c := ⟨_, rfl⟩
      rw [← hf0, ← hlb0, ← hcb2, ← hc0]
      have E0 := Lib.hid (show f0 = t.f ∧ lb0 = t.lb ∧ cb2 = t.cb ∧ c0 = t.c from ⟨hf0, hlb0, hcb2, hc0⟩)
      have hc0l : c0 ≤ 2 * s.size := by rw [hc0]; exact h3.c
      have hcb2l : cb2 ≤ s.size := by rw [hcb2]; exact h3.cb
      obtain ⟨lb1, hlb1⟩ : ∃ lb1, lb1 = (t.start s.size).lb := ⟨_, rfl⟩
      have E1 := Lib.hid hlb1
      have hlb1l : lb1 ≤ s.size := by rw [hlb1]; exact h3.start.lb
      have ES : Hid ((t.start s.size).c = c0 ∧ (t.start s.size).cb = cb2 ∧ (t.start s.size).f = f0 ∧ (t.start s.size).cols = t.cols ∧ (t.start s.size).D = t.D) := Lib.hid (by
        obtain ⟨e1, e2, e3, e4⟩ := E0.out
        unfold Tb.start
        split <;> exact ⟨e4.symm, e3.symm, e1.symm, rfl, rfl⟩)
      have HT2 : Hid (Tabled w wr B t2 u5 u10) := Lib.hid (by
        rw [ht2]
        obtain ⟨a1, a2, a3⟩ := h2
        exact ⟨a1, by rw [ES.out.2.2.2.1]; exact a2, by rw [ES.out.2.2.2.2]; exact a3⟩)
      have E2 : Hid (t2.lb = lb1 ∧ t2.c = c0) := Lib.hid (by rw [ht2]; exact ⟨E1.out.symm, ES.out.1⟩)
      have E3 : Hid (f0 = t2.f ∧ cb2 = t2.cb) := Lib.hid (by rw [ht2]; exact ⟨ES.out.2.2.1.symm, ES.out.2.1.symm⟩)
      have HB2 := Lib.hid h6
      clear h1 h2 h3 h4 h5 h6 HA hlt ht2 ht3 hf0 hlb0 hcb2 hc0 hlb1 HTT HLM HBW hk
      go_upto_if 91 with fail
      go_cut [7] (fun v wx => v = .int .i64 lb1 ∧ wx = wr)
      case first =>
        by_cases hz : c0 = 0
        · have q0 : ((c0 : Int) == 0) = true := by simp; omega
          have e1 : Hid ((s.size : Int) = lb1) := Lib.hid (by
            have h1 := E1.out
            have h2 := E0.out.2.2.2
            rw [Tb.start, if_pos (by omega)] at h1
            have h3 : lb1 = s.size := h1
            omega)
          clear hz
          go_wp2_with fail
          go_meet
          exact ⟨by rw [e1.out], rfl⟩
        · have q0 : ((c0 : Int) == 0) = false := by simp; omega
          have e1 : Hid (lb0 = lb1) := Lib.hid (by
            have h1 := E1.out
            have h2 := E0.out.2.2.2
            have h4 := E0.out.2.1
            rw [Tb.start, if_neg (by omega)] at h1
            omega)
          clear hz
          go_wp2_with fail
          go_meet
          exact ⟨by rw [e1.out], rfl⟩
      case rest =>
        obtain ⟨rfl, rfl⟩ := hcut
        obtain ⟨W2, hW2⟩ : ∃ W2, W2 = wc := ⟨_, rfl⟩
        subst hW2
        obtain ⟨v5, hv5⟩ : ∃ v5, v5 = u5 := ⟨_, rfl⟩
        subst hv5
        clear hnx
        obtain ⟨J, hJ⟩ : ∃ J, J = s.size - lb1 + 1 - cb2 := ⟨_, rfl⟩
        have HJ := Lib.hid hJ
        clear hJ
        obtain ⟨z2, hz2⟩ : ∃ z2, z2 = t2.cols.isSome := ⟨_, rfl⟩
        have nq : ∀ w, (binOp .neq 98 v5 (.slice none 0 0)).run Try.prog w = .ok (.bool z2) w := by
          intro w
          have hcur := HT2.out.cur
          cases hcols : t2.cols with
          | none =>
            rw [hcols] at hcur hz2
            rw [show v5 = .slice none 0 0 from hcur, hz2]
            exact nn1 w
          | some l =>
            rw [hcols] at hcur hz2
            obtain ⟨⟨kk, cc, hu5, _, _⟩, _⟩ := hcur
            rw [hu5, hz2]
            exact nn2 w _ _ _
        have ng : ∀ w, (eqGuard .neq 98 (.tmp 94) (.const (.slice none 0 0)) v5 (.slice none 0 0)).run Try.prog w = .ok () w := by
          intro w
          have hcur := HT2.out.cur
          cases hcols : t2.cols with
          | none =>
            rw [hcols] at hcur
            rw [show v5 = .slice none 0 0 from hcur]
            rfl
          | some l =>
            rw [hcols] at hcur
            obtain ⟨⟨kk, cc, hu5, _, _⟩, _⟩ := hcur
            rw [hu5]
            rfl
        have HZ2 := Lib.hid hz2
        clear hz2
        go_upto_if 95 with fail
        go_cut [5] (fun v5 wx => Hid (Tabled w wx B t3 v5 u10 ∧ B ≤ wx.heap.size))
        case first =>
          cases z2 with
          | false =>
            have EW : Hid (t3 = t2) := Lib.hid (by
              have := HZ2.out
              cases hcols : t2.cols with
              | none => rw [H3.out, Tb.fill, hcols]
              | some l => rw [hcols] at this; cases this)
            go_wp2_with fail
            go_meet
            exact Lib.hid ⟨by rw [EW.out]; exact HT2.out, HB2.out⟩
          | true =>
            obtain ⟨l, hcols⟩ : ∃ l, t2.cols = some l := by
              have := HZ2.out
              cases hcols : t2.cols with
              | none => rw [hcols] at this; cases this
              | some l => exact ⟨l, rfl⟩
            have HC := Lib.hid hcols
            have EW : Hid (t3 = { t2 with cols := some (l ++ List.replicate J c0), cb := cb2 + J }) := Lib.hid (by
              rw [H3.out, Tb.fill, hcols]
              have e1 := E2.out
              have e2 := E3.out.2
              have e3 := HJ.out
              simp only
              rw [e1.1, ← e2, e1.2, e3]
              congr 1
              omega)
            have hsub : (s.size : Int) - lb1 = ((s.size - lb1 : Nat) : Int) := by omega
            have hw1 : IntKind.i64.wrap ((s.size - lb1 : Nat) : Int) = ((s.size - lb1 : Nat) : Int) := by rw [IntKind.wrap_i64]; omega
            have HLL : Hid (l.length ≤ cb2) := Lib.hid (by have := HL2.out.cols l hcols; rw [E3.out.2]; exact this)
            have HT20 : Hid (Tabled w W2 B { t2 with cols := some (l ++ List.replicate 0 c0), cb := cb2 + 0 } v5 u10) := Lib.hid (by
              have h := HT2.out
              obtain ⟨a1, a2, a3⟩ := h
              exact ⟨a1, by simpa [hcols] using a2, a3⟩)
            obtain ⟨d, hd⟩ : ∃ d, d = s.size - lb1 := ⟨_, rfl⟩
            rw [← hd] at hw1 hsub
            have hdl : d ≤ s.size := by omega
            have hJ : J = d + 1 - cb2 := by rw [hd]; exact HJ.out
            have HJ2 := Lib.hid hJ
            clear hcols nq hd hJ
            go_wp2_with fail
            go_loopg [5, 8] J (fun m v5 v8 wr => ∃ j : Nat, j + m = J ∧ v8 = .int .i64 ((cb2 + j : Nat) : Int) ∧ Aside (Tabled w wr B { t2 with cols := some (l ++ List.replicate j c0), cb := cb2 + j } v5 u10 ∧ B ≤ wr.heap.size))
            case atStart => exact ⟨0, by omega, rfl, ⟨HT20.out, HB2.out⟩⟩
            case round =>
              clear HT20
              obtain ⟨j, hjm, rfl, HR⟩ := hrel
              have HR := Lib.hid HR.out
              by_cases hjJ : j < J
              · have hJ := HJ2.out
                have q1 : ((cb2 + j : Nat) : Int) ≤ (d : Int) := by omega
                have hw3 : IntKind.i64.wrap (((cb2 + j : Nat) : Int) + 1) = ((cb2 + (j + 1) : Nat) : Int) := by rw [IntKind.wrap_i64]; omega
                have hcur := HR.out.1.cur
                obtain ⟨⟨kk, cc, hv5', hkk1, hkk2⟩, hrow⟩ := hcur
                subst hv5'
                have hlen : (l ++ List.replicate j c0).length = l.length + j := by simp
                rw [hlen] at hrow
                rw [hlen]
                have HROW := Lib.hid hrow
                have HLEN := Lib.hid hlen
                have hll : l.length + j ≤ 100000 := by have := HLL.out; omega
                have HLL2 := Lib.hid hll
                clear hrow hlen hJ hll
                obtain ⟨nl, hnl⟩ : ∃ nl, nl = l.length + j := ⟨_, rfl⟩
                rw [← hnl] at HROW HLEN HLL2 ⊢
                have HNL := Lib.hid hnl
                clear hnl
                go_wp2_with (at_builtin; (refine wpList_append_new rfl _ _ 98 rfl B 21 i21 _ 1 4 Try.underlying98 hj hy0 hy1 hy2 rfl (by omega) (.slice (some ⟨kk, 0, none⟩) nl cc) nl (icells (l ++ List.replicate j c0)) rfl HROW.out [.int .i32 c0] rfl rfl (one_int _ _) (by have := HLL2.out; unfold maxLen; omega) (by have := HLL2.out; omega) HR.out.2 ?_))
                intro gg cap w6 hown6 hgr6 hloc6
                have HT6 := Lib.hid (show Tabled w w6 B { t2 with cols := some (l ++ List.replicate (j + 1) c0), cb := cb2 + (j + 1) } (.slice (some ⟨gg, 0, none⟩) (nl + 1) cap) u10 by
                  have h := HR.out.1.col (v' := .slice (some ⟨gg, 0, none⟩) (nl + 1) cap) (l := l ++ List.replicate j c0) (x := c0) (Nat.le_of_eq HB.out.symm) HR.out.2 rfl (k := gg) (c := cap) (by rw [HLEN.out]) (by rw [HLEN.out]; exact hown6) hgr6 hloc6 (cb2 + (j + 1))
                  rw [List.append_assoc, ← List.replicate_succ'] at h
                  exact h)
                have HB6 : Hid (B ≤ w6.heap.size) := Lib.hid (Nat.le_trans HR.out.2 hgr6.size)
                clear hown6 hgr6 hloc6
                go_wp2_with fail
                go_roundg (J - (j + 1))
                case rel => exact ⟨j + 1, by omega, rfl, ⟨HT6.out, HB6.out⟩⟩
                case measure => omega
              · have hJ := HJ2.out
                have q1 : ¬ ((cb2 + j : Nat) : Int) ≤ (d : Int) := by omega
                have hjJ' : j = J := by omega
                subst hjJ'
                clear hjJ hJ
                go_wp2_with fail
                go_meet
                exact Lib.hid ⟨by rw [EW.out]; exact HR.out.1, HR.out.2⟩
        case rest =>
          obtain ⟨hc3, hc5⟩ := hcut.out
          obtain ⟨W3, hW3⟩ : ∃ W3, W3 = wc := ⟨_, rfl⟩
          subst hW3
          have HT3 := Lib.hid hc3
          have HB3 := Lib.hid hc5
          obtain ⟨A5, n5, c5, hu5⟩ := hc3.cur.slice
          subst hu5
          have E4 : Hid (t3.lb = lb1 ∧ t3.f = f0) := Lib.hid (by
            rw [H3.out, Tb.fill]
            split
            · exact ⟨E2.out.1, E3.out.1.symm⟩
            · exact ⟨E2.out.1, E3.out.1.symm⟩)
          have hwl : IntKind.i32.wrap (lb1 : Int) = (lb1 : Int) := by rw [IntKind.wrap_i32]; omega
          have hth := HT3.out.told
          obtain ⟨cs, htold, hne⟩ := hth
          obtain ⟨A10, c10, hu10⟩ := own_slice htold.row
          subst hu10
          have HTO := Lib.hid htold
          have HCU := Lib.hid hc3.cur
          have HLO := Lib.hid hc3.low
          have hDl : t3.D.length ≤ 100000 := by have := HL3.out.D; omega
          obtain ⟨nD, hnD⟩ : ∃ nD, nD = t3.D.length := ⟨_, rfl⟩
          have hrow : Hid (W3.ownsRow B 100 3 (.slice A10 nD c10) nD (tcells t3.D cs)) := Lib.hid (by rw [hnD]; exact htold.row)
          rw [← hnD] at hDl ⊢
          have HND := Lib.hid hnD
          have hone : Hid (∀ u ∈ [Value.slice A5 n5 c5, .int .i32 f0, .int .i32 lb1], u.oneCell' = true) := Lib.hid (by
            intro u hu
            simp only [List.mem_cons, List.not_mem_nil, or_false] at hu
            rcases hu with rfl | rfl | rfl <;> rfl)
          clear hcut hc3 hc5 HT2 HB2 E2 E3 HJ HZ2 nq ng hnD htold hne
          go_wp2_with (at_builtin; (refine wpList_append_new rfl _ _ 79 rfl B 100 i100 _ 3 32 Try.underlying79 hi hz0 hz1 hz2 rfl (by omega) (.slice A10 nD c10) nD (tcells t3.D cs) rfl hrow.out [Value.slice A5 n5 c5, .int .i32 f0, .int .i32 lb1] rfl rfl hone.out (by unfold maxLen; omega) (by omega) HB3.out ?_))
          intro gg cap w6 hown6 hgr6 hloc6
          have HT6 := Lib.hid (show Tabled w w6 B ⟨t3.D ++ [t3.ln], 0, 0, 0, 0, none⟩ (.slice none 0 0) (.slice (some ⟨gg, 0, none⟩) (nD + 1) cap) from Tabled.line (t := t3) HLO.out HCU.out HTO.out (Nat.le_of_eq HB.out.symm) HB3.out (by
            rw [← HND.out, show lcells t3.ln (.slice A5 n5 c5) = [.slice A5 n5 c5, .int .i32 f0, .int .i32 lb1] from by unfold lcells Tb.ln; rw [E4.out.1, E4.out.2]]
            exact hown6) (by rw [show (Value.slice A10 t3.D.length c10).ownBlock = (Value.slice A10 nD c10).ownBlock from by cases A10 <;> rfl]; exact hgr6) rfl rfl)
          clear hown6 hgr6 hloc6
          go_wp2_with fail
          go_returns
          obtain ⟨b1, b2, cs', b3, b4⟩ := HT6.out
          exact ⟨_, cs', rfl, by rw [HTB.out]; exact b3, by rw [HB.out]; exact b1⟩
end Go.Proofs.Ytobhlppdolekoaa.Ch
