/- updateGeneratedLineAndColumn: what was printed since is counted. The walk. -/
import Derived.Test.YtobhlppdolekoaaChE
import Derived.Test.YtobhlppdolekoaaAddB
namespace Go.Proofs.Ytobhlppdolekoaa.Ch
open Go.RowKit Go.Proofs.Ytobhlppdolekoaa.Aid Go.Proofs.Ytobhlppdolekoaa.Bytes Go.Proofs.Ytobhlppdolekoaa.Runes
attribute [local go_sem ↓] Go.wp_at_zero Go.wp_at_succ
set_option linter.unusedVariables false
set_option linter.unusedSimpArgs false
/-- The bytes of a text lie in a block. -/
def Lies (w : World) (b : Nat) (O : ByteArray) : Prop := b < w.heap.size ∧ ∀ i, i < O.size → w.cell? ⟨b, i, none⟩ = some (.int .u8 (byt O i))
theorem conv_tail (w : World) (b c : Nat) (S Z : ByteArray) (h : Lies w b (S ++ Z)) :
    (convert 25 9 (.slice (some ⟨b, S.size, none⟩) Z.size c)).run Try.prog w = .ok (.string Z) w := by
  rw [run_convert_bytes_arg w 25 5 Try.underlying25 Try.underlying5 b S.size Z.size c ((nats Z).map fun n : Nat => (n : Int)) (by rw [List.length_map, nats_length]) (fun i hi => ?_) 9 Try.underlying9]
  · congr 2
    have := str_nats Z
    conv => rhs; rw [← this]
    apply ByteArray.ext
    apply Array.toList_inj.1
    simp [strOfNums, str, List.map_map, Function.comp_def]
  · rw [h.2 (S.size + i) (by rw [ByteArray.size_append]; omega), byt_right]
    have := nats_get Z i hi
    rw [List.getD_eq_getElem?_getD, List.getElem?_map, this]
    rfl
theorem own_iter {w : World} {base : Nat} {e : TypeId} {size n k it : Nat} {v : Value} {xs : List Value} {Z : ByteArray} (h : w.ownsRow base e size v n xs) (hk : w.heap[it]? = some (.stringIter Z k)) : some it ≠ v.ownBlock := by
  rcases h.2 with ⟨rfl, _⟩ | ⟨j, cap, cur, rfl, _, hh, _⟩
  · simp [Value.ownBlock]
  · intro e'
    have : it = j := by simpa [Value.ownBlock] using e'
    subst this
    rw [hk] at hh
    injection hh with hh
    cases hh
theorem Upto.iter {w wr : World} {g B it k k' : Nat} {d : Bd} {a : Ab} {v : Value} {fo : Int} {Z : ByteArray} (h : Upto w wr g B d a v fo) (hk : wr.heap[it]? = some (.stringIter Z k)) (hi : w.heap.size ≤ it) (hg : it ≠ g) : Upto w (wr.iterAt it Z k') g B d a v fo := by
  have gr : wr.grownBy (wr.iterAt it Z k') (some it) := ⟨rfl, rfl, rfl, by rw [Lib.iterAt_size]; exact Nat.le_refl _, fun i _ hne => Lib.iterAt_other wr it i Z k' (fun e => hne (by rw [e]))⟩
  refine ⟨h.cells.grown gr (fun e => hg (by injection e with e; exact e.symm)), h.buf.kept gr (.inr fun e => own_iter h.buf hk e.symm), h.two.fresh gr hi, h.nx⟩
theorem Upto.set {w wr : World} {g B : Nat} {d : Bd} {a a2 : Ab} {v : Value} {fo fo2 : Int} (h : Upto w wr g B d a v fo) (i : Nat) (u : Value) (hc : (d.put a v fo).cells.set i u = (d.put a2 v fo2).cells) (hl : a2.l = a.l) : Upto w (wr.setCell ⟨g, i, none⟩ u) g B d a2 v fo2 := by
  have gr : wr.grownBy (wr.setCell ⟨g, i, none⟩ u) (some g) := only_setCell (World.grownBy.refl _ _) (.inl rfl) _
  refine ⟨by rw [← hc]; exact h.cells.set_ i u, ?_, h.two.trans (Two.of_block gr), h.nx⟩
  rw [Buf, hl]
  exact h.buf.kept gr (.inr fun e => own_ne h.buf h.cells (by decide) e.symm)
theorem iter_set {w : World} {it g i k : Nat} {u : Value} {Z : ByteArray} (h : w.heap[it]? = some (.stringIter Z k)) (hg : it ≠ g) : (w.setCell ⟨g, i, none⟩ u).heap[it]? = some (.stringIter Z k) := (Below.heap_setCell w ⟨g, i, none⟩ u it hg).trans h
theorem Upto.bytes {w wr : World} {g B b : Nat} {d : Bd} {a : Ab} {v : Value} {fo : Int} {O : ByteArray} (h : Upto w wr g B d a v fo) (hl : Lies w b O) (hbg : b ≠ g) (hbv : some b ≠ d.v.ownBlock) : Lies wr b O :=
  ⟨Nat.lt_of_lt_of_le hl.1 h.two.size, fun i hi => (World.cell?_of_block (a := ⟨b, i, none⟩) (h.two.block b hl.1 hbg hbv)).trans (hl.2 i hi)⟩
set_option maxRecDepth 100000 in
set_option maxHeartbeats 8000000 in
theorem update (B g b c : Nat) (d : Bd) (a : Ab) (v : Value) (fo : Int) (S Z : ByteArray) (w : World) (hc : Blk w g 83 (d.put a v fo).cells) (hbuf : Buf w B v a.l) (hB : B ≤ w.heap.size) (n0 : Nat) (hlim : a.Lim n0) (hn0 : n0 + 2 * Z.size < 900000) (hS : S.size ≤ 16384) (hZ : Z.size ≤ 16384)
    (hupd : d.upd = S.size) (hl : Lies w b (S ++ Z)) (hbg : b ≠ g) (hbv : some b ≠ v.ownBlock) (hcap : (S ++ Z).size ≤ c) (hcap2 : c ≤ 9223372036854775807) (hwf : wf Z 0 = true) :
    Calls Try.prog 38 #[.pointer (some ⟨g, 0, none⟩), .slice (some ⟨b, 0, none⟩) (S ++ Z).size c] w fun e w' => e = .returned (.tuple #[]) ∧ ∃ v' fo', Upto w w' g B { d with v := v, upd := ((S ++ Z).size : Nat) } (Ab.upd Z 0 a) v' fo' := by
  have HC := Lib.hid hc
  have HBUF := Lib.hid hbuf
  have HLIM := Lib.hid hlim
  have HL := Lib.hid hl
  have HWF := Lib.hid hwf
  have cu : w.cell? ⟨g, 13, none⟩ = some (.int .i64 (S.size : Nat)) := by rw [← hupd]; exact hc.get 13 rfl
  have HU := Lib.hid hupd
  have hgs : g < w.heap.size := hc.lt
  have hon : (S ++ Z).size = S.size + Z.size := ByteArray.size_append
  have HCV := Lib.hid (fun k => conv_tail w b k S Z hl)
  have HCE := Lib.hid (fun (h0 : Z.size = 0) => run_convert_bytes_arg w 25 5 Try.underlying25 Try.underlying5 b 0 0 0 [] rfl (fun i hi => by omega) 9 Try.underlying9)
  clear hc hbuf hlim hl hwf hupd
  obtain ⟨N, hN⟩ : ∃ N, N = (S ++ Z).size := ⟨_, rfl⟩
  rw [← hN] at hon hcap ⊢
  have HN := Lib.hid hN
  have HON := Lib.hid hon
  clear hN
  go_enter Try.func38, Try.ntmps38
  go_upto_region 0 with fail
  go_cut [14] (fun t wx => t = .pointer (some ⟨w.heap.size, 0, none⟩) ∧ wx = w.alloc (.stringIter Z 0))
  case first =>
    by_cases hcs : c = S.size
    · have h0 : Z.size = 0 := by omega
      have hcv := HCE.out h0
      have hz : strOfNums [] = Z := by
        apply ByteArray.ext
        apply Array.toList_inj.1
        have : Z.data.toList = [] := List.eq_nil_of_length_eq_zero (by rw [Array.length_toList]; exact h0)
        rw [this]
        rfl
      rw [hz] at hcv
      have hle : S.size ≤ N := by omega
      have hncs : ¬ S.size < c := by omega
      have e1 : N - S.size = 0 := by omega
      have e2 : c - S.size = 0 := by omega
      have hcv' : (convert 25 9 (.slice (some ⟨b, 0, none⟩) (N - S.size) (c - S.size))).run Try.prog w = .ok (.string Z) w := by rw [e1, e2]; exact hcv
      clear hon hcs h0 e1 e2 hcv hz
      go_wp2_with fail
      go_meet
      exact ⟨rfl, rfl⟩
    · have hle : S.size ≤ N := by omega
      have hncs : S.size < c := by omega
      have hcv : (convert 25 9 (.slice (some ⟨b, S.size, none⟩) (N - S.size) (c - S.size))).run Try.prog w = .ok (.string Z) w := by
        rw [show N - S.size = Z.size by omega]
        exact HCV.out (c - S.size)
      clear hon hcs
      go_wp2_with fail
      go_meet
      exact ⟨rfl, rfl⟩
  case rest =>
    clear hon
    obtain ⟨rfl, rfl⟩ := hcut
    obtain ⟨F, hF⟩ : ∃ F, F = Ab.upd Z 0 a := ⟨_, rfl⟩
    have HF := Lib.hid hF
    clear hF
    obtain ⟨D, hD⟩ : ∃ D : Bd, D = { d with v := v } := ⟨_, rfl⟩
    have HD := Lib.hid hD
    have h00 : Upto w (w.alloc (.stringIter Z 0)) g B D a v fo := by
      rw [hD]
      have b0 := below_at (Below.refl w.heap.size w) (.stringIter Z 0)
      exact ⟨HC.out.below b0 HC.out.lt, own_keep HBUF.out b0, Two.of_below b0, .inl rfl⟩
    have HDV := Lib.hid (show D.v = v by rw [hD])
    have HUD := Lib.hid (show D.upd = (S.size : Nat) by rw [hD]; exact HU.out)
    have HI0 := Lib.hid (show (w.alloc (.stringIter Z 0)).heap[w.heap.size]? = some (.stringIter Z 0) from World.iter_heap w Z 0)
    clear hD
    obtain ⟨it, hit⟩ : ∃ it, it = w.heap.size := ⟨_, rfl⟩
    have hiw : w.heap.size ≤ it := Nat.le_of_eq hit.symm
    have hig : it ≠ g := by omega
    rw [← hit] at HI0 ⊢
    clear hit
    go_wp2_with fail
    go_loopg [] Z.size (fun m wr => ∃ (k : Nat) (a1 : Ab) (v1 : Value) (fo1 : Int), k + m = Z.size ∧ Aside (wr.heap[it]? = some (.stringIter Z k) ∧ Upto w wr g B D a1 v1 fo1 ∧ a1.Lim (n0 + 2 * k) ∧ Ab.upd Z k a1 = F ∧ wf Z k = true))
    case atStart => exact ⟨0, a, v, fo, by omega, ⟨HI0.out, h00, HLIM.out, HF.out.symm, HWF.out⟩⟩
    case round =>
      clear h00 HI0
      obtain ⟨k, a1, v1, fo1, hkm, HA⟩ := hrel
      obtain ⟨h1, h2, h3, h4, h5⟩ := HA.out
      have HIT := Lib.hid h1
      have HU1 := Lib.hid h2
      have HLM := Lib.hid h3
      have HFF := Lib.hid h4
      have HW1 := Lib.hid h5
      by_cases hlt : k < Z.size
      · have hpos := wf_pos hlt h5
        obtain ⟨r, n, hrn⟩ : ∃ r n, rune Z k = (r, n) := ⟨_, _, rfl⟩
        rw [hrn] at hpos
        obtain ⟨_, hdec, hn4, hkn, hr8, hr, hrb⟩ := rune_pos hrn hpos
        clear hrb
        have hw' := wf_next hlt (by rw [hrn]; exact hpos)
        rw [hrn, h5] at hw'
        have hup := upd_next (a := a1) hlt (by rw [hrn]; exact hpos)
        rw [hrn, h4] at hup
        obtain ⟨wn, hwn⟩ : ∃ wn, wn = wr.iterAt it Z (k + n) := ⟨_, rfl⟩
        have hnx : ∀ ty, (Instr.next (.pointer (some ⟨it, 0, none⟩)) true ty).run Try.prog wr = .ok (.tuple #[.bool true, .int .i64 k, .int .i32 r]) wn := by
          intro ty
          rw [Lib.run_next_any_at wr _ Z k ty h1 hlt, hdec, hwn]
        have HIN : Hid (wn.heap[it]? = some (.stringIter Z (k + n))) := Lib.hid (by rw [hwn]; exact Lib.iterAt_heap wr it Z k (k + n) h1)
        have HUN : Hid (Upto w wn g B D a1 v1 fo1) := Lib.hid (by rw [hwn]; exact h2.iter h1 hiw hig)
        have HWN : Hid (wf Z (k + n) = true) := Lib.hid hw'.symm
        have HUP : Hid (F = Ab.upd Z (k + n) (a1.step Z k (r, n))) := Lib.hid hup
        have HLN : Hid ((a1.step Z k (r, n)).Lim (n0 + 2 * (k + n))) := Lib.hid ((h3.step (by omega) Z k (r, n)).mono (by omega))
        clear h1 h2 h3 h4 h5 hup hw' hwn HA hrn hdec HIT HU1 HFF HW1
        by_cases hcr : r = 13 ∧ k + n < Z.size ∧ byt Z (k + n) = 10
        · obtain ⟨e1, e2, e3⟩ := hcr
          have HS := Lib.hid (show a1.step Z k (r, n) = a1 from if_pos ⟨e1, e2, e3⟩)
          have n1 : n = 1 := by omega
          have q1 : ((r : Int) == 13) = true := by simp; omega
          have c13 : wn.cell? ⟨g, 13, none⟩ = some (.int .i64 D.upd) := HUN.out.cells.get 13 rfl
          rw [HUD.out] at c13
          have cb : wn.cell? ⟨b, S.size + k + 1, none⟩ = some (.int .u8 10) := by
            have := (HUN.out.bytes HL.out hbg (by rw [HDV.out]; exact hbv)).2 (S.size + (k + n)) (by rw [ByteArray.size_append]; omega)
            rw [byt_right, e3] at this
            rw [show S.size + k + 1 = S.size + (k + n) by omega]
            exact this
          have t3 : (S.size : Int) + k + 1 < N := by have := HON.out; omega
          have t4 : S.size + k + 1 < N := by omega
          clear e1 e2 e3 hr8
          go_wp2_with fail
          go_roundg (Z.size - (k + n))
          case rel => exact ⟨k + n, a1, v1, fo1, by omega, ⟨HIN.out, HUN.out, by rw [← HS.out]; exact HLN.out, by rw [← HS.out]; exact HUP.out.symm, HWN.out⟩⟩
          case measure => omega
        · by_cases hle : lineEnd r = true
          · have HS := Lib.hid (show a1.step Z k (r, n) = a1.cover.line from (if_neg hcr).trans (if_pos hle))
            have hr4 : r = 13 ∨ r = 10 ∨ r = 8232 ∨ r = 8233 := by
              unfold lineEnd at hle
              simp only [Bool.or_eq_true, decide_eq_true_eq] at hle
              omega
            have HCR := Lib.hid hcr
            have HR4 := Lib.hid hr4
            clear hle hcr hr4
            go_upto_if 36 with fail
            go_cut [36] (fun t wx => t = .bool true ∧ wx = wn)
            case first =>
              rcases HR4.out with rfl | rfl | rfl | rfl
              all_goals
                go_wp2_with fail
                go_meet
                exact ⟨rfl, rfl⟩
            case rest =>
              obtain ⟨rfl, rfl⟩ := hcut
              go_upto_if 42 with fail
              obtain ⟨W1, hW1⟩ : ∃ W1, W1 = wc := ⟨_, rfl⟩
              subst hW1
              go_cut [] (fun wx => wx = W1)
              case first =>
                by_cases h13 : r = 13
                · have q1 : ((r : Int) == 13) = true := by simp; omega
                  have n1 : n = 1 := by omega
                  have c13 : W1.cell? ⟨g, 13, none⟩ = some (.int .i64 D.upd) := HUN.out.cells.get 13 rfl
                  rw [HUD.out] at c13
                  by_cases hend : k + n < Z.size
                  · have h10 : byt Z (k + n) ≠ 10 := fun e => HCR.out ⟨h13, hend, e⟩
                    obtain ⟨x, hx⟩ : ∃ x, x = byt Z (k + n) := ⟨_, rfl⟩
                    have cb : W1.cell? ⟨b, S.size + k + 1, none⟩ = some (.int .u8 x) := by
                      have := (HUN.out.bytes HL.out hbg (by rw [HDV.out]; exact hbv)).2 (S.size + (k + n)) (by rw [ByteArray.size_append]; omega)
                      rw [byt_right, ← hx] at this
                      rw [show S.size + k + 1 = S.size + (k + n) by omega]
                      exact this
                    have x10 : ((x : Int) == 10) = false := by simp; omega
                    have t3 : (S.size : Int) + k + 1 < N := by have := HON.out; omega
                    have t4 : S.size + k + 1 < N := by omega
                    clear h13 h10 hx hr8
                    go_wp2_with fail
                    go_meet
                    rfl
                  · have t3 : ¬ (S.size : Int) + k + 1 < N := by have := HON.out; omega
                    clear h13 hr8 hend
                    go_wp2_with fail
                    go_meet
                    rfl
                · have q1 : ((r : Int) == 13) = false := by simp; omega
                  clear h13
                  go_wp2_with fail
                  go_meet
                  rfl
              case rest =>
                subst hcut
                have z20 : wc.cell? ⟨g, 20, none⟩ = some (.bool a1.ls) := HUN.out.cells.get 20 rfl
                have z21 : wc.cell? ⟨g, 21, none⟩ = some (.bool true) := HUN.out.cells.get 21 rfl
                have z18 : wc.cell? ⟨g, 18, none⟩ = some (.bool a1.hp) := HUN.out.cells.get 18 rfl
                obtain ⟨y, hy⟩ : ∃ y, a1.ls = y := ⟨_, rfl⟩
                obtain ⟨h, hh⟩ : ∃ h, a1.hp = h := ⟨_, rfl⟩
                rw [hy] at z20
                rw [hh] at z18
                have HY := Lib.hid hy
                have HH := Lib.hid hh
                clear hy hh hr8
                go_upto_region 14 with fail
                obtain ⟨zz, hzz⟩ : ∃ zz, zz = (!y && h) := ⟨_, rfl⟩
                have HZZ := Lib.hid hzz
                clear hzz
                go_cut [77] (fun t wx => t = .bool zz ∧ wx = wc)
                case first =>
                  cases y <;> cases h
                  all_goals
                    have e := HZZ.out
                    simp only [Bool.not_true, Bool.not_false, Bool.false_and, Bool.true_and] at e
                    subst e
                    go_wp2_with fail
                    go_meet
                    exact ⟨rfl, rfl⟩
                case rest =>
                  obtain ⟨rfl, hw⟩ := hcut
                  subst hw
                  obtain ⟨W1, hW1⟩ : ∃ W1, W1 = wc := ⟨_, rfl⟩
                  subst hW1
                  go_upto_if 77 with fail
                  go_cut [] (fun wx => Hid (∃ v2 fo2, wx.heap[it]? = some (.stringIter Z (k + n)) ∧ Upto w wx g B D a1.cover v2 fo2))
                  case first =>
                    cases zz with
                    | false =>
                      have hcv : a1.cover = a1 := if_neg (by
                        rw [HY.out, HH.out]
                        rintro ⟨rfl, rfl⟩
                        exact absurd HZZ.out (by decide))
                      have HCV1 := Lib.hid hcv
                      clear hcv
                      go_wp2_with fail
                      go_meet
                      exact Lib.hid ⟨v1, fo1, HIN.out, by rw [HCV1.out]; exact HUN.out⟩
                    | true =>
                        have hyh : y = false ∧ h = true := by
                          have e := HZZ.out
                          cases y <;> cases h <;> simp at e ⊢
                        have HCV1 := Lib.hid (show a1.cover = a1.seg a1.cov from if_pos ⟨by rw [HY.out, hyh.1], by rw [HH.out, hyh.2]⟩)
                        clear hyh
                        go_upto_region 15 with fail
                        have s0 : W1.drew.cell? ⟨g, 6, none⟩ = some (.int .i64 a1.st.gl) := HUN.out.cells.get 6 rfl
                        have s1 : W1.drew.cell? ⟨g, 8, none⟩ = some (.int .i64 a1.st.src) := HUN.out.cells.get 8 rfl
                        have s2 : W1.drew.cell? ⟨g, 9, none⟩ = some (.int .i64 a1.st.ol) := HUN.out.cells.get 9 rfl
                        have s3 : W1.drew.cell? ⟨g, 10, none⟩ = some (.int .i64 a1.st.oc) := HUN.out.cells.get 10 rfl
                        refine Hoist.start (S := fun _ w' => w'.cell? ⟨g, 6, none⟩ = some (.int .i64 a1.st.gl) ∧ w'.cell? ⟨g, 8, none⟩ = some (.int .i64 a1.st.src) ∧ w'.cell? ⟨g, 9, none⟩ = some (.int .i64 a1.st.ol) ∧ w'.cell? ⟨g, 10, none⟩ = some (.int .i64 a1.st.oc)) (by kernel_rfl) ?_
                        refine Hoist.takeS (i := 0) (v := ?v0) rfl (by kernel_rfl) (by kernel_rfl) (by kernel_rfl) (fun _ _ _ h => h) ⟨by rfl, ?hy0⟩ ⟨s0, s1, s2, s3⟩ ?rest0
                        case hy0 =>
                          intro w' hSw
                          obtain ⟨s0, s1, s2, s3⟩ := hSw
                          go_simp
                          rfl
                        simp only [Act.put, List.setIfInBounds_toArray, List.set_cons_zero, List.set_cons_succ]
                        refine Hoist.takeS (i := 1) (v := ?v1) rfl (by kernel_rfl) (by kernel_rfl) (by kernel_rfl) (fun _ _ _ h => h) ⟨by rfl, ?hy1⟩ ⟨s0, s1, s2, s3⟩ ?rest1
                        case hy1 =>
                          intro w' hSw
                          obtain ⟨s0, s1, s2, s3⟩ := hSw
                          go_simp
                          rfl
                        simp only [Act.put, List.setIfInBounds_toArray, List.set_cons_zero, List.set_cons_succ]
                        refine Hoist.takeS (i := 2) (v := ?v2) rfl (by kernel_rfl) (by kernel_rfl) (by kernel_rfl) (fun _ _ _ h => h) ⟨by rfl, ?hy2⟩ ⟨s0, s1, s2, s3⟩ ?rest2
                        case hy2 =>
                          intro w' hSw
                          obtain ⟨s0, s1, s2, s3⟩ := hSw
                          go_simp
                          rfl
                        simp only [Act.put, List.setIfInBounds_toArray, List.set_cons_zero, List.set_cons_succ]
                        refine Hoist.takeS (i := 3) (v := ?v3) rfl (by kernel_rfl) (by kernel_rfl) (by kernel_rfl) (fun _ _ _ h => h) ⟨by rfl, ?hy3⟩ ⟨s0, s1, s2, s3⟩ ?rest3
                        case hy3 =>
                          intro w' hSw
                          obtain ⟨s0, s1, s2, s3⟩ := hSw
                          go_simp
                          rfl
                        simp only [Act.put, List.setIfInBounds_toArray, List.set_cons_zero, List.set_cons_succ]
                        refine Hoist.takeS (i := 4) (v := ?v4) rfl (by kernel_rfl) (by kernel_rfl) (by kernel_rfl) (fun _ _ _ h => h) ⟨by rfl, ?hy4⟩ ⟨s0, s1, s2, s3⟩ ?rest4
                        case hy4 =>
                          intro w' hSw
                          obtain ⟨s0, s1, s2, s3⟩ := hSw
                          go_simp
                          rfl
                        simp only [Act.put, List.setIfInBounds_toArray, List.set_cons_zero, List.set_cons_succ]
                        refine Hoist.takeS (i := 5) (v := ?v5) rfl (by kernel_rfl) (by kernel_rfl) (by kernel_rfl) (fun _ _ _ h => h) ⟨by rfl, ?hy5⟩ ⟨s0, s1, s2, s3⟩ ?rest5
                        case hy5 =>
                          intro w' hSw
                          obtain ⟨s0, s1, s2, s3⟩ := hSw
                          go_simp
                          rfl
                        simp only [Act.put, List.setIfInBounds_toArray, List.set_cons_zero, List.set_cons_succ]
                        refine Hoist.takeS (i := 6) (v := ?v6) rfl (by kernel_rfl) (by kernel_rfl) (by kernel_rfl) (fun _ _ _ h => h) ⟨by rfl, ?hy6⟩ ⟨s0, s1, s2, s3⟩ ?rest6
                        case hy6 =>
                          intro w' hSw
                          obtain ⟨s0, s1, s2, s3⟩ := hSw
                          go_simp
                          rfl
                        simp only [Act.put, List.setIfInBounds_toArray, List.set_cons_zero, List.set_cons_succ]
                        refine Hoist.takeS (i := 7) (v := ?v7) rfl (by kernel_rfl) (by kernel_rfl) (by kernel_rfl) (fun _ _ _ h => h) ⟨by rfl, ?hy7⟩ ⟨s0, s1, s2, s3⟩ ?rest7
                        case hy7 =>
                          intro w' hSw
                          obtain ⟨s0, s1, s2, s3⟩ := hSw
                          go_simp
                          rfl
                        simp only [Act.put, List.setIfInBounds_toArray, List.set_cons_zero, List.set_cons_succ]
                        refine Hoist.takeS (i := 8) (v := ?v8) rfl (by kernel_rfl) (by kernel_rfl) (by kernel_rfl) (fun _ _ _ h => h) ⟨by rfl, ?hy8⟩ ⟨s0, s1, s2, s3⟩ ?rest8
                        case hy8 =>
                          intro w' hSw
                          obtain ⟨s0, s1, s2, s3⟩ := hSw
                          go_simp
                          rfl
                        simp only [Act.put, List.setIfInBounds_toArray, List.set_cons_zero, List.set_cons_succ]
                        refine Hoist.takeS (i := 9) (v := ?v9) rfl (by kernel_rfl) (by kernel_rfl) (by kernel_rfl) (fun _ _ _ h => h) ⟨by rfl, ?hy9⟩ ⟨s0, s1, s2, s3⟩ ?rest9
                        case hy9 =>
                          intro w' hSw
                          obtain ⟨s0, s1, s2, s3⟩ := hSw
                          go_simp
                          rfl
                        simp only [Act.put, List.setIfInBounds_toArray, List.set_cons_zero, List.set_cons_succ]
                        refine Hoist.takeS (i := 10) (v := ?v10) rfl (by kernel_rfl) (by kernel_rfl) (by kernel_rfl) (fun _ _ _ h => h) ⟨by rfl, ?hy10⟩ ⟨s0, s1, s2, s3⟩ ?rest10
                        case hy10 =>
                          intro w' hSw
                          obtain ⟨s0, s1, s2, s3⟩ := hSw
                          go_simp
                          rfl
                        simp only [Act.put, List.setIfInBounds_toArray, List.set_cons_zero, List.set_cons_succ]
                        refine Hoist.takeS (i := 11) (v := ?v11) rfl (by kernel_rfl) (by kernel_rfl) (by kernel_rfl) (fun _ _ _ h => h) ⟨by rfl, ?hy11⟩ ⟨s0, s1, s2, s3⟩ ?rest11
                        case hy11 =>
                          intro w' hSw
                          obtain ⟨s0, s1, s2, s3⟩ := hSw
                          go_simp
                          rfl
                        simp only [Act.put, List.setIfInBounds_toArray, List.set_cons_zero, List.set_cons_succ]
                        refine Hoist.takeS (i := 12) (v := ?v12) rfl (by kernel_rfl) (by kernel_rfl) (by kernel_rfl) (fun _ _ _ h => h) ⟨by rfl, ?hy12⟩ ⟨s0, s1, s2, s3⟩ ?rest12
                        case hy12 =>
                          intro w' hSw
                          obtain ⟨s0, s1, s2, s3⟩ := hSw
                          go_simp
                          rfl
                        simp only [Act.put, List.setIfInBounds_toArray, List.set_cons_zero, List.set_cons_succ]
                        refine Hoist.takeS (i := 13) (v := ?v13) rfl (by kernel_rfl) (by kernel_rfl) (by kernel_rfl) (fun _ _ _ h => h) ⟨by rfl, ?hy13⟩ ⟨s0, s1, s2, s3⟩ ?rest13
                        case hy13 =>
                          intro w' hSw
                          obtain ⟨s0, s1, s2, s3⟩ := hSw
                          go_simp
                          rfl
                        simp only [Act.put, List.setIfInBounds_toArray, List.set_cons_zero, List.set_cons_succ]
                        refine Hoist.takeS (i := 14) (v := ?v14) rfl (by kernel_rfl) (by kernel_rfl) (by kernel_rfl) (fun _ _ _ h => h) ⟨by rfl, ?hy14⟩ ⟨s0, s1, s2, s3⟩ ?rest14
                        case hy14 =>
                          intro w' hSw
                          obtain ⟨s0, s1, s2, s3⟩ := hSw
                          go_simp
                          rfl
                        simp only [Act.put, List.setIfInBounds_toArray, List.set_cons_zero, List.set_cons_succ]
                        refine Hoist.takeS (i := 15) (v := ?v15) rfl (by kernel_rfl) (by kernel_rfl) (by kernel_rfl) (fun _ _ _ h => h) ⟨by rfl, ?hy15⟩ ⟨s0, s1, s2, s3⟩ ?rest15
                        case hy15 =>
                          intro w' hSw
                          obtain ⟨s0, s1, s2, s3⟩ := hSw
                          go_simp
                          rfl
                        simp only [Act.put, List.setIfInBounds_toArray, List.set_cons_zero, List.set_cons_succ]
                        refine Hoist.takeS (i := 16) (v := ?v16) rfl (by kernel_rfl) (by kernel_rfl) (by kernel_rfl) (fun _ _ _ h => h) ⟨by rfl, ?hy16⟩ ⟨s0, s1, s2, s3⟩ ?rest16
                        case hy16 =>
                          intro w' hSw
                          obtain ⟨s0, s1, s2, s3⟩ := hSw
                          go_simp
                          rfl
                        simp only [Act.put, List.setIfInBounds_toArray, List.set_cons_zero, List.set_cons_succ]
                        refine Hoist.takeS (i := 17) (v := ?v17) rfl (by kernel_rfl) (by kernel_rfl) (by kernel_rfl) (fun _ _ _ h => h) ⟨by rfl, ?hy17⟩ ⟨s0, s1, s2, s3⟩ ?rest17
                        case hy17 =>
                          intro w' hSw
                          obtain ⟨s0, s1, s2, s3⟩ := hSw
                          go_simp
                          rfl
                        simp only [Act.put, List.setIfInBounds_toArray, List.set_cons_zero, List.set_cons_succ]
                        refine Hoist.takeS (i := 18) (v := ?v18) rfl (by kernel_rfl) (by kernel_rfl) (by kernel_rfl) (fun _ _ _ h => h) ⟨by rfl, ?hy18⟩ ⟨s0, s1, s2, s3⟩ ?rest18
                        case hy18 =>
                          intro w' hSw
                          obtain ⟨s0, s1, s2, s3⟩ := hSw
                          go_simp
                          rfl
                        simp only [Act.put, List.setIfInBounds_toArray, List.set_cons_zero, List.set_cons_succ]
                        refine Hoist.takeS (i := 19) (v := ?v19) rfl (by kernel_rfl) (by kernel_rfl) (by kernel_rfl) (fun _ _ _ h => h) ⟨by rfl, ?hy19⟩ ⟨s0, s1, s2, s3⟩ ?rest19
                        case hy19 =>
                          intro w' hSw
                          obtain ⟨s0, s1, s2, s3⟩ := hSw
                          go_simp
                          rfl
                        simp only [Act.put, List.setIfInBounds_toArray, List.set_cons_zero, List.set_cons_succ]
                        refine Hoist.takeS (i := 20) (v := ?v20) rfl (by kernel_rfl) (by kernel_rfl) (by kernel_rfl) (fun _ _ _ h => h) ⟨by rfl, ?hy20⟩ ⟨s0, s1, s2, s3⟩ ?rest20
                        case hy20 =>
                          intro w' hSw
                          obtain ⟨s0, s1, s2, s3⟩ := hSw
                          go_simp
                          rfl
                        simp only [Act.put, List.setIfInBounds_toArray, List.set_cons_zero, List.set_cons_succ]
                        refine Hoist.takeS (i := 21) (v := ?v21) rfl (by kernel_rfl) (by kernel_rfl) (by kernel_rfl) (fun _ _ _ h => h) ⟨by rfl, ?hy21⟩ ⟨s0, s1, s2, s3⟩ ?rest21
                        case hy21 =>
                          intro w' hSw
                          obtain ⟨s0, s1, s2, s3⟩ := hSw
                          go_simp
                          rfl
                        simp only [Act.put, List.setIfInBounds_toArray, List.set_cons_zero, List.set_cons_succ]
                        have hd := below_drewN (Below.refl W1.heap.size W1) 1
                        have HAP := Lib.hid (appendPlain B g (D.put a1 v1 fo1) a1.l a1.cov W1.drew (HUN.out.cells.drew) (own_keep HUN.out.buf hd) (Nat.le_trans hB HUN.out.two.size) (by have := HLM.out.len; omega) HLM.out.byte (HLM.out.small (by omega)) (HLM.out.cov (by omega)))
                        refine Hoist.only (i := 22) rfl (by kernel_rfl) ?_
                        intro K' hK
                        go_simp
                        refine (HAP.out).mono ?_
                        rintro e w2 ⟨rfl, v2, fo2, hst⟩
                        have HST := Lib.hid hst
                        have hit2 : w2.heap[it]? = some (.stringIter Z (k + n)) := by
                          have hi := HIN.out
                          rw [hst.two.block it (Array.getElem?_eq_some_iff.1 hi).1 hig (own_iter HUN.out.buf hi)]
                          exact hi
                        have HIT2 := Lib.hid hit2
                        have HU2 : Hid (Upto w w2 g B D a1.cover v2 fo2) := Lib.hid (by
                          rw [HCV1.out]
                          exact Upto.mapped (wr := W1.drew) ⟨HUN.out.cells.drew, own_keep HUN.out.buf hd, HUN.out.two.trans (Two.of_below hd), HUN.out.nx⟩ hst)
                        have g0 : w2.cell? ⟨g, 6, none⟩ = some (.int .i64 a1.st.gl) := hst.cells.get 6 rfl
                        have g1 : w2.cell? ⟨g, 8, none⟩ = some (.int .i64 a1.st.src) := hst.cells.get 8 rfl
                        have g2 : w2.cell? ⟨g, 9, none⟩ = some (.int .i64 a1.st.ol) := hst.cells.get 9 rfl
                        have g3 : w2.cell? ⟨g, 10, none⟩ = some (.int .i64 a1.st.oc) := hst.cells.get 10 rfl
                        clear hst hit2 hd s0 s1 s2 s3 HAP
                        refine hK _ _ ⟨g0, g1, g2, g3⟩ ?_
                        clear hK K'
                        refine Hoist.over (by kernel_rfl) ?_ _
                        go_wp2_with fail
                        go_meet
                        exact Lib.hid ⟨v2, fo2, HIT2.out, HU2.out⟩
                  case rest =>
                    obtain ⟨v2, fo2, h1, h2⟩ := hcut.out
                    obtain ⟨W2, hW2⟩ : ∃ W2, W2 = wc := ⟨_, rfl⟩
                    subst hW2
                    have HI2 := Lib.hid h1
                    have HU2 := Lib.hid h2
                    obtain ⟨a2, ha2⟩ : ∃ a2, a2 = a1.cover := ⟨_, rfl⟩
                    have HA2 := Lib.hid ha2
                    have HL2 : Hid (a2.Lim (n0 + 2 * k + 1)) := Lib.hid (by rw [ha2]; exact HLM.out.cover (by omega))
                    rw [← ha2] at HU2 h2
                    clear hcut h1 ha2 z20 z21 z18
                    have c6 : W2.cell? ⟨g, 6, none⟩ = some (.int .i64 a2.st.gl) := HU2.out.cells.get 6 rfl
                    have f6 := HU2.out.cells.frozen 6
                    have c7 : W2.cell? ⟨g, 7, none⟩ = some (.int .i64 a2.st.gc) := HU2.out.cells.get 7 rfl
                    have f7 := HU2.out.cells.frozen 7
                    have c14 : W2.cell? ⟨g, 14, none⟩ = some (.int .i64 a2.gcol) := HU2.out.cells.get 14 rfl
                    have f14 := HU2.out.cells.frozen 14
                    have l1 := HL2.out.gl.1
                    have l2 := HL2.out.gl.2
                    have l3 := HL2.out.len
                    obtain ⟨A2, c2, rfl⟩ := own_slice h2.buf
                    clear h2
                    go_upto_region 19 with fail
                    obtain ⟨W3, hW3⟩ : ∃ W3, W3 = ((W2.setCell ⟨g, 6, none⟩ (.int .i64 (a2.st.gl + 1))).setCell ⟨g, 7, none⟩ (.int .i64 0)).setCell ⟨g, 14, none⟩ (.int .i64 0) := ⟨_, rfl⟩
                    have HU3 : Hid (Upto w W3 g B D { a2 with st := { a2.st with gl := a2.st.gl + 1, gc := 0 }, gcol := 0 } (.slice A2 a2.l.length c2) fo2) := Lib.hid (by
                      rw [hW3]
                      have u1 := HU2.out.set (a2 := { a2 with st := { a2.st with gl := a2.st.gl + 1 } }) (fo2 := fo2) 6 (.int .i64 (a2.st.gl + 1)) rfl rfl
                      have u2 := u1.set (a2 := { a2 with st := { a2.st with gl := a2.st.gl + 1, gc := 0 } }) (fo2 := fo2) 7 (.int .i64 0) rfl rfl
                      exact u2.set (a2 := { a2 with st := { a2.st with gl := a2.st.gl + 1, gc := 0 }, gcol := 0 }) (fo2 := fo2) 14 (.int .i64 0) rfl rfl)
                    have HI3 : Hid (W3.heap[it]? = some (.stringIter Z (k + n))) := Lib.hid (by rw [hW3]; exact iter_set (iter_set (iter_set HI2.out hig) hig) hig)
                    rw [← hW3]
                    clear hW3 c6 f6 c7 f7 c14 f14
                    have c1 : W3.cell? ⟨g, 1, none⟩ = some (.slice A2 a2.l.length c2) := HU3.out.cells.get 1 rfl
                    have HB3 := Lib.hid (Nat.le_trans hB HU3.out.two.size)
                    have HBF : Hid (Buf W3 B (.slice A2 a2.l.length c2) a2.l) := Lib.hid HU3.out.buf
                    obtain ⟨i0, hi, hz0, hz1, hz2⟩ := info_parts Wtf.info5
                    go_wp2_with (at_builtin; refine wpList_append_new rfl _ _ 25 rfl B 5 i0 _ 1 1 Try.underlying25 hi hz0 hz1 hz2 rfl (by omega) (.slice A2 a2.l.length c2) a2.l.length (ncells a2.l) rfl HBF.out [.int .u8 59] rfl rfl (one_int _ _) ?c3 ?c4 HB3.out ?_)
                    case c3 => unfold maxLen; omega
                    case c4 => omega
                    intro gg cap W4 hown hgr hnxx
                    have hb4 : Buf W4 B (.slice (some ⟨gg, 0, none⟩) (a2.l.length + 1) cap) (a2.l ++ [59]) := Buf.more hown rfl
                    have k4 := HU3.out.cells.grown hgr (own_ne HBF.out HU3.out.cells (by decide))
                    have HB4 := Lib.hid hb4
                    have HK4 := Lib.hid k4
                    have HI4 : Hid (W4.heap[it]? = some (.stringIter Z (k + n))) := Lib.hid (by
                      rw [hgr.block it (Array.getElem?_eq_some_iff.1 HI3.out).1 (own_iter HBF.out HI3.out)]
                      exact HI3.out)
                    have HT4 : Hid (Two w W4 g D.v.ownBlock) := Lib.hid (HU3.out.two.row (Two.of_row hgr) HU3.out.nx)
                    have HN4 : Hid ((Value.slice (some ⟨gg, 0, none⟩) (a2.l.length + 1) cap).ownBlock = D.v.ownBlock ∨ ∃ k, (Value.slice (some ⟨gg, 0, none⟩) (a2.l.length + 1) cap).ownBlock = some k ∧ w.heap.size ≤ k) := Lib.hid (by
                      rcases hnxx with e | e
                      · have e' : (Value.slice (some ⟨gg, 0, none⟩) (a2.l.length + 1) cap).ownBlock = (Value.slice A2 a2.l.length c2).ownBlock := by rw [e]; rfl
                        rw [e']
                        exact HU3.out.nx
                      · exact .inr ⟨gg, rfl, Nat.le_trans HU3.out.two.size e⟩)
                    have c1' : W4.cell? ⟨g, 1, none⟩ = some (.slice A2 a2.l.length c2) := k4.get 1 rfl
                    have f1' := k4.frozen 1
                    have c20 : W4.cell? ⟨g, 20, none⟩ = some (.bool a2.ls) := k4.get 20 rfl
                    have f20 := k4.frozen 20
                    clear hown hgr hnxx hb4 k4 c1
                    go_wp2_with fail
                    go_roundg (Z.size - (k + n))
                    case rel =>
                      refine ⟨k + n, a2.line, (.slice (some ⟨gg, 0, none⟩) (a2.l.length + 1) cap), fo2, by omega, ⟨iter_set (iter_set HI4.out hig) hig, ?_, ?_, ?_, HWN.out⟩⟩
                      · have gr1 : W4.grownBy ((W4.setCell ⟨g, 1, none⟩ (.slice (some ⟨gg, 0, none⟩) (a2.l.length + 1) cap)).setCell ⟨g, 20, none⟩ (.bool false)) (some g) := only_setCell (p := ⟨g, 20, none⟩) (only_setCell (p := ⟨g, 1, none⟩) (World.grownBy.refl _ _) (.inl rfl) _) (.inl rfl) _
                        exact ⟨(HK4.out.set_ 1 (.slice (some ⟨gg, 0, none⟩) (a2.l.length + 1) cap)).set_ 20 (.bool false), HB4.out.kept gr1 (.inr fun e => own_ne HB4.out HK4.out (by decide) e.symm), HT4.out.trans (Two.of_block gr1), HN4.out⟩
                      · rw [HA2.out, ← HS.out]; exact HLN.out
                      · rw [HA2.out, ← HS.out]; exact HUP.out.symm
                    case measure => omega
          · have q1 : ((r : Int) == 13) = false := by simp; rintro e; exact hle (by rw [show r = 13 by omega]; rfl)
            have q2 : ((r : Int) == 10) = false := by simp; rintro e; exact hle (by rw [show r = 10 by omega]; rfl)
            have q3 : ((r : Int) == 8232) = false := by simp; rintro e; exact hle (by rw [show r = 8232 by omega]; rfl)
            have q4 : ((r : Int) == 8233) = false := by simp; rintro e; exact hle (by rw [show r = 8233 by omega]; rfl)
            have c14 : wn.cell? ⟨g, 14, none⟩ = some (.int .i64 a1.gcol) := HUN.out.cells.get 14 rfl
            have f14 := HUN.out.cells.frozen 14
            have gc1 := HLM.out.gcol.1
            have gc2 := HLM.out.gcol.2
            by_cases hb : 65535 < r
            · have HS := Lib.hid (show a1.step Z k (r, n) = { a1 with gcol := a1.gcol + 2 } from (if_neg hcr).trans ((if_neg hle).trans (if_pos hb)))
              have hb' : ¬ ((r : Int) ≤ 65535) := by omega
              clear hcr hle hb
              go_wp2_with fail
              go_roundg (Z.size - (k + n))
              case rel => exact ⟨k + n, { a1 with gcol := a1.gcol + 2 }, v1, fo1, by omega, ⟨iter_set HIN.out hig, HUN.out.set 14 _ rfl rfl, by rw [← HS.out]; exact HLN.out, by rw [← HS.out]; exact HUP.out.symm, HWN.out⟩⟩
              case measure => omega
            · have HS := Lib.hid (show a1.step Z k (r, n) = { a1 with gcol := a1.gcol + 1 } from (if_neg hcr).trans ((if_neg hle).trans (if_neg hb)))
              have hb' : (r : Int) ≤ 65535 := by omega
              clear hcr hle hb
              go_wp2_with fail
              go_roundg (Z.size - (k + n))
              case rel => exact ⟨k + n, { a1 with gcol := a1.gcol + 1 }, v1, fo1, by omega, ⟨iter_set HIN.out hig, HUN.out.set 14 _ rfl rfl, by rw [← HS.out]; exact HLN.out, by rw [← HS.out]; exact HUP.out.symm, HWN.out⟩⟩
              case measure => omega
      · have hk : k = Z.size := by omega
        have hnx : ∀ ty, (Instr.next (.pointer (some ⟨it, 0, none⟩)) true ty).run Try.prog wr = .ok (.tuple #[.bool false]) wr := fun ty => Lib.run_next_end_at wr _ Z k ty h1 hlt
        have HE := Lib.hid (show a1 = F by rw [← h4, upd_end hlt])
        have c13 : wr.cell? ⟨g, 13, none⟩ = some (.int .i64 D.upd) := h2.cells.get 13 rfl
        have f13 := h2.cells.frozen 13
        clear h1 h2 h3 h4 h5 HA hlt
        go_wp2_with fail
        go_returns
        refine ⟨rfl, v1, fo1, ?_⟩
        have e := HD.out
        subst e
        rw [← HF.out, ← HE.out]
        have gr : wr.grownBy (wr.setCell ⟨g, 13, none⟩ (.int .i64 N)) (some g) := only_setCell (World.grownBy.refl _ _) (.inl rfl) _
        exact ⟨HU1.out.cells.set_ 13 (.int .i64 N), HU1.out.buf.kept gr (.inr fun e => own_ne HU1.out.buf HU1.out.cells (by decide) e.symm), HU1.out.two.trans (Two.of_block gr), HU1.out.nx⟩
end Go.Proofs.Ytobhlppdolekoaa.Ch
