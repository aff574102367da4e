/- The reference Mappings: a text of items is read back. The walk. -/
import Derived.Test.YtobhlppdolekoaaChH
import Derived.Test.YtobhlppdolekoaaChI
import Derived.Test.YtobhlppdolekoaaHoist
namespace Go.Proofs.Ytobhlppdolekoaa.Ch
open Go.RowKit Go.Proofs.Ytobhlppdolekoaa.Aid Go.Proofs.Ytobhlppdolekoaa.Bytes Go.Proofs.Ytobhlppdolekoaa.Runes
attribute [local go_sem ↓] Go.wp_at_zero Go.wp_at_succ
set_option linter.unusedVariables false
set_option linter.unusedSimpArgs false
def zeroS : Sm := ⟨0, 0, 0, 0, 0, 0, false⟩
theorem zeroS_small : zeroS.Small := by constructor <;> simp [zeroS]
def mcells (D : List Mp) : List Value := (D.map Mp.cells).flatten
theorem mcells_length (D : List Mp) : (mcells D).length = D.length * 6 := by
  induction D with
  | nil => rfl
  | cons x xs ih =>
    simp only [mcells, List.map_cons, List.flatten_cons, List.length_append, List.length_cons] at ih ⊢
    rw [ih]
    simp [Mp.cells]
    omega
theorem byt_drop {T : ByteArray} {i x : Nat} {r : List Nat} (h : (nats T).drop i = x :: r) : i < T.size ∧ byt T i = x ∧ (nats T).drop (i + 1) = r := by
  have hl : i < (nats T).length := by
    rcases Nat.lt_or_ge i (nats T).length with h' | h'
    · exact h'
    · rw [List.drop_eq_nil_of_le h'] at h
      cases h
  rw [nats_length] at hl
  rw [drop_next T i hl] at h
  injection h with h1 h2
  exact ⟨hl, h1, h2⟩
theorem drop_nil_of {T : ByteArray} {i : Nat} (h : (nats T).drop i = []) : T.size ≤ i := by
  have := congrArg List.length h
  rw [List.length_drop, nats_length, List.length_nil] at this
  omega
theorem drop_more {T : ByteArray} {i : Nat} {a r : List Nat} (h : (nats T).drop i = a ++ r) : (nats T).drop (i + a.length) = r ∧ i + a.length ≤ T.size ∨ a = [] := by
  cases a with
  | nil => exact .inr rfl
  | cons x xs =>
    left
    have h1 := congrArg List.length h
    rw [List.length_drop, nats_length, List.length_append] at h1
    refine ⟨?_, ?_⟩
    · rw [← List.drop_drop, h, List.drop_append_of_le_length (Nat.le_refl _), List.drop_length, List.nil_append]
    · simp only [List.length_cons] at h1 ⊢; omega
theorem vtext_mem (l : List Int) : ∀ b ∈ vtext l, b ≠ 44 ∧ b ≠ 59 := by
  intro b hb
  simp only [vtext, List.mem_flatten, List.mem_map] at hb
  obtain ⟨y, ⟨n, _, rfl⟩, hy⟩ := hb
  have := vlq_mem n b hy
  omega
theorem info42 : (Try.prog.info? 42).map (fun i => (i.zero, i.size, i.bytes)) = some (some (.agg #[.int .i64 0, .int .i64 0, .int .i64 0, .int .i64 0, .int .i64 0, .int .i64 0]), 6, 48) := by kernel_rfl
theorem info3 : (Try.prog.info? 3).map (fun i => (i.zero, i.size, i.bytes)) = some (some (.int .i64 0), 1, 8) := by kernel_rfl
theorem own_part {w w' : World} {base size n g : Nat} {v : Value} {xs cs : List Value} (h : w.ownsRow base 42 size v n xs) (hb : Blk w g 33 cs) (hg : w.grownBy w' (some g)) : w'.ownsRow base 42 size v n xs :=
  h.kept hg (.inr fun e => own_ne h hb (by decide) e.symm)
theorem mps_len (l : List It) : ∀ st, (mps st l).length ≤ l.length := by
  induction l with
  | nil => intro st; exact Nat.le_refl _
  | cons x xs ih =>
    intro st
    have := ih (x.go st)
    cases x with
    | semi => simp only [mps, It.mp, List.nil_append, List.length_cons]; omega
    | seg k s => simp only [mps, It.mp, List.length_append, List.length_cons, List.length_nil]; omega
theorem itext_len (l : List It) : l.length ≤ (itext l).length := by
  induction l with
  | nil => exact Nat.le_refl _
  | cons x xs ih =>
    have e : itext (x :: xs) = x.text ++ itext xs := rfl
    rw [e, List.length_append, List.length_cons]
    cases x with
    | semi => simp only [It.text, List.length_cons, List.length_nil]; omega
    | seg k s =>
      have hp := enc_pos (signed s.a)
      simp only [It.text, vtext, Sg.nums, vlq, txt, List.map_append, List.map_cons, List.flatten_append, List.flatten_cons, List.length_append, List.length_map]; omega
theorem mcells_snoc (D : List Mp) (m : Mp) : mcells (D ++ [m]) = mcells D ++ m.cells := by simp [mcells]
theorem six_one (a b c d e f : Int) : ∀ u ∈ [Value.int .i64 a, .int .i64 b, .int .i64 c, .int .i64 d, .int .i64 e, .int .i64 f], u.oneCell' = true := by
  intro u hu
  simp only [List.mem_cons, List.not_mem_nil, or_false] at hu
  rcases hu with rfl | rfl | rfl | rfl | rfl | rfl <;> rfl
/-- The reading is under way. -/
structure Rd (w wr : World) (T : ByteArray) (E : Sm) (M : List Mp) (b3 b6 i : Nat) (ov : Value) (R : List It) (st : Sm) (D : List Mp) : Prop where
  text : (nats T).drop i = itext R
  good : Good st R
  sm : st.Small
  fin : endS st R = E
  all : D ++ mps st R = M
  at6 : Blk wr b6 33 st.six
  at3 : Blk wr b3 33 zeroS.six
  out : wr.ownsRow w.heap.size 42 6 ov D.length (mcells D)
  low : Below w.heap.size w wr
set_option maxRecDepth 100000 in
set_option maxHeartbeats 16000000 in
theorem mappings (T : ByteArray) (l : List It) (w : World) (hT : nats T = itext l) (hs : T.size ≤ 100000000) (hg : Good zeroS l) :
    Calls Try.prog 7 #[.string T] w fun e w' => ∃ v, e = .returned (.tuple #[v, .agg (endS zeroS l).six.toArray, .bool true]) ∧ w'.ownsRow w.heap.size 42 6 v (mps zeroS l).length (mcells (mps zeroS l)) ∧ Below w.heap.size w w' := by
  obtain ⟨i0, hi, hz0, hz1, hz2⟩ := info_parts info42
  obtain ⟨i3, hi3, hz30, hz31, hz32⟩ := info_parts info3
  obtain ⟨E, hE⟩ : ∃ E, E = endS zeroS l := ⟨_, rfl⟩
  obtain ⟨M, hM⟩ : ∃ M, M = mps zeroS l := ⟨_, rfl⟩
  rw [← hE, ← hM]
  have HE := Lib.hid hE
  have HM := Lib.hid hM
  have HT := Lib.hid hT
  have HTL := Lib.hid hT
  have HG := Lib.hid hg
  clear hE hM hT hg
  go_enter Try.func7, Try.ntmps7
  go_upto_block 0 with fail
  obtain ⟨W, hW⟩ : ∃ W, W = ((w.alloc (.cells zeroS.six.toArray 33)).alloc (.cells zeroS.six.toArray 33)) := ⟨_, rfl⟩
  have k6 : Blk W (w.heap.size + 1) 33 zeroS.six := by
    have := Blk.new (w.alloc (.cells zeroS.six.toArray 33)) 33 zeroS.six
    rw [show (w.alloc (.cells zeroS.six.toArray 33)).heap.size = w.heap.size + 1 from by simp] at this
    rw [hW]
    exact this
  have k3 : Blk W w.heap.size 33 zeroS.six := by rw [hW]; exact (Blk.new w 33 zeroS.six).alloc _
  have kb : Below w.heap.size w W := by rw [hW]; exact (below_at (Below.refl _ _) _).alloc (by simp) _
  rw [show ((w.alloc (.cells #[.int .i64 0, .int .i64 0, .int .i64 0, .int .i64 0, .int .i64 0, .int .i64 0] 33)).alloc (.cells #[.int .i64 0, .int .i64 0, .int .i64 0, .int .i64 0, .int .i64 0, .int .i64 0] 33)) = W from hW.symm]
  clear hW
  obtain ⟨b3, hb3⟩ : ∃ b3, b3 = w.heap.size := ⟨_, rfl⟩
  obtain ⟨b6, hb6⟩ : ∃ b6, b6 = w.heap.size + 1 := ⟨_, rfl⟩
  have hbb : b3 ≠ b6 := by omega
  have hb3w : w.heap.size ≤ b3 := by omega
  have hb6w : w.heap.size ≤ b6 := by omega
  rw [← hb6] at k6 ⊢
  rw [← hb3] at k3
  have HR0 : Hid (Rd w W T E M b3 b6 0 (.slice none 0 0) l zeroS []) := Lib.hid ⟨by rw [List.drop_zero]; exact HT.out, HG.out, zeroS_small, HE.out.symm, by rw [List.nil_append]; exact HM.out.symm, k6, k3, World.ownsRow_nil _ _ _ _, kb⟩
  rw [show w.heap.size = b3 from hb3.symm]
  clear hb3 hb6 k6 k3 kb HT HG
  go_wp2_with fail
  go_loopg [5, 7] T.size (fun m ov iv wr => ∃ (i : Nat) (R : List It) (st : Sm) (D : List Mp), i + m = T.size ∧ iv = .int .i64 i ∧ Aside (Rd w wr T E M b3 b6 i ov R st D))
  case atStart => exact ⟨0, l, zeroS, [], by omega, rfl, HR0.out⟩
  case round =>
    clear HR0
    obtain ⟨i, R, st, D, him, rfl, HA⟩ := hrel
    have HA := Lib.hid HA.out
    cases R with
    | nil =>
      have hend : i = T.size := by
        have h1 := HA.out.text
        have h2 := drop_nil_of (T := T) (i := i) h1
        omega
      have hge : ¬ (i : Int) < T.size := by omega
      have HST := Lib.hid (show st = E from HA.out.fin)
      have HDM := Lib.hid (show D = M by have := HA.out.all; simpa [mps] using this)
      have HSM : Hid (st.Small) := Lib.hid HA.out.sm
      have s0 : wr.drew.cell? ⟨b6, 0, none⟩ = some (.int .i64 st.gl) := HA.out.at6.get 0 rfl
      have s1 : wr.drew.cell? ⟨b6, 1, none⟩ = some (.int .i64 st.gc) := HA.out.at6.get 1 rfl
      have s2 : wr.drew.cell? ⟨b6, 2, none⟩ = some (.int .i64 st.src) := HA.out.at6.get 2 rfl
      have s3 : wr.drew.cell? ⟨b6, 3, none⟩ = some (.int .i64 st.ol) := HA.out.at6.get 3 rfl
      have s4 : wr.drew.cell? ⟨b6, 4, none⟩ = some (.int .i64 st.oc) := HA.out.at6.get 4 rfl
      have s5 : wr.drew.cell? ⟨b6, 5, none⟩ = some (.int .i64 st.nm) := HA.out.at6.get 5 rfl
      clear hend
      go_upto_region 29 with fail
      refine Hoist.start (S := fun _ w' => w'.cell? ⟨b6, 0, none⟩ = some (.int .i64 st.gl) ∧ w'.cell? ⟨b6, 1, none⟩ = some (.int .i64 st.gc) ∧ w'.cell? ⟨b6, 2, none⟩ = some (.int .i64 st.src) ∧ w'.cell? ⟨b6, 3, none⟩ = some (.int .i64 st.ol) ∧ w'.cell? ⟨b6, 4, none⟩ = some (.int .i64 st.oc) ∧ w'.cell? ⟨b6, 5, none⟩ = some (.int .i64 st.nm)) (by kernel_rfl) ?_
      refine Hoist.takeS (i := 0) (v := ?v0) rfl (by kernel_rfl) (by kernel_rfl) (by kernel_rfl) (fun _ _ _ h => h) ⟨by rfl, ?hy0⟩ ⟨s0, s1, s2, s3, s4, s5⟩ ?rest0
      case hy0 =>
        intro w' hSw
        obtain ⟨s0, s1, s2, s3, s4, s5⟩ := hSw
        go_simp
        rfl
      simp only [Act.put, List.setIfInBounds_toArray, List.set_cons_zero, List.set_cons_succ]
      refine Hoist.takeS (i := 1) (v := ?v1) rfl (by kernel_rfl) (by kernel_rfl) (by kernel_rfl) (fun _ _ _ h => h) ⟨by rfl, ?hy1⟩ ⟨s0, s1, s2, s3, s4, s5⟩ ?rest1
      case hy1 =>
        intro w' hSw
        obtain ⟨s0, s1, s2, s3, s4, s5⟩ := hSw
        go_simp
        rfl
      simp only [Act.put, List.setIfInBounds_toArray, List.set_cons_zero, List.set_cons_succ]
      refine Hoist.takeS (i := 2) (v := ?v2) rfl (by kernel_rfl) (by kernel_rfl) (by kernel_rfl) (fun _ _ _ h => h) ⟨by rfl, ?hy2⟩ ⟨s0, s1, s2, s3, s4, s5⟩ ?rest2
      case hy2 =>
        intro w' hSw
        obtain ⟨s0, s1, s2, s3, s4, s5⟩ := hSw
        go_simp
        rfl
      simp only [Act.put, List.setIfInBounds_toArray, List.set_cons_zero, List.set_cons_succ]
      refine Hoist.only (i := 3) rfl (by kernel_rfl) ?_
      intro K' hK
      go_simp
      refine (mapFits st HSM.out _).mono ?_
      rintro e w2 ⟨rfl, hb2⟩
      have hb2' : Below wr.heap.size wr w2 := (Below.refl wr.heap.size wr).drew.trans hb2
      have k6 := HA.out.at6.below hb2' HA.out.at6.lt
      have k3 := HA.out.at3.below hb2' HA.out.at3.lt
      have HK6 := Lib.hid k6
      have HK3 := Lib.hid k3
      have HO2 : Hid (w2.ownsRow w.heap.size 42 6 u5 D.length (mcells D)) := Lib.hid (own_keep HA.out.out hb2')
      have HB2 : Hid (Below w.heap.size w w2) := Lib.hid (HA.out.low.trans (hb2'.mono HA.out.low.size))
      have s0 : w2.cell? ⟨b6, 0, none⟩ = some (.int .i64 st.gl) := k6.get 0 rfl
      have s1 : w2.cell? ⟨b6, 1, none⟩ = some (.int .i64 st.gc) := k6.get 1 rfl
      have s2 : w2.cell? ⟨b6, 2, none⟩ = some (.int .i64 st.src) := k6.get 2 rfl
      have s3 : w2.cell? ⟨b6, 3, none⟩ = some (.int .i64 st.ol) := k6.get 3 rfl
      have s4 : w2.cell? ⟨b6, 4, none⟩ = some (.int .i64 st.oc) := k6.get 4 rfl
      have s5 : w2.cell? ⟨b6, 5, none⟩ = some (.int .i64 st.nm) := k6.get 5 rfl
      clear hb2 hb2' k6 k3
      refine hK _ _ ⟨s0, s1, s2, s3, s4, s5⟩ ?_
      clear hK K'
      refine Hoist.only (i := 4) rfl (by kernel_rfl) ?_
      intro K' hK
      go_simp
      refine hK _ _ ⟨s0, s1, s2, s3, s4, s5⟩ ?_
      clear hK K'
      have d0 : w2.cell? ⟨b3, 0, none⟩ = some (.int .i64 0) := HK3.out.get 0 rfl
      have d1 : w2.cell? ⟨b3, 1, none⟩ = some (.int .i64 0) := HK3.out.get 1 rfl
      have d2 : w2.cell? ⟨b3, 2, none⟩ = some (.int .i64 0) := HK3.out.get 2 rfl
      have d3 : w2.cell? ⟨b3, 3, none⟩ = some (.int .i64 0) := HK3.out.get 3 rfl
      have d4 : w2.cell? ⟨b3, 4, none⟩ = some (.int .i64 0) := HK3.out.get 4 rfl
      have d5 : w2.cell? ⟨b3, 5, none⟩ = some (.int .i64 0) := HK3.out.get 5 rfl
      have e0 := HK3.out.frozen 0
      have e1 := HK3.out.frozen 1
      have e2 := HK3.out.frozen 2
      have e3 := HK3.out.frozen 3
      have e4 := HK3.out.frozen 4
      have e5 := HK3.out.frozen 5
      refine Hoist.only (i := 5) rfl (by kernel_rfl) ?_
      intro K' hK
      go_simp
      obtain ⟨w3, hw3⟩ : ∃ w3, w3 = (((((w2.setCell ⟨b3, 0, none⟩ (.int .i64 st.gl)).setCell ⟨b3, 1, none⟩ (.int .i64 st.gc)).setCell ⟨b3, 2, none⟩ (.int .i64 st.src)).setCell ⟨b3, 3, none⟩ (.int .i64 st.ol)).setCell ⟨b3, 4, none⟩ (.int .i64 st.oc)).setCell ⟨b3, 5, none⟩ (.int .i64 st.nm) := ⟨_, rfl⟩
      have k3 : Blk w3 b3 33 st.six := by rw [hw3]; exact (((((HK3.out.set_ 0 (.int .i64 st.gl)).set_ 1 (.int .i64 st.gc)).set_ 2 (.int .i64 st.src)).set_ 3 (.int .i64 st.ol)).set_ 4 (.int .i64 st.oc)).set_ 5 (.int .i64 st.nm)
      have gr : w2.grownBy w3 (some b3) := by
        rw [hw3]
        exact only_setCell (p := ⟨b3, 5, none⟩) (only_setCell (p := ⟨b3, 4, none⟩) (only_setCell (p := ⟨b3, 3, none⟩) (only_setCell (p := ⟨b3, 2, none⟩) (only_setCell (p := ⟨b3, 1, none⟩) (only_setCell (p := ⟨b3, 0, none⟩) (World.grownBy.refl _ _) (.inl rfl) _) (.inl rfl) _) (.inl rfl) _) (.inl rfl) _) (.inl rfl) _) (.inl rfl) _
      have k6 := HK6.out.grown gr (by intro e; injection e with e; exact hbb e.symm)
      have HK3' := Lib.hid k3
      have HO3 : Hid (w3.ownsRow w.heap.size 42 6 u5 D.length (mcells D)) := Lib.hid (own_part HO2.out HK3.out gr)
      have HB3 : Hid (Below w.heap.size w w3) := Lib.hid (below_of_only HB2.out HB2.out.size gr (fun g hg => by injection hg with hg; omega))
      rw [← hw3]
      clear hw3 d0 d1 d2 d3 d4 d5 e0 e1 e2 e3 e4 e5 s0 s1 s2 s3 s4 s5
      refine hK _ _ ⟨k6.get 0 rfl, k6.get 1 rfl, k6.get 2 rfl, k6.get 3 rfl, k6.get 4 rfl, k6.get 5 rfl⟩ ?_
      clear hK K'
      refine Hoist.only (i := 6) rfl (by kernel_rfl) ?_
      intro K' hK
      go_simp
      refine hK _ _ ⟨k6.get 0 rfl, k6.get 1 rfl, k6.get 2 rfl, k6.get 3 rfl, k6.get 4 rfl, k6.get 5 rfl⟩ ?_
      clear hK K'
      refine Hoist.over (by kernel_rfl) ?_ _
      have z0 : w3.cell? ⟨b3, 0, none⟩ = some (.int .i64 st.gl) := k3.get 0 rfl
      have z1 : w3.cell? ⟨b3, 1, none⟩ = some (.int .i64 st.gc) := k3.get 1 rfl
      have z2 : w3.cell? ⟨b3, 2, none⟩ = some (.int .i64 st.src) := k3.get 2 rfl
      have z3 : w3.cell? ⟨b3, 3, none⟩ = some (.int .i64 st.ol) := k3.get 3 rfl
      have z4 : w3.cell? ⟨b3, 4, none⟩ = some (.int .i64 st.oc) := k3.get 4 rfl
      have z5 : w3.cell? ⟨b3, 5, none⟩ = some (.int .i64 st.nm) := k3.get 5 rfl
      clear k3 k6 gr
      go_wp2_with fail
      refine bodyPost_ret (v := .tuple #[u5, .agg st.six.toArray, .bool true]) (by simp [results, Try.results7, z0, z1, z2, z3, z4, z5, go_sem]; rfl) rfl ?_
      exact ⟨u5, by rw [HST.out], by rw [← HDM.out]; exact HO3.out, HB3.out⟩
    | cons x xs =>
      cases x with
      | semi =>
        obtain ⟨h1, h2, h3⟩ := byt_drop (T := T) (i := i) (x := 59) (r := itext xs) HA.out.text
        have h4 := byt_eq T i h1
        rw [h2] at h4
        have h5 : (T[i]'h1).toNat = 59 := h4.symm
        have hlt : (i : Int) < T.size := by omega
        have c0 : wr.cell? ⟨b6, 0, none⟩ = some (.int .i64 st.gl) := HA.out.at6.get 0 rfl
        have f0 := HA.out.at6.frozen 0
        have c1 : wr.cell? ⟨b6, 1, none⟩ = some (.int .i64 st.gc) := HA.out.at6.get 1 rfl
        have f1 := HA.out.at6.frozen 1
        obtain ⟨g1, g2, g3, g4⟩ := HA.out.good
        have l1 := g2.gl.1
        have l2 := g2.gl.2
        simp only [It.go] at l1 l2
        have H3 := Lib.hid h3
        have HG4 := Lib.hid g4
        have HG2 := Lib.hid g2
        clear h2 h3 h4 g1 g2 g3 g4
        go_wp2_with fail
        go_roundg (T.size - (i + 1))
        case rel => exact ⟨i + 1, xs, It.go st .semi, D, by omega, rfl, ⟨H3.out, HG4.out, HG2.out, HA.out.fin, HA.out.all, (HA.out.at6.set_ 0 (.int .i64 (st.gl + 1))).set_ 1 (.int .i64 0), (HA.out.at3.far hbb _).far hbb _, own_part HA.out.out HA.out.at6 (only_setCell (p := ⟨b6, 1, none⟩) (only_setCell (p := ⟨b6, 0, none⟩) (World.grownBy.refl _ _) (.inl rfl) _) (.inl rfl) _), (HA.out.low.setCell (p := ⟨b6, 0, none⟩) hb6w _).setCell (p := ⟨b6, 1, none⟩) hb6w _⟩⟩
        case measure => omega
      | seg k s =>
        cases k with
        | true =>
          obtain ⟨h1, h2, h3⟩ := byt_drop (T := T) (i := i) (x := 44) (r := vtext s.nums ++ itext xs) (by rw [HA.out.text]; simp [itext, It.text])
          have h4 := byt_eq T i h1
          rw [h2] at h4
          have h5 : (T[i]'h1).toNat = 44 := h4.symm
          have hlt : (i : Int) < T.size := by omega
          obtain ⟨g1, g2, g3, g4⟩ := HA.out.good
          have H3 := Lib.hid (show (nats T).drop (i + 1) = itext (.seg false s :: xs) by rw [h3]; simp [itext, It.text])
          have HG := Lib.hid (show Good st (.seg false s :: xs) from ⟨g1, g2, g3, g4⟩)
          clear h2 h3 h4 g1 g2 g3 g4
          go_wp2_with fail
          go_roundg (T.size - (i + 1))
          case rel => exact ⟨i + 1, .seg false s :: xs, st, D, by omega, rfl, ⟨H3.out, HG.out, HA.out.sm, HA.out.fin, HA.out.all, HA.out.at6, HA.out.at3, HA.out.out, HA.out.low⟩⟩
          case measure => omega
        | false =>
          obtain ⟨g1, g2, g3, g4⟩ := HA.out.good
          have HG1 : Hid (∀ n ∈ s.nums, -2147483648 < n ∧ n < 2147483648) := Lib.hid g1
          have HG2 := Lib.hid g2
          have HG3 := Lib.hid (g3 rfl)
          have HG4 := Lib.hid g4
          have htx : (nats T).drop i = vtext s.nums ++ itext xs := by rw [HA.out.text]; simp [itext, It.text]
          obtain ⟨x, r, hxr⟩ : ∃ x r, vtext s.nums = x :: r := by
            have hv := (vlq_len (n := s.a) (g1 s.a (by simp [Sg.nums])).1 (g1 s.a (by simp [Sg.nums])).2).1
            cases hq : vlq s.a with
            | nil => rw [hq] at hv; simp at hv
            | cons y ys => exact ⟨y, ys ++ vtext ([s.b, s.c, s.d] ++ s.e.toList), by simp [vtext, Sg.nums, hq]⟩
          have hx : x ≠ 44 ∧ x ≠ 59 := vtext_mem s.nums x (by rw [hxr]; simp)
          obtain ⟨h1, h2, h3⟩ := byt_drop (T := T) (i := i) (x := x) (r := r ++ itext xs) (by rw [htx, hxr]; rfl)
          have h4 := byt_eq T i h1
          rw [h2] at h4
          have h5 : (T[i]'h1).toNat = x := h4.symm
          have q1 : ((x : Int) == 59) = false := by simp; omega
          have q2 : ((x : Int) == 44) = false := by simp; omega
          have hlt : (i : Int) < T.size := by omega
          have HTX := Lib.hid htx
          clear g1 g2 g3 g4 htx hxr hx h2 h3 h4
          obtain ⟨W0, hW0⟩ : ∃ W0, W0 = wr := ⟨_, rfl⟩
          subst hW0
          obtain ⟨k0, hk0⟩ : ∃ k0, k0 = gk := ⟨_, rfl⟩
          subst hk0
          go_wp2_with fail
          go_loopg [7, 8] s.nums.length (fun m iv lv wx => ∃ (j : Nat) (ns ms : List Int), ms.length = m ∧ iv = .int .i64 j ∧ Aside (s.nums = ns ++ ms ∧ i + ns.length ≤ j ∧ j ≤ T.size ∧ (nats T).drop j = vtext ms ++ itext xs ∧ wx.ownsRow W0.heap.size 3 1 lv ns.length (ns.map (Value.int .i64)) ∧ Below W0.heap.size W0 wx))
          case atStart => exact ⟨i, [], s.nums, rfl, rfl, ⟨rfl, by simp, by omega, HTX.out, World.ownsRow_nil _ _ _ _, Below.refl _ _⟩⟩
          case round =>
            obtain ⟨j, ns, ms, hm, rfl, HI⟩ := hrel
            have HI := Lib.hid HI.out
            have hjT := HI.out.2.2.1
            cases ms with
            | nil =>
              have hend : (j = T.size) ∨ ∃ h : j < T.size, (T[j]'h).toNat = 59 ∨ (T[j]'h).toNat = 44 := by
                have htx := HI.out.2.2.2.1
                simp only [vtext, List.map_nil, List.flatten_nil, List.nil_append] at htx
                cases xs with
                | nil =>
                  left
                  have := drop_nil_of (T := T) (i := j) htx
                  omega
                | cons y ys =>
                  right
                  have hf := HG3.out y rfl
                  cases y with
                  | semi =>
                    obtain ⟨a1, a2, _⟩ := byt_drop (T := T) (i := j) (x := 59) (r := itext ys) htx
                    exact ⟨a1, .inl (by rw [← byt_eq T j a1]; exact a2)⟩
                  | seg k s' =>
                    cases k with
                    | false => cases hf
                    | true =>
                      obtain ⟨a1, a2, _⟩ := byt_drop (T := T) (i := j) (x := 44) (r := vtext s'.nums ++ itext ys) (by rw [htx]; simp [itext, It.text])
                      exact ⟨a1, .inr (by rw [← byt_eq T j a1]; exact a2)⟩
              obtain ⟨W1, hW1⟩ : ∃ W1, W1 = wr := ⟨_, rfl⟩
              subst hW1
              go_upto_region 12 with fail
              go_cut [50] (fun t wx => t = .bool false ∧ wx = W1)
              case first =>
                rcases hend with he | ⟨he, h59 | h44⟩
                · have hn : ¬ (j : Int) < T.size := by omega
                  have hn' : ¬ j < T.size := by omega
                  clear he
                  go_wp2_with fail
                  go_meet
                  exact ⟨rfl, rfl⟩
                · have hn : (j : Int) < T.size := by omega
                  go_wp2_with fail
                  go_meet
                  exact ⟨rfl, rfl⟩
                · have hn : (j : Int) < T.size := by omega
                  go_wp2_with fail
                  go_meet
                  exact ⟨rfl, rfl⟩
              case rest =>
                obtain ⟨rfl, rfl⟩ := hcut
                clear hend
                obtain ⟨W1, hW1⟩ : ∃ W1, W1 = wc := ⟨_, rfl⟩
                subst hW1
                have hns : s.nums = ns := by have := HI.out.1; simpa using this
                subst hns
                obtain ⟨A1, c1, hu8, hrow⟩ := own_form HI.out.2.2.2.2.1
                subst hu8
                have hn4 : 4 ≤ s.nums.length ∧ s.nums.length ≤ 5 := by cases he : s.e <;> simp [Sg.nums, he]
                obtain ⟨gA, hgA, hgA1, hgA2, _⟩ := hrow 0 (by omega)
                subst hgA
                have hcell : ∀ k v, s.nums[k]? = some v → W1.cell? ⟨gA, k, none⟩ = some (.int .i64 v) := by
                  intro k v hv
                  have hk : k < s.nums.length := by
                    rcases Nat.lt_or_ge k s.nums.length with h | h
                    · exact h
                    · rw [List.getElem?_eq_none h] at hv; cases hv
                  obtain ⟨g', e1, _, _, e2⟩ := hrow k (by omega)
                  injection e1 with e1
                  injection e1 with e1
                  subst e1
                  rw [e2, List.getElem?_map, hv]; rfl
                have HCE := Lib.hid hcell
                have hbl : Below W0.heap.size W0 W1 := HI.out.2.2.2.2.2
                have HBL := Lib.hid hbl
                have h60 := HA.out.at6.lt
                have K6 := Lib.hid (HA.out.at6.below hbl HA.out.at6.lt)
                have K3 := Lib.hid (HA.out.at3.below hbl HA.out.at3.lt)
                have HO : Hid (W1.ownsRow w.heap.size 42 6 u5 D.length (mcells D)) := Lib.hid (own_keep HA.out.out hbl)
                have HL : Hid (Below w.heap.size w W1) := Lib.hid (HA.out.low.trans (hbl.mono HA.out.low.size))
                have HJ : Hid ((nats T).drop j = itext xs) := Lib.hid (by have := HI.out.2.2.2.1; simpa [vtext] using this)
                have HLT : Hid (j > i) := Lib.hid (by have := HI.out.2.1; omega)
                have hgb : gA ≠ b6 := by omega
                have HGA := Lib.hid hgA2
                have HG6 := Lib.hid hgb
                have hsa : s.nums[0]? = some s.a := rfl
                have hsb : s.nums[1]? = some s.b := rfl
                have hsc : s.nums[2]? = some s.c := rfl
                have hsd : s.nums[3]? = some s.d := rfl
                obtain ⟨n, hn⟩ : ∃ n, n = s.nums.length := ⟨_, rfl⟩
                rw [← hn] at hn4 ⊢
                have HN := Lib.hid hn
                obtain ⟨tt, htt⟩ : ∃ tt, tt = It.go st (.seg false s) := ⟨_, rfl⟩
                rw [← htt] at HG2 HG4
                have HTT := Lib.hid htt
                have l1 := HG2.out.gc.1
                have l2 := HG2.out.gc.2
                have l3 := HG2.out.src.1
                have l4 := HG2.out.src.2
                have l5 := HG2.out.ol.1
                have l6 := HG2.out.ol.2
                have l7 := HG2.out.oc.1
                have l8 := HG2.out.oc.2
                have l9 := HG2.out.nm.1
                have l10 := HG2.out.nm.2
                rw [htt] at l1 l2 l3 l4 l5 l6 l7 l8 l9 l10
                simp only [It.go] at l1 l2 l3 l4 l5 l6 l7 l8 l9 l10
                have n0 : 0 < n := by omega
                have n1 : (1 : Int) < n := by omega
                have n2 : (2 : Int) < n := by omega
                have n3 : (3 : Int) < n := by omega
                have n1' : ((n : Int) == 1) = false := by simp; omega
                have n4' : ¬ (n : Int) < 4 := by omega
                have hwa : IntKind.i64.wrap (st.gc + s.a) = st.gc + s.a := by rw [IntKind.wrap_i64]; omega
                have hwb : IntKind.i64.wrap (st.src + s.b) = st.src + s.b := by rw [IntKind.wrap_i64]; omega
                have hwc : IntKind.i64.wrap (st.ol + s.c) = st.ol + s.c := by rw [IntKind.wrap_i64]; omega
                have hwd : IntKind.i64.wrap (st.oc + s.d) = st.oc + s.d := by rw [IntKind.wrap_i64]; omega
                clear hrow hcell hbl h60 hn htt HI
                go_upto_region 17 with fail
                obtain ⟨S1, hS1⟩ : ∃ S1 : World → Prop, S1 = fun w' => w'.cell? ⟨gA, 0, none⟩ = some (.int .i64 s.a) := ⟨_, rfl⟩
                obtain ⟨SG, hSG⟩ : ∃ SG : World → Prop, SG = fun w' => w'.cell? ⟨b6, 1, none⟩ = some (.int .i64 st.gc) := ⟨_, rfl⟩
                have h1 : S1 W1.drew := by rw [hS1]; exact HCE.out 0 _ hsa
                have hg : SG W1.drew := by rw [hSG]; exact K6.out.get 1 rfl
                have HS1 := Lib.hid hS1
                have HSG := Lib.hid hSG
                clear hS1 hSG
                refine Hoist.start (S := fun L w' => S1 w' ∧ (L.getD 7 true = false → SG w')) (by kernel_rfl) ?_
                refine Hoist.take (i := 0) (T := S1) (G := fun _ => True) (v := ?va0) rfl (by kernel_rfl) (by kernel_rfl) (by kernel_rfl) (fun _ _ _ h => h) (S_si 7 0 (by decide)) (fun _ _ _ _ _ _ => trivial) (fun _ _ _ h => h.1) trivial (Or.inl ⟨by rfl, ?hya0⟩) ⟨h1, fun _ => hg⟩ ?resta0
                case hya0 =>
                  intro w' hSw
                  rw [HS1.out] at hSw
                  go_simp
                  rfl
                simp only [Act.put, List.setIfInBounds_toArray, List.set_cons_zero, List.set_cons_succ]
                refine Hoist.take (i := 1) (T := fun w' => S1 w' ∧ SG w') (G := fun L => L.getD 7 true = false) (v := ?va1) rfl (by kernel_rfl) (by kernel_rfl) (by kernel_rfl) (fun _ _ _ h => h) (S_si 7 1 (by decide)) (Hoist.waits 7 1 (by kernel_rfl)) (fun _ _ hg h => ⟨h.1, h.2 hg⟩) (by kernel_rfl) (Or.inl ⟨by rfl, ?hya1⟩) ⟨h1, fun _ => hg⟩ ?resta1
                case hya1 =>
                  intro w' hSw
                  obtain ⟨hSw, hSG⟩ := hSw
                  rw [HSG.out] at hSG
                  rw [HS1.out] at hSw
                  go_simp
                  rfl
                simp only [Act.put, List.setIfInBounds_toArray, List.set_cons_zero, List.set_cons_succ]
                refine Hoist.take (i := 2) (T := S1) (G := fun _ => True) (v := ?va2) rfl (by kernel_rfl) (by kernel_rfl) (by kernel_rfl) (fun _ _ _ h => h) (S_si 7 2 (by decide)) (fun _ _ _ _ _ _ => trivial) (fun _ _ _ h => h.1) trivial (Or.inl ⟨by rfl, ?hya2⟩) ⟨h1, fun _ => hg⟩ ?resta2
                case hya2 =>
                  intro w' hSw
                  rw [HS1.out] at hSw
                  go_simp
                  rfl
                simp only [Act.put, List.setIfInBounds_toArray, List.set_cons_zero, List.set_cons_succ]
                refine Hoist.take (i := 3) (T := S1) (G := fun _ => True) (v := ?va3) rfl (by kernel_rfl) (by kernel_rfl) (by kernel_rfl) (fun _ _ _ h => h) (S_si 7 3 (by decide)) (fun _ _ _ _ _ _ => trivial) (fun _ _ _ h => h.1) trivial (Or.inl ⟨by rfl, ?hya3⟩) ⟨h1, fun _ => hg⟩ ?resta3
                case hya3 =>
                  intro w' hSw
                  rw [HS1.out] at hSw
                  go_simp
                  rfl
                simp only [Act.put, List.setIfInBounds_toArray, List.set_cons_zero, List.set_cons_succ]
                refine Hoist.take (i := 4) (T := S1) (G := fun _ => True) (v := ?va4) rfl (by kernel_rfl) (by kernel_rfl) (by kernel_rfl) (fun _ _ _ h => h) (S_si 7 4 (by decide)) (fun _ _ _ _ _ _ => trivial) (fun _ _ _ h => h.1) trivial (Or.inl ⟨by rfl, ?hya4⟩) ⟨h1, fun _ => hg⟩ ?resta4
                case hya4 =>
                  intro w' hSw
                  rw [HS1.out] at hSw
                  go_simp
                  rfl
                simp only [Act.put, List.setIfInBounds_toArray, List.set_cons_zero, List.set_cons_succ]
                refine Hoist.take (i := 5) (T := S1) (G := fun _ => True) (v := ?va5) rfl (by kernel_rfl) (by kernel_rfl) (by kernel_rfl) (fun _ _ _ h => h) (S_si 7 5 (by decide)) (fun _ _ _ _ _ _ => trivial) (fun _ _ _ h => h.1) trivial (Or.inl ⟨by rfl, ?hya5⟩) ⟨h1, fun _ => hg⟩ ?resta5
                case hya5 =>
                  intro w' hSw
                  rw [HS1.out] at hSw
                  go_simp
                  rfl
                simp only [Act.put, List.setIfInBounds_toArray, List.set_cons_zero, List.set_cons_succ]
                refine Hoist.only (i := 6) rfl (by kernel_rfl) ?_
                intro K' hK
                go_simp
                refine hK _ _ ⟨h1, fun _ => hg⟩ ?_
                clear hK K'
                have f1 := K6.out.drew.frozen 1
                have z1 := K6.out.drew.get 1 rfl
                refine Hoist.only (i := 7) rfl (by kernel_rfl) ?_
                intro K' hK
                go_simp
                refine hK _ _ ⟨by rw [HS1.out]; exact (World.cell?_of_block (a := ⟨gA, 0, none⟩) (Below.heap_setCell W1.drew ⟨b6, 1, none⟩ _ gA HG6.out)).trans (HCE.out 0 _ hsa), fun hL => absurd hL (by simp)⟩ ?_
                clear hK K' f1 z1 h1 hg
                refine Hoist.over (by kernel_rfl) ?_ _
                clear HS1 HSG SG S1
                obtain ⟨W2, hW2⟩ : ∃ W2, W2 = (W1.setCell ⟨b6, 1, none⟩ (.int .i64 (st.gc + s.a))).drew := ⟨_, rfl⟩
                have gr2 : W1.drew.grownBy W2 (some b6) := by rw [hW2]; exact only_setCell (World.grownBy.refl _ _) (.inl rfl) _
                have K62 := Lib.hid (show Blk W2 b6 33 [.int .i64 st.gl, .int .i64 (st.gc + s.a), .int .i64 st.src, .int .i64 st.ol, .int .i64 st.oc, .int .i64 st.nm] by rw [hW2]; exact K6.out.drew.set_ 1 _)
                have K32 : Hid (Blk W2 b3 33 zeroS.six) := Lib.hid (K3.out.drew.grown gr2 (by intro e; injection e with e; exact hbb e))
                have HO2 : Hid (W2.ownsRow w.heap.size 42 6 u5 D.length (mcells D)) := Lib.hid (own_part (own_keep HO.out (below_drewN (Below.refl _ _) 1)) K6.out.drew gr2)
                have HL2 : Hid (Below w.heap.size w W2) := Lib.hid (below_of_only HL.out.drew HL.out.drew.size gr2 (fun g hg => by injection hg with hg; omega))
                have HCE2 : Hid (∀ k v, s.nums[k]? = some v → W2.cell? ⟨gA, k, none⟩ = some (.int .i64 v)) := Lib.hid (fun k v hv => (World.cell?_of_block (a := ⟨gA, k, none⟩) (gr2.block gA (by simpa using HGA.out) (by intro e; injection e with e; exact HG6.out e))).trans (HCE.out k v hv))
                have HGA2 : Hid (gA < W2.heap.size) := Lib.hid (Nat.lt_of_lt_of_le (by simpa using HGA.out) gr2.size)
                rw [← hW2]
                clear hW2 gr2 K6 K3 HO HL HCE HGA
                go_upto_region 21 with fail
                obtain ⟨S1, hS1⟩ : ∃ S1 : World → Prop, S1 = fun w' => w'.cell? ⟨gA, 1, none⟩ = some (.int .i64 s.b) ∧ w'.cell? ⟨gA, 2, none⟩ = some (.int .i64 s.c) ∧ w'.cell? ⟨gA, 3, none⟩ = some (.int .i64 s.d) := ⟨_, rfl⟩
                obtain ⟨SG, hSG⟩ : ∃ SG : World → Prop, SG = fun w' => w'.cell? ⟨b6, 2, none⟩ = some (.int .i64 st.src) ∧ w'.cell? ⟨b6, 3, none⟩ = some (.int .i64 st.ol) ∧ w'.cell? ⟨b6, 4, none⟩ = some (.int .i64 st.oc) := ⟨_, rfl⟩
                have h1 : S1 W2.drew := by rw [hS1]; exact ⟨HCE2.out 1 _ hsb, HCE2.out 2 _ hsc, HCE2.out 3 _ hsd⟩
                have hg : SG W2.drew := by rw [hSG]; exact ⟨K62.out.get 2 rfl, K62.out.get 3 rfl, K62.out.get 4 rfl⟩
                have HS1 := Lib.hid hS1
                have HSG := Lib.hid hSG
                clear hS1 hSG
                refine Hoist.start (S := fun L w' => S1 w' ∧ (L.getD 19 true = false → SG w')) (by kernel_rfl) ?_
                obtain ⟨MK, hMK⟩ : ∃ MK : ∀ (u : Value) (k : Nat) (X : World), (∀ k v, s.nums[k]? = some v → X.cell? ⟨gA, k, none⟩ = some (.int .i64 v)) → (∀ k' v, s.nums[k']? = some v → (X.setCell ⟨b6, k, none⟩ u).cell? ⟨gA, k', none⟩ = some (.int .i64 v)), True := ⟨fun u k X hX k' v hv => (World.cell?_of_block (a := ⟨gA, k', none⟩) (Below.heap_setCell X ⟨b6, k, none⟩ _ gA HG6.out)).trans (hX k' v hv), trivial⟩
                refine Hoist.take (i := 0) (T := S1) (G := fun _ => True) (v := ?vb0) rfl (by kernel_rfl) (by kernel_rfl) (by kernel_rfl) (fun _ _ _ h => h) (S_si 19 0 (by decide)) (fun _ _ _ _ _ _ => trivial) (fun _ _ _ h => h.1) trivial (Or.inl ⟨by rfl, ?hyb0⟩) ⟨h1, fun _ => hg⟩ ?restb0
                case hyb0 =>
                  intro w' hSw
                  rw [HS1.out] at hSw
                  obtain ⟨y1, y2, y3⟩ := hSw
                  go_simp
                  rfl
                simp only [Act.put, List.setIfInBounds_toArray, List.set_cons_zero, List.set_cons_succ]
                refine Hoist.take (i := 1) (T := fun w' => S1 w' ∧ SG w') (G := fun L => L.getD 19 true = false) (v := ?vb1) rfl (by kernel_rfl) (by kernel_rfl) (by kernel_rfl) (fun _ _ _ h => h) (S_si 19 1 (by decide)) (Hoist.waits 19 1 (by kernel_rfl)) (fun _ _ hg h => ⟨h.1, h.2 hg⟩) (by kernel_rfl) (Or.inl ⟨by rfl, ?hyb1⟩) ⟨h1, fun _ => hg⟩ ?restb1
                case hyb1 =>
                  intro w' hSw
                  obtain ⟨hSw, hSG⟩ := hSw
                  rw [HSG.out] at hSG
                  obtain ⟨x1, x2, x3⟩ := hSG
                  rw [HS1.out] at hSw
                  obtain ⟨y1, y2, y3⟩ := hSw
                  go_simp
                  rfl
                simp only [Act.put, List.setIfInBounds_toArray, List.set_cons_zero, List.set_cons_succ]
                refine Hoist.take (i := 2) (T := S1) (G := fun _ => True) (v := ?vb2) rfl (by kernel_rfl) (by kernel_rfl) (by kernel_rfl) (fun _ _ _ h => h) (S_si 19 2 (by decide)) (fun _ _ _ _ _ _ => trivial) (fun _ _ _ h => h.1) trivial (Or.inl ⟨by rfl, ?hyb2⟩) ⟨h1, fun _ => hg⟩ ?restb2
                case hyb2 =>
                  intro w' hSw
                  rw [HS1.out] at hSw
                  obtain ⟨y1, y2, y3⟩ := hSw
                  go_simp
                  rfl
                simp only [Act.put, List.setIfInBounds_toArray, List.set_cons_zero, List.set_cons_succ]
                refine Hoist.take (i := 3) (T := S1) (G := fun _ => True) (v := ?vb3) rfl (by kernel_rfl) (by kernel_rfl) (by kernel_rfl) (fun _ _ _ h => h) (S_si 19 3 (by decide)) (fun _ _ _ _ _ _ => trivial) (fun _ _ _ h => h.1) trivial (Or.inl ⟨by rfl, ?hyb3⟩) ⟨h1, fun _ => hg⟩ ?restb3
                case hyb3 =>
                  intro w' hSw
                  rw [HS1.out] at hSw
                  obtain ⟨y1, y2, y3⟩ := hSw
                  go_simp
                  rfl
                simp only [Act.put, List.setIfInBounds_toArray, List.set_cons_zero, List.set_cons_succ]
                refine Hoist.take (i := 4) (T := S1) (G := fun _ => True) (v := ?vb4) rfl (by kernel_rfl) (by kernel_rfl) (by kernel_rfl) (fun _ _ _ h => h) (S_si 19 4 (by decide)) (fun _ _ _ _ _ _ => trivial) (fun _ _ _ h => h.1) trivial (Or.inl ⟨by rfl, ?hyb4⟩) ⟨h1, fun _ => hg⟩ ?restb4
                case hyb4 =>
                  intro w' hSw
                  rw [HS1.out] at hSw
                  obtain ⟨y1, y2, y3⟩ := hSw
                  go_simp
                  rfl
                simp only [Act.put, List.setIfInBounds_toArray, List.set_cons_zero, List.set_cons_succ]
                refine Hoist.take (i := 5) (T := S1) (G := fun _ => True) (v := ?vb5) rfl (by kernel_rfl) (by kernel_rfl) (by kernel_rfl) (fun _ _ _ h => h) (S_si 19 5 (by decide)) (fun _ _ _ _ _ _ => trivial) (fun _ _ _ h => h.1) trivial (Or.inl ⟨by rfl, ?hyb5⟩) ⟨h1, fun _ => hg⟩ ?restb5
                case hyb5 =>
                  intro w' hSw
                  rw [HS1.out] at hSw
                  obtain ⟨y1, y2, y3⟩ := hSw
                  go_simp
                  rfl
                simp only [Act.put, List.setIfInBounds_toArray, List.set_cons_zero, List.set_cons_succ]
                refine Hoist.take (i := 6) (T := S1) (G := fun _ => True) (v := ?vb6) rfl (by kernel_rfl) (by kernel_rfl) (by kernel_rfl) (fun _ _ _ h => h) (S_si 19 6 (by decide)) (fun _ _ _ _ _ _ => trivial) (fun _ _ _ h => h.1) trivial (Or.inl ⟨by rfl, ?hyb6⟩) ⟨h1, fun _ => hg⟩ ?restb6
                case hyb6 =>
                  intro w' hSw
                  rw [HS1.out] at hSw
                  obtain ⟨y1, y2, y3⟩ := hSw
                  go_simp
                  rfl
                simp only [Act.put, List.setIfInBounds_toArray, List.set_cons_zero, List.set_cons_succ]
                refine Hoist.take (i := 7) (T := fun w' => S1 w' ∧ SG w') (G := fun L => L.getD 19 true = false) (v := ?vb7) rfl (by kernel_rfl) (by kernel_rfl) (by kernel_rfl) (fun _ _ _ h => h) (S_si 19 7 (by decide)) (Hoist.waits 19 7 (by kernel_rfl)) (fun _ _ hg h => ⟨h.1, h.2 hg⟩) (by kernel_rfl) (Or.inl ⟨by rfl, ?hyb7⟩) ⟨h1, fun _ => hg⟩ ?restb7
                case hyb7 =>
                  intro w' hSw
                  obtain ⟨hSw, hSG⟩ := hSw
                  rw [HSG.out] at hSG
                  obtain ⟨x1, x2, x3⟩ := hSG
                  rw [HS1.out] at hSw
                  obtain ⟨y1, y2, y3⟩ := hSw
                  go_simp
                  rfl
                simp only [Act.put, List.setIfInBounds_toArray, List.set_cons_zero, List.set_cons_succ]
                refine Hoist.take (i := 8) (T := S1) (G := fun _ => True) (v := ?vb8) rfl (by kernel_rfl) (by kernel_rfl) (by kernel_rfl) (fun _ _ _ h => h) (S_si 19 8 (by decide)) (fun _ _ _ _ _ _ => trivial) (fun _ _ _ h => h.1) trivial (Or.inl ⟨by rfl, ?hyb8⟩) ⟨h1, fun _ => hg⟩ ?restb8
                case hyb8 =>
                  intro w' hSw
                  rw [HS1.out] at hSw
                  obtain ⟨y1, y2, y3⟩ := hSw
                  go_simp
                  rfl
                simp only [Act.put, List.setIfInBounds_toArray, List.set_cons_zero, List.set_cons_succ]
                refine Hoist.take (i := 9) (T := S1) (G := fun _ => True) (v := ?vb9) rfl (by kernel_rfl) (by kernel_rfl) (by kernel_rfl) (fun _ _ _ h => h) (S_si 19 9 (by decide)) (fun _ _ _ _ _ _ => trivial) (fun _ _ _ h => h.1) trivial (Or.inl ⟨by rfl, ?hyb9⟩) ⟨h1, fun _ => hg⟩ ?restb9
                case hyb9 =>
                  intro w' hSw
                  rw [HS1.out] at hSw
                  obtain ⟨y1, y2, y3⟩ := hSw
                  go_simp
                  rfl
                simp only [Act.put, List.setIfInBounds_toArray, List.set_cons_zero, List.set_cons_succ]
                refine Hoist.take (i := 10) (T := S1) (G := fun _ => True) (v := ?vb10) rfl (by kernel_rfl) (by kernel_rfl) (by kernel_rfl) (fun _ _ _ h => h) (S_si 19 10 (by decide)) (fun _ _ _ _ _ _ => trivial) (fun _ _ _ h => h.1) trivial (Or.inl ⟨by rfl, ?hyb10⟩) ⟨h1, fun _ => hg⟩ ?restb10
                case hyb10 =>
                  intro w' hSw
                  rw [HS1.out] at hSw
                  obtain ⟨y1, y2, y3⟩ := hSw
                  go_simp
                  rfl
                simp only [Act.put, List.setIfInBounds_toArray, List.set_cons_zero, List.set_cons_succ]
                refine Hoist.take (i := 11) (T := S1) (G := fun _ => True) (v := ?vb11) rfl (by kernel_rfl) (by kernel_rfl) (by kernel_rfl) (fun _ _ _ h => h) (S_si 19 11 (by decide)) (fun _ _ _ _ _ _ => trivial) (fun _ _ _ h => h.1) trivial (Or.inl ⟨by rfl, ?hyb11⟩) ⟨h1, fun _ => hg⟩ ?restb11
                case hyb11 =>
                  intro w' hSw
                  rw [HS1.out] at hSw
                  obtain ⟨y1, y2, y3⟩ := hSw
                  go_simp
                  rfl
                simp only [Act.put, List.setIfInBounds_toArray, List.set_cons_zero, List.set_cons_succ]
                refine Hoist.take (i := 12) (T := S1) (G := fun _ => True) (v := ?vb12) rfl (by kernel_rfl) (by kernel_rfl) (by kernel_rfl) (fun _ _ _ h => h) (S_si 19 12 (by decide)) (fun _ _ _ _ _ _ => trivial) (fun _ _ _ h => h.1) trivial (Or.inl ⟨by rfl, ?hyb12⟩) ⟨h1, fun _ => hg⟩ ?restb12
                case hyb12 =>
                  intro w' hSw
                  rw [HS1.out] at hSw
                  obtain ⟨y1, y2, y3⟩ := hSw
                  go_simp
                  rfl
                simp only [Act.put, List.setIfInBounds_toArray, List.set_cons_zero, List.set_cons_succ]
                refine Hoist.take (i := 13) (T := fun w' => S1 w' ∧ SG w') (G := fun L => L.getD 19 true = false) (v := ?vb13) rfl (by kernel_rfl) (by kernel_rfl) (by kernel_rfl) (fun _ _ _ h => h) (S_si 19 13 (by decide)) (Hoist.waits 19 13 (by kernel_rfl)) (fun _ _ hg h => ⟨h.1, h.2 hg⟩) (by kernel_rfl) (Or.inl ⟨by rfl, ?hyb13⟩) ⟨h1, fun _ => hg⟩ ?restb13
                case hyb13 =>
                  intro w' hSw
                  obtain ⟨hSw, hSG⟩ := hSw
                  rw [HSG.out] at hSG
                  obtain ⟨x1, x2, x3⟩ := hSG
                  rw [HS1.out] at hSw
                  obtain ⟨y1, y2, y3⟩ := hSw
                  go_simp
                  rfl
                simp only [Act.put, List.setIfInBounds_toArray, List.set_cons_zero, List.set_cons_succ]
                refine Hoist.take (i := 14) (T := S1) (G := fun _ => True) (v := ?vb14) rfl (by kernel_rfl) (by kernel_rfl) (by kernel_rfl) (fun _ _ _ h => h) (S_si 19 14 (by decide)) (fun _ _ _ _ _ _ => trivial) (fun _ _ _ h => h.1) trivial (Or.inl ⟨by rfl, ?hyb14⟩) ⟨h1, fun _ => hg⟩ ?restb14
                case hyb14 =>
                  intro w' hSw
                  rw [HS1.out] at hSw
                  obtain ⟨y1, y2, y3⟩ := hSw
                  go_simp
                  rfl
                simp only [Act.put, List.setIfInBounds_toArray, List.set_cons_zero, List.set_cons_succ]
                refine Hoist.take (i := 15) (T := S1) (G := fun _ => True) (v := ?vb15) rfl (by kernel_rfl) (by kernel_rfl) (by kernel_rfl) (fun _ _ _ h => h) (S_si 19 15 (by decide)) (fun _ _ _ _ _ _ => trivial) (fun _ _ _ h => h.1) trivial (Or.inl ⟨by rfl, ?hyb15⟩) ⟨h1, fun _ => hg⟩ ?restb15
                case hyb15 =>
                  intro w' hSw
                  rw [HS1.out] at hSw
                  obtain ⟨y1, y2, y3⟩ := hSw
                  go_simp
                  rfl
                simp only [Act.put, List.setIfInBounds_toArray, List.set_cons_zero, List.set_cons_succ]
                refine Hoist.take (i := 16) (T := S1) (G := fun _ => True) (v := ?vb16) rfl (by kernel_rfl) (by kernel_rfl) (by kernel_rfl) (fun _ _ _ h => h) (S_si 19 16 (by decide)) (fun _ _ _ _ _ _ => trivial) (fun _ _ _ h => h.1) trivial (Or.inl ⟨by rfl, ?hyb16⟩) ⟨h1, fun _ => hg⟩ ?restb16
                case hyb16 =>
                  intro w' hSw
                  rw [HS1.out] at hSw
                  obtain ⟨y1, y2, y3⟩ := hSw
                  go_simp
                  rfl
                simp only [Act.put, List.setIfInBounds_toArray, List.set_cons_zero, List.set_cons_succ]
                refine Hoist.take (i := 17) (T := S1) (G := fun _ => True) (v := ?vb17) rfl (by kernel_rfl) (by kernel_rfl) (by kernel_rfl) (fun _ _ _ h => h) (S_si 19 17 (by decide)) (fun _ _ _ _ _ _ => trivial) (fun _ _ _ h => h.1) trivial (Or.inl ⟨by rfl, ?hyb17⟩) ⟨h1, fun _ => hg⟩ ?restb17
                case hyb17 =>
                  intro w' hSw
                  rw [HS1.out] at hSw
                  obtain ⟨y1, y2, y3⟩ := hSw
                  go_simp
                  rfl
                simp only [Act.put, List.setIfInBounds_toArray, List.set_cons_zero, List.set_cons_succ]
                refine Hoist.only (i := 18) rfl (by kernel_rfl) ?_
                intro K' hK
                go_simp
                refine hK _ _ ⟨h1, fun _ => hg⟩ ?_
                clear hK K'
                have zr2 : W2.drew.cell? ⟨b6, 2, none⟩ = some _ := K62.out.get 2 rfl
                have fr2 : W2.drew.frozen? ⟨b6, 2, none⟩ = false := K62.out.frozen 2
                clear h1 hg
                refine Hoist.only (i := 19) rfl (by kernel_rfl) ?_
                intro K' hK
                go_simp
                obtain ⟨X2, hW2⟩ : ∃ X2, X2 = (W2.setCell ⟨b6, 2, none⟩ (.int .i64 (st.src + s.b))).drew := ⟨_, rfl⟩
                have hX2 : ∀ k v, s.nums[k]? = some v → X2.cell? ⟨gA, k, none⟩ = some (.int .i64 v) := by rw [hW2]; exact MK (.int .i64 (st.src + s.b)) 2 _ HCE2.out
                have kb2 : Blk X2 b6 33 [.int .i64 (st.gl), .int .i64 (st.gc + s.a), .int .i64 (st.src + s.b), .int .i64 (st.ol), .int .i64 (st.oc), .int .i64 (st.nm)] := by rw [hW2]; exact K62.out.set_ 2 (.int .i64 (st.src + s.b))
                have gr2 : W2.drew.grownBy X2 (some b6) := by rw [hW2]; exact only_setCell (a := W2.drew) (p := ⟨b6, 2, none⟩) (World.grownBy.refl _ _) (.inl rfl) _
                rw [← hW2]
                refine hK _ _ ⟨by rw [HS1.out]; exact ⟨hX2 1 _ hsb, hX2 2 _ hsc, hX2 3 _ hsd⟩, fun hL => absurd hL (by simp)⟩ ?_
                clear hK K' fr2 zr2 hW2
                refine Hoist.only (i := 20) rfl (by kernel_rfl) ?_
                intro K' hK
                go_simp
                refine hK _ _ ⟨by rw [HS1.out]; exact ⟨hX2 1 _ hsb, hX2 2 _ hsc, hX2 3 _ hsd⟩, fun hL => absurd hL (by simp)⟩ ?_
                clear hK K'
                have zr3 : X2.cell? ⟨b6, 3, none⟩ = some _ := kb2.get 3 rfl
                have fr3 : X2.frozen? ⟨b6, 3, none⟩ = false := kb2.frozen 3
                skip
                refine Hoist.only (i := 21) rfl (by kernel_rfl) ?_
                intro K' hK
                go_simp
                obtain ⟨X3, hW3⟩ : ∃ X3, X3 = (X2.setCell ⟨b6, 3, none⟩ (.int .i64 (st.ol + s.c))) := ⟨_, rfl⟩
                have hX3 : ∀ k v, s.nums[k]? = some v → X3.cell? ⟨gA, k, none⟩ = some (.int .i64 v) := by rw [hW3]; exact MK (.int .i64 (st.ol + s.c)) 3 _ hX2
                have kb3 : Blk X3 b6 33 [.int .i64 (st.gl), .int .i64 (st.gc + s.a), .int .i64 (st.src + s.b), .int .i64 (st.ol + s.c), .int .i64 (st.oc), .int .i64 (st.nm)] := by rw [hW3]; exact kb2.set_ 3 (.int .i64 (st.ol + s.c))
                have gr3 : X2.grownBy X3 (some b6) := by rw [hW3]; exact only_setCell (a := X2) (p := ⟨b6, 3, none⟩) (World.grownBy.refl _ _) (.inl rfl) _
                rw [← hW3]
                refine hK _ _ ⟨by rw [HS1.out]; exact ⟨hX3 1 _ hsb, hX3 2 _ hsc, hX3 3 _ hsd⟩, fun hL => absurd hL (by simp)⟩ ?_
                clear hK K' fr3 zr3 hW3
                refine Hoist.only (i := 22) rfl (by kernel_rfl) ?_
                intro K' hK
                go_simp
                refine hK _ _ ⟨by rw [HS1.out]; exact ⟨hX3 1 _ hsb, hX3 2 _ hsc, hX3 3 _ hsd⟩, fun hL => absurd hL (by simp)⟩ ?_
                clear hK K'
                have zr4 : X3.cell? ⟨b6, 4, none⟩ = some _ := kb3.get 4 rfl
                have fr4 : X3.frozen? ⟨b6, 4, none⟩ = false := kb3.frozen 4
                skip
                refine Hoist.only (i := 23) rfl (by kernel_rfl) ?_
                intro K' hK
                go_simp
                obtain ⟨X4, hW4⟩ : ∃ X4, X4 = (X3.setCell ⟨b6, 4, none⟩ (.int .i64 (st.oc + s.d))) := ⟨_, rfl⟩
                have hX4 : ∀ k v, s.nums[k]? = some v → X4.cell? ⟨gA, k, none⟩ = some (.int .i64 v) := by rw [hW4]; exact MK (.int .i64 (st.oc + s.d)) 4 _ hX3
                have kb4 : Blk X4 b6 33 [.int .i64 (st.gl), .int .i64 (st.gc + s.a), .int .i64 (st.src + s.b), .int .i64 (st.ol + s.c), .int .i64 (st.oc + s.d), .int .i64 (st.nm)] := by rw [hW4]; exact kb3.set_ 4 (.int .i64 (st.oc + s.d))
                have gr4 : X3.grownBy X4 (some b6) := by rw [hW4]; exact only_setCell (a := X3) (p := ⟨b6, 4, none⟩) (World.grownBy.refl _ _) (.inl rfl) _
                rw [← hW4]
                refine hK _ _ ⟨by rw [HS1.out]; exact ⟨hX4 1 _ hsb, hX4 2 _ hsc, hX4 3 _ hsd⟩, fun hL => absurd hL (by simp)⟩ ?_
                clear hK K' fr4 zr4 hW4
                refine Hoist.over (by kernel_rfl) ?_ _
                clear HS1 HSG S1 SG
                have gr : W2.drew.grownBy X4 (some b6) := gr2.trans (gr3.trans gr4)
                have K64 := Lib.hid kb4
                have K34 : Hid (Blk X4 b3 33 zeroS.six) := Lib.hid (K32.out.drew.grown gr (by intro e; injection e with e; exact hbb e))
                have HO4 : Hid (X4.ownsRow w.heap.size 42 6 u5 D.length (mcells D)) := Lib.hid (own_part (own_keep HO2.out (below_drewN (Below.refl _ _) 1)) K62.out.drew gr)
                have HL4 : Hid (Below w.heap.size w X4) := Lib.hid (below_of_only HL2.out.drew HL2.out.drew.size gr (fun g hg => by injection hg with hg; omega))
                have HCE4 := Lib.hid hX4
                have HDL : Hid (D.length ≤ 100000000) := Lib.hid (by
                  have e1 := congrArg List.length HA.out.all
                  have e2 : M.length ≤ l.length := by rw [HM.out]; exact mps_len l zeroS
                  have e3 := itext_len l
                  have e4 : (itext l).length = T.size := by rw [← HTL.out, nats_length]
                  rw [List.length_append] at e1
                  omega)
                have HWS : Hid (w.heap.size ≤ X4.heap.size) := Lib.hid HL4.out.size
                clear gr gr2 gr3 gr4 hX2 hX3 hX4 kb2 kb3 kb4 MK hMK K62 K32 HO2 HL2 HCE2 HGA2
                go_upto_if 108 with fail
                go_cut [12] (fun t wx => Hid (t = .int .i64 (mpOf tt s.e.isSome).name ∧ Blk wx b6 33 tt.six ∧ Blk wx b3 33 zeroS.six ∧ wx.ownsRow w.heap.size 42 6 u5 D.length (mcells D) ∧ Below w.heap.size w wx))
                case first =>
                  cases he : s.e with
                  | none =>
                    have n5 : ((n : Int) == 5) = false := by have := HN.out; simp [Sg.nums, he] at this; simp; omega
                    have HHE := Lib.hid he
                    clear he
                    go_wp2_with fail
                    go_meet
                    exact Lib.hid ⟨by simp [mpOf, HHE.out], by rw [show tt.six = [.int .i64 st.gl, .int .i64 (st.gc + s.a), .int .i64 (st.src + s.b), .int .i64 (st.ol + s.c), .int .i64 (st.oc + s.d), .int .i64 st.nm] from by rw [HTT.out]; simp [Sm.six, It.go, HHE.out]]; exact K64.out, K34.out, HO4.out, HL4.out⟩
                  | some e5 =>
                    have n5 : n = 5 := by have := HN.out; simp [Sg.nums, he] at this; exact this
                    have n4 : (4 : Int) < n := by omega
                    have n5' : ((n : Int) == 5) = true := by simp; omega
                    have hse : s.nums[4]? = some e5 := by simp [Sg.nums, he]
                    rw [he] at l9 l10
                    simp only [Option.getD_some] at l9 l10
                    have hwe : IntKind.i64.wrap (st.nm + e5) = st.nm + e5 := by rw [IntKind.wrap_i64]; omega
                    have HHE := Lib.hid he
                    clear he n5
                    go_upto_region 24 with fail
                    obtain ⟨S1, hS1⟩ : ∃ S1 : World → Prop, S1 = fun w' => w'.cell? ⟨gA, 4, none⟩ = some (.int .i64 e5) := ⟨_, rfl⟩
                    obtain ⟨SG, hSG⟩ : ∃ SG : World → Prop, SG = fun w' => w'.cell? ⟨b6, 5, none⟩ = some (.int .i64 st.nm) := ⟨_, rfl⟩
                    have h1 : S1 X4.drew := by rw [hS1]; exact HCE4.out 4 _ hse
                    have hg : SG X4.drew := by rw [hSG]; exact K64.out.get 5 rfl
                    have HS1 := Lib.hid hS1
                    have HSG := Lib.hid hSG
                    clear hS1 hSG
                    refine Hoist.start (S := fun L w' => S1 w' ∧ (L.getD 7 true = false → SG w')) (by kernel_rfl) ?_
                    refine Hoist.take (i := 0) (T := S1) (G := fun _ => True) (v := ?vc0) rfl (by kernel_rfl) (by kernel_rfl) (by kernel_rfl) (fun _ _ _ h => h) (S_si 7 0 (by decide)) (fun _ _ _ _ _ _ => trivial) (fun _ _ _ h => h.1) trivial (Or.inl ⟨by rfl, ?hyc0⟩) ⟨h1, fun _ => hg⟩ ?restc0
                    case hyc0 =>
                      intro w' hSw
                      rw [HS1.out] at hSw
                      go_simp
                      rfl
                    simp only [Act.put, List.setIfInBounds_toArray, List.set_cons_zero, List.set_cons_succ]
                    refine Hoist.take (i := 1) (T := fun w' => S1 w' ∧ SG w') (G := fun L => L.getD 7 true = false) (v := ?vc1) rfl (by kernel_rfl) (by kernel_rfl) (by kernel_rfl) (fun _ _ _ h => h) (S_si 7 1 (by decide)) (Hoist.waits 7 1 (by kernel_rfl)) (fun _ _ hg h => ⟨h.1, h.2 hg⟩) (by kernel_rfl) (Or.inl ⟨by rfl, ?hyc1⟩) ⟨h1, fun _ => hg⟩ ?restc1
                    case hyc1 =>
                      intro w' hSw
                      obtain ⟨hSw, hSG⟩ := hSw
                      rw [HSG.out] at hSG
                      rw [HS1.out] at hSw
                      go_simp
                      rfl
                    simp only [Act.put, List.setIfInBounds_toArray, List.set_cons_zero, List.set_cons_succ]
                    refine Hoist.take (i := 2) (T := S1) (G := fun _ => True) (v := ?vc2) rfl (by kernel_rfl) (by kernel_rfl) (by kernel_rfl) (fun _ _ _ h => h) (S_si 7 2 (by decide)) (fun _ _ _ _ _ _ => trivial) (fun _ _ _ h => h.1) trivial (Or.inl ⟨by rfl, ?hyc2⟩) ⟨h1, fun _ => hg⟩ ?restc2
                    case hyc2 =>
                      intro w' hSw
                      rw [HS1.out] at hSw
                      go_simp
                      rfl
                    simp only [Act.put, List.setIfInBounds_toArray, List.set_cons_zero, List.set_cons_succ]
                    refine Hoist.take (i := 3) (T := S1) (G := fun _ => True) (v := ?vc3) rfl (by kernel_rfl) (by kernel_rfl) (by kernel_rfl) (fun _ _ _ h => h) (S_si 7 3 (by decide)) (fun _ _ _ _ _ _ => trivial) (fun _ _ _ h => h.1) trivial (Or.inl ⟨by rfl, ?hyc3⟩) ⟨h1, fun _ => hg⟩ ?restc3
                    case hyc3 =>
                      intro w' hSw
                      rw [HS1.out] at hSw
                      go_simp
                      rfl
                    simp only [Act.put, List.setIfInBounds_toArray, List.set_cons_zero, List.set_cons_succ]
                    refine Hoist.take (i := 4) (T := S1) (G := fun _ => True) (v := ?vc4) rfl (by kernel_rfl) (by kernel_rfl) (by kernel_rfl) (fun _ _ _ h => h) (S_si 7 4 (by decide)) (fun _ _ _ _ _ _ => trivial) (fun _ _ _ h => h.1) trivial (Or.inl ⟨by rfl, ?hyc4⟩) ⟨h1, fun _ => hg⟩ ?restc4
                    case hyc4 =>
                      intro w' hSw
                      rw [HS1.out] at hSw
                      go_simp
                      rfl
                    simp only [Act.put, List.setIfInBounds_toArray, List.set_cons_zero, List.set_cons_succ]
                    refine Hoist.take (i := 5) (T := S1) (G := fun _ => True) (v := ?vc5) rfl (by kernel_rfl) (by kernel_rfl) (by kernel_rfl) (fun _ _ _ h => h) (S_si 7 5 (by decide)) (fun _ _ _ _ _ _ => trivial) (fun _ _ _ h => h.1) trivial (Or.inl ⟨by rfl, ?hyc5⟩) ⟨h1, fun _ => hg⟩ ?restc5
                    case hyc5 =>
                      intro w' hSw
                      rw [HS1.out] at hSw
                      go_simp
                      rfl
                    simp only [Act.put, List.setIfInBounds_toArray, List.set_cons_zero, List.set_cons_succ]
                    refine Hoist.only (i := 6) rfl (by kernel_rfl) ?_
                    intro K' hK
                    go_simp
                    refine hK _ _ ⟨h1, fun _ => hg⟩ ?_
                    clear hK K'
                    have f1 := K64.out.drew.frozen 5
                    have z1 := K64.out.drew.get 5 rfl
                    refine Hoist.only (i := 7) rfl (by kernel_rfl) ?_
                    intro K' hK
                    go_simp
                    refine hK _ _ ⟨by rw [HS1.out]; exact (World.cell?_of_block (a := ⟨gA, 4, none⟩) (Below.heap_setCell X4.drew ⟨b6, 5, none⟩ _ gA HG6.out)).trans (HCE4.out 4 _ hse), fun hL => absurd hL (by simp)⟩ ?_
                    clear hK K' f1 z1 h1 hg
                    refine Hoist.over (by kernel_rfl) ?_ _
                    clear HS1 HSG SG S1
                    obtain ⟨X5, hX5⟩ : ∃ X5, X5 = (X4.setCell ⟨b6, 5, none⟩ (.int .i64 (st.nm + e5))).drew := ⟨_, rfl⟩
                    have gr5 : X4.drew.grownBy X5 (some b6) := by rw [hX5]; exact only_setCell (a := X4.drew) (p := ⟨b6, 5, none⟩) (World.grownBy.refl _ _) (.inl rfl) _
                    have k6 : Blk X5 b6 33 tt.six := by rw [show tt.six = [.int .i64 st.gl, .int .i64 (st.gc + s.a), .int .i64 (st.src + s.b), .int .i64 (st.ol + s.c), .int .i64 (st.oc + s.d), .int .i64 (st.nm + e5)] from by rw [HTT.out]; simp [Sm.six, It.go, HHE.out]]; rw [hX5]; exact K64.out.set_ 5 _
                    have k3 : Blk X5 b3 33 zeroS.six := K34.out.drew.grown gr5 (by intro e; injection e with e; exact hbb e)
                    have ho : X5.ownsRow w.heap.size 42 6 u5 D.length (mcells D) := own_part (own_keep HO4.out (below_drewN (Below.refl _ _) 1)) K64.out.drew gr5
                    have hl : Below w.heap.size w X5 := below_of_only HL4.out.drew HL4.out.drew.size gr5 (fun g hg => by injection hg with hg; omega)
                    have c5 : X5.cell? ⟨b6, 5, none⟩ = some (.int .i64 tt.nm) := k6.get 5 rfl
                    have HFIN : Hid (tt.nm = st.nm + e5 ∧ Blk X5 b6 33 tt.six ∧ Blk X5 b3 33 zeroS.six ∧ X5.ownsRow w.heap.size 42 6 u5 D.length (mcells D) ∧ Below w.heap.size w X5) := Lib.hid ⟨by rw [HTT.out]; simp [It.go, HHE.out], k6, k3, ho, hl⟩
                    rw [← hX5]
                    clear hX5 gr5 k6 k3 ho hl
                    go_wp2_with fail
                    go_meet
                    exact Lib.hid ⟨by simp [mpOf, HHE.out], HFIN.out.2.1, HFIN.out.2.2.1, HFIN.out.2.2.2.1, HFIN.out.2.2.2.2⟩
                case rest =>
                  have ht12 := hcut.out.1
                  subst ht12
                  have K6 := Lib.hid hcut.out.2.1
                  have K3 := Lib.hid hcut.out.2.2.1
                  have HO := Lib.hid hcut.out.2.2.2.1
                  have HL := Lib.hid hcut.out.2.2.2.2
                  obtain ⟨W5, hW5⟩ : ∃ W5, W5 = wc := ⟨_, rfl⟩
                  subst hW5
                  have s0 : W5.cell? ⟨b6, 0, none⟩ = some (.int .i64 tt.gl) := K6.out.get 0 rfl
                  have s1 : W5.cell? ⟨b6, 1, none⟩ = some (.int .i64 tt.gc) := K6.out.get 1 rfl
                  have s2 : W5.cell? ⟨b6, 2, none⟩ = some (.int .i64 tt.src) := K6.out.get 2 rfl
                  have s3 : W5.cell? ⟨b6, 3, none⟩ = some (.int .i64 tt.ol) := K6.out.get 3 rfl
                  have s4 : W5.cell? ⟨b6, 4, none⟩ = some (.int .i64 tt.oc) := K6.out.get 4 rfl
                  have s5 : W5.cell? ⟨b6, 5, none⟩ = some (.int .i64 tt.nm) := K6.out.get 5 rfl
                  clear K64 K34 HO4 HL4 HCE4 hcut HWS
                  go_upto_region 26 with fail
                  go_wp2_with fail
                  refine (mapFits tt HG2.out _).mono ?_
                  rintro e w6 ⟨rfl, hb6'⟩
                  have k6 := K6.out.below hb6' K6.out.lt
                  have HK6 := Lib.hid k6
                  have HK3 := Lib.hid (K3.out.below hb6' K3.out.lt)
                  have HO6 : Hid (w6.ownsRow w.heap.size 42 6 u5 D.length (mcells D)) := Lib.hid (own_keep HO.out hb6')
                  have HL6 : Hid (Below w.heap.size w w6) := Lib.hid (HL.out.trans (hb6'.mono HL.out.size))
                  clear s0 s1 s2 s3 s4 s5 hb6' K6 K3 HO HL
                  have s0 : w6.cell? ⟨b6, 0, none⟩ = some (.int .i64 tt.gl) := k6.get 0 rfl
                  have s1 : w6.cell? ⟨b6, 1, none⟩ = some (.int .i64 tt.gc) := k6.get 1 rfl
                  have s2 : w6.cell? ⟨b6, 2, none⟩ = some (.int .i64 tt.src) := k6.get 2 rfl
                  have s3 : w6.cell? ⟨b6, 3, none⟩ = some (.int .i64 tt.ol) := k6.get 3 rfl
                  have s4 : w6.cell? ⟨b6, 4, none⟩ = some (.int .i64 tt.oc) := k6.get 4 rfl
                  clear k6
                  obtain ⟨A5, c5, hu5⟩ := own_slice HO6.out
                  subst hu5
                  obtain ⟨nm, hnm⟩ : ∃ x, x = (mpOf tt s.e.isSome).name := ⟨_, rfl⟩
                  rw [← hnm]
                  have HNM := Lib.hid hnm
                  clear hnm
                  go_wp2_with (at_builtin; refine wpList_append_new rfl _ _ 31 rfl w.heap.size 42 i0 _ 6 48 Try.underlying31 hi hz0 hz1 hz2 rfl (by omega) (.slice A5 D.length c5) D.length (mcells D) rfl HO6.out [.int .i64 tt.gl, .int .i64 tt.gc, .int .i64 tt.src, .int .i64 tt.ol, .int .i64 tt.oc, .int .i64 nm] rfl rfl (six_one _ _ _ _ _ _) ?d3 ?d4 HL6.out.size ?_)
                  case d3 => have := HDL.out; unfold maxLen; omega
                  case d4 => have := HDL.out; omega
                  intro gg cap w7 hown hgr hnxx
                  have HO7 := Lib.hid hown
                  have HK67 := Lib.hid (HK6.out.grown hgr (own_ne HO6.out HK6.out (by decide)))
                  have HK37 := Lib.hid (HK3.out.grown hgr (own_ne HO6.out HK3.out (by decide)))
                  have HL7 := Lib.hid (show Below w.heap.size w w7 from below_of_only HL6.out HL6.out.size hgr (fun g hg => own_below HO6.out g hg))
                  clear hown hgr hnxx s0 s1 s2 s3 s4
                  have him' : j ≤ T.size := hjT
                  go_wp2_with fail
                  go_roundg (T.size - j)
                  case rel => exact ⟨j, xs, tt, D ++ [mpOf tt s.e.isSome], by omega, rfl, ⟨HJ.out, HG4.out, HG2.out, by rw [HTT.out]; exact HA.out.fin, by rw [HTT.out, List.append_assoc]; exact HA.out.all, HK67.out, HK37.out, by
                    rw [mcells_snoc, List.length_append, show (mpOf tt s.e.isSome).cells = [.int .i64 tt.gl, .int .i64 tt.gc, .int .i64 tt.src, .int .i64 tt.ol, .int .i64 tt.oc, .int .i64 nm] from by rw [HNM.out]; rfl]
                    exact HO7.out, HL7.out⟩⟩
                  case measure => have := HLT.out; omega
            | cons n ms' =>
              have hnn : n ∈ s.nums := by rw [HI.out.1]; simp
              have hb := HG1.out n hnn
              have hlen := vlq_len hb.1 hb.2
              have htx : (nats T).drop j = vlq n ++ (vtext ms' ++ itext xs) := by rw [HI.out.2.2.2.1]; simp [vtext]
              have hmore := drop_more htx
              obtain ⟨y, r', hyr⟩ : ∃ y r', vlq n = y :: r' := by
                cases hq : vlq n with
                | nil => rw [hq] at hlen; simp at hlen
                | cons y ys => exact ⟨y, ys, rfl⟩
              have hy := vlq_mem n y (by rw [hyr]; simp)
              obtain ⟨a1, a2, _⟩ := byt_drop (T := T) (i := j) (x := y) (r := r' ++ (vtext ms' ++ itext xs)) (by rw [htx, hyr]; rfl)
              have a3 : (T[j]'a1).toNat = y := by rw [← byt_eq T j a1]; exact a2
              have hmr : (nats T).drop (j + (vlq n).length) = vtext ms' ++ itext xs ∧ j + (vlq n).length ≤ T.size := by
                rcases hmore with h | h
                · exact h
                · rw [h] at hyr; cases hyr
              have HV := Lib.hid (fun w => vlqRead T j n w (by omega) hb.1 hb.2 hmr.2 (fun q d hq => by
                have hlt : q < (vlq n).length := by
                  rcases Nat.lt_or_ge q (vlq n).length with h | h
                  · exact h
                  · rw [List.getElem?_eq_none h] at hq; cases hq
                have e1 := nats_get T (j + q) (by omega)
                have e2 : (nats T)[j + q]? = ((nats T).drop j)[q]? := by rw [List.getElem?_drop]
                rw [e2, htx, List.getElem?_append_left hlt, hq] at e1
                injection e1 with e1
                exact e1.symm))
              obtain ⟨A1, c1, hu8⟩ := own_slice HI.out.2.2.2.2.1
              subst hu8
              have hn5 : ns.length < 5 := by
                have e := congrArg List.length HI.out.1
                have e5 : s.nums.length ≤ 5 := by cases he : s.e <;> simp [Sg.nums, he]
                simp only [List.length_append, List.length_cons] at e
                omega
              have t5 : ((ns.length : Int) == 5) = false := by simp; omega
              have t1 : ((y : Int) != 59) = true := by simp; omega
              have t2 : ((y : Int) != 44) = true := by simp; omega
              have hlj : (j : Int) < T.size := by omega
              obtain ⟨j2, hj2⟩ : ∃ j2, j2 = j + (vlq n).length := ⟨_, rfl⟩
              rw [← hj2] at HV hmr
              have HMR := Lib.hid hmr
              have hj2j : j < j2 := by omega
              have HSZ : Hid (W0.heap.size ≤ wr.heap.size) := Lib.hid HI.out.2.2.2.2.2.size
              clear hb hlen htx hmore hyr hy a2 hmr hj2
              go_wp2_with fail
              refine (HV.out _).mono ?_
              rintro e w2 ⟨rfl, rfl⟩
              go_wp2_with (at_builtin; refine wpList_append_new rfl _ _ 64 rfl W0.heap.size 3 i3 _ 1 8 Try.underlying64 hi3 hz30 hz31 hz32 rfl (by omega) (.slice A1 ns.length c1) ns.length (ns.map (Value.int .i64)) rfl HI.out.2.2.2.2.1 [.int .i64 n] rfl rfl (one_int _ _) ?c3 ?c4 HSZ.out ?_)
              case c3 => unfold maxLen; omega
              case c4 => omega
              intro gg cap w3 hown hgr hnxx
              have HO := Lib.hid (show w3.ownsRow W0.heap.size 3 1 (.slice (some ⟨gg, 0, none⟩) (ns.length + 1) cap) (ns ++ [n]).length ((ns ++ [n]).map (Value.int .i64)) by simpa using hown)
              have HBB := Lib.hid (show Below W0.heap.size W0 w3 from below_of_only HI.out.2.2.2.2.2 HI.out.2.2.2.2.2.size hgr (fun g hg => own_below HI.out.2.2.2.2.1 g hg))
              clear hown hgr hnxx
              go_wp2_with fail
              go_roundg ms'.length
              case rel => exact ⟨j2, ns ++ [n], ms', rfl, rfl, ⟨by rw [HI.out.1]; simp, by have := HI.out.2.1; simp only [List.length_append, List.length_cons, List.length_nil]; omega, HMR.out.2, HMR.out.1, HO.out, HBB.out⟩⟩
              case measure => simp at hm; omega
end Go.Proofs.Ytobhlppdolekoaa.Ch
