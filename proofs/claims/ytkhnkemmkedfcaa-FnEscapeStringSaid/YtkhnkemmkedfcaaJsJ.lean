/- The reference's code units out of bytes. The walk. -/
import Derived.Test.YtkhnkemmkedfcaaJsH
namespace Go.Proofs.Ytkhnkemmkedfcaa.Js
open Go.RowKit Go.Proofs.Ytkhnkemmkedfcaa.Aid Go.Proofs.Ytkhnkemmkedfcaa.Runes Go.Proofs.Ytkhnkemmkedfcaa.Bytes Go.Proofs.Ytkhnkemmkedfcaa.Wtf Go.Proofs.Ytkhnkemmkedfcaa.Esc
attribute [local go_sem ↓] Go.wp_at_zero Go.wp_at_succ
set_option linter.unusedVariables false
set_option linter.unusedSimpArgs false
theorem ub_get (us : List Nat) : ∀ j, j < us.length → (ub us).getD (2 * j) 0 = us.getD j 0 / 256 % 256 ∧ (ub us).getD (2 * j + 1) 0 = us.getD j 0 % 256 := by
  induction us with
  | nil => intro j h; simp at h
  | cons u us ih =>
    intro j h
    cases j with
    | zero => rw [ub_cons]; exact ⟨rfl, rfl⟩
    | succ j =>
      have := ih j (by simpa using h)
      rw [ub_cons]
      rw [show 2 * (j + 1) = (2 * j + 1) + 1 by omega]
      simpa using this
theorem take_succ_d (us : List Nat) (j : Nat) (h : j < us.length) : us.take (j + 1) = us.take j ++ [us.getD j 0] := by
  rw [List.take_succ_eq_append_getElem h, List.getD, List.getElem?_eq_getElem h]
  rfl
theorem below_at' {w W : World} (h : Below w.heap.size w W) (o : Obj) : Below w.heap.size w (W.alloc o) := h.alloc h.size o
set_option maxRecDepth 100000 in
set_option maxHeartbeats 4000000 in
theorem wide (us : List Nat) (w : World) (hl : us.length ≤ 34359738368) (hu : ∀ u ∈ us, u < 65536) :
    Calls Try.prog 18 #[.string (str (ub us))] w fun e w' => (∃ v, e = .returned v ∧ w'.ownsRow w.heap.size 41 1 v us.length (ucells us)) ∧ Below w.heap.size w w' := by
  obtain ⟨i0, hi, hz0, hz1, hz2⟩ := info_parts info41
  have hxs : (str (ub us)).size = 2 * us.length := by rw [str_size, ub_len]
  have hg : ∀ j, j < us.length → byt (str (ub us)) (2 * j) = us.getD j 0 / 256 % 256 ∧ byt (str (ub us)) (2 * j + 1) = us.getD j 0 % 256 := by
    intro j hj
    rw [byt_str _ (ub_lt us), byt_str _ (ub_lt us)]
    exact ub_get us j hj
  obtain ⟨X, hX⟩ : ∃ X, X = str (ub us) := ⟨_, rfl⟩
  rw [← hX] at hxs hg ⊢
  obtain ⟨L, hL⟩ : ∃ L, L = us.length := ⟨_, rfl⟩
  have HL := Lib.hid hL
  rw [← hL] at hl hxs hg
  have HG := Lib.hid hg
  have HU := Lib.hid hu
  have HXS := Lib.hid hxs
  have hxi : (X.size : Int) = 2 * (L : Int) := by omega
  have HXI := Lib.hid hxi
  clear hX hg hu hL hxs hxi
  go_enter Try.func18, Try.ntmps18
  go_wp2_with fail
  go_loopw [3, 4] (fun ov iv wr => ∃ j : Nat, iv = .int .i64 ((2 * j : Nat) : Int) ∧ j ≤ L ∧ wr.ownsRow w.heap.size 41 1 ov j (ucells (us.take j)) ∧ Below w.heap.size w wr) (fun _ iv _ => 2 * L - (intOf iv).toNat)
  case atStart => exact ⟨0, rfl, Nat.zero_le _, own_nil _ _ _ _, Below.refl _ _⟩
  case round =>
    obtain ⟨j, rfl, hj, hown, hbel⟩ := hrel
    have HOWN := Lib.hid hown
    have HBEL := Lib.hid hbel
    clear hown hbel
    obtain ⟨i, hi'⟩ : ∃ i : Nat, i = 2 * j := ⟨_, rfl⟩
    have HI := Lib.hid hi'
    rw [← hi']
    by_cases hlt : j < L
    · obtain ⟨u, hu⟩ : ∃ u : Nat, u = us.getD j 0 := ⟨_, rfl⟩
      have hu16 : u < 65536 := by
        rw [hu, List.getD, List.getElem?_eq_getElem (by rw [← HL.out]; exact hlt)]
        exact HU.out _ (List.getElem_mem _)
      have hgj := HG.out j hlt
      rw [← hi', ← hu] at hgj
      obtain ⟨a, ha⟩ : ∃ a : Nat, a = u / 256 := ⟨_, rfl⟩
      obtain ⟨b, hb⟩ : ∃ b : Nat, b = u % 256 := ⟨_, rfl⟩
      have n1 : i < X.size := by have := HXS.out; omega
      have n2 : i + 1 < X.size := by have := HXS.out; omega
      have e1 : (X[i]'n1).toNat = a := by rw [← byt_eq X i n1, hgj.1, ha]; omega
      have e2 : (X[i + 1]'n2).toNat = b := by rw [← byt_eq X (i + 1) n2, hgj.2, hb]
      have m1 : (i : Int) < X.size := by omega
      have m2 : (i : Int) + 1 < X.size := by omega
      have m3 : ((i : Int) + 1).toNat = i + 1 := by omega
      have a255 : a < 256 := by omega
      have b255 : b < 256 := by omega
      have wi : IntKind.i64.wrap ((i : Int) + 1) = (i : Int) + 1 := IntWalk.i64_in _ (by have := HXS.out; omega)
      have wa : IntKind.u16.wrap (a : Int) = a := IntWalk.u16_in _ (by omega)
      have wb : IntKind.u16.wrap (b : Int) = b := IntWalk.u16_in _ (by omega)
      have il : (i : Int) ≤ 68719476736 := by omega
      have HTK := Lib.hid (show ucells (us.take j) ++ [.int .u16 (u : Int)] = ucells (us.take (j + 1)) by
        rw [take_succ_d us j (by rw [← HL.out]; exact hlt), ucells_append, ← hu]
        rfl)
      have HAB := Lib.hid (show u = a * 256 + b by omega)
      have hjL : j + 1 ≤ L := hlt
      clear hu hgj ha hb hlt hi'
      have ws : IntKind.u16.wrap ((a : Int) * 256) = (a : Int) * 256 := IntWalk.u16_in _ (by omega)
      have wo : bits .or .u16 ((a : Int) * 256) (b : Int) = (u : Int) := by
        have := bits_join .u16 16 (by decide) (fun n h0 h1 => by rw [IntKind.wrap_u16]; omega) 8 ((a : Int) * 256) (b : Int) (by omega) (by omega) (by omega) (by omega) (by omega) (by omega)
        rw [this]
        have := HAB.out
        omega
      have HW := Lib.hid (below_at' HBEL.out (.cells #[.int .u16 (u : Int)] 41)).drew
      have hjl : j ≤ 34359738368 := by have := HI.out; omega
      go_upto_region 5 with fail
      refine Hoist.start (S := fun _ _ => True) (by kernel_rfl) ?_
      refine Hoist.takeP (i := 0) (v := ?v0) rfl (by kernel_rfl) (by kernel_rfl) (by kernel_rfl) (fun _ _ _ h => h) ⟨by rfl, ?hy0⟩ ?rest0
      case hy0 => intro w'; go_simp; rfl
      simp only [Act.put, List.setIfInBounds_toArray, List.set_cons_zero, List.set_cons_succ]
      refine Hoist.takeP (i := 1) (v := ?v1) rfl (by kernel_rfl) (by kernel_rfl) (by kernel_rfl) (fun _ _ _ h => h) ⟨by rfl, ?hy1⟩ ?rest1
      case hy1 => intro w'; go_simp; rfl
      simp only [Act.put, List.setIfInBounds_toArray, List.set_cons_zero, List.set_cons_succ]
      refine Hoist.takeP (i := 2) (v := ?v2) rfl (by kernel_rfl) (by kernel_rfl) (by kernel_rfl) (fun _ _ _ h => h) ⟨by rfl, ?hy2⟩ ?rest2
      case hy2 => intro w'; go_simp; rfl
      simp only [Act.put, List.setIfInBounds_toArray, List.set_cons_zero, List.set_cons_succ]
      refine Hoist.takeP (i := 3) (v := ?v3) rfl (by kernel_rfl) (by kernel_rfl) (by kernel_rfl) (fun _ _ _ h => h) ⟨by rfl, ?hy3⟩ ?rest3
      case hy3 => intro w'; go_simp; rfl
      simp only [Act.put, List.setIfInBounds_toArray, List.set_cons_zero, List.set_cons_succ]
      refine Hoist.takeP (i := 4) (v := ?v4) rfl (by kernel_rfl) (by kernel_rfl) (by kernel_rfl) (fun _ _ _ h => h) ⟨by rfl, ?hy4⟩ ?rest4
      case hy4 => intro w'; go_simp; rfl
      simp only [Act.put, List.setIfInBounds_toArray, List.set_cons_zero, List.set_cons_succ]
      refine Hoist.takeP (i := 5) (v := ?v5) rfl (by kernel_rfl) (by kernel_rfl) (by kernel_rfl) (fun _ _ _ h => h) ⟨by rfl, ?hy5⟩ ?rest5
      case hy5 => intro w'; go_simp; rfl
      simp only [Act.put, List.setIfInBounds_toArray, List.set_cons_zero, List.set_cons_succ]
      refine Hoist.takeP (i := 6) (v := ?v6) rfl (by kernel_rfl) (by kernel_rfl) (by kernel_rfl) (fun _ _ _ h => h) ⟨by rfl, ?hy6⟩ ?rest6
      case hy6 => intro w'; go_simp; rfl
      simp only [Act.put, List.setIfInBounds_toArray, List.set_cons_zero, List.set_cons_succ]
      refine Hoist.takeP (i := 7) (v := ?v7) rfl (by kernel_rfl) (by kernel_rfl) (by kernel_rfl) (fun _ _ _ h => h) ⟨by rfl, ?hy7⟩ ?rest7
      case hy7 => intro w'; go_simp; rfl
      simp only [Act.put, List.setIfInBounds_toArray, List.set_cons_zero, List.set_cons_succ]
      refine Hoist.takeP (i := 8) (v := ?v8) rfl (by kernel_rfl) (by kernel_rfl) (by kernel_rfl) (fun _ _ _ h => h) ⟨by rfl, ?hy8⟩ ?rest8
      case hy8 => intro w'; go_simp; rfl
      simp only [Act.put, List.setIfInBounds_toArray, List.set_cons_zero, List.set_cons_succ]
      refine Hoist.takeP (i := 9) (v := ?v9) rfl (by kernel_rfl) (by kernel_rfl) (by kernel_rfl) (fun _ _ _ h => h) ⟨by rfl, ?hy9⟩ ?rest9
      case hy9 => intro w'; go_simp; rfl
      simp only [Act.put, List.setIfInBounds_toArray, List.set_cons_zero, List.set_cons_succ]
      refine Hoist.takeP (i := 10) (v := ?v10) rfl (by kernel_rfl) (by kernel_rfl) (by kernel_rfl) (fun _ _ _ h => h) ⟨by rfl, ?hy10⟩ ?rest10
      case hy10 => intro w'; go_simp; rfl
      simp only [Act.put, List.setIfInBounds_toArray, List.set_cons_zero, List.set_cons_succ]
      refine Hoist.takeP (i := 11) (v := ?v11) rfl (by kernel_rfl) (by kernel_rfl) (by kernel_rfl) (fun _ _ _ h => h) ⟨by rfl, ?hy11⟩ ?rest11
      case hy11 => intro w'; go_simp; rfl
      simp only [Act.put, List.setIfInBounds_toArray, List.set_cons_zero, List.set_cons_succ]
      refine Hoist.only (i := 12) rfl (by kernel_rfl) ?_
      intro K hK
      go_simp
      refine hK _ _ trivial ?_
      clear hK K
      refine Hoist.only (i := 13) rfl (by kernel_rfl) ?_
      intro K hK
      refine step_append_run (by rfl) _ _ _ (by rfl) w.heap.size 41 i0 _ 2 Try.underlying22 hi hz0 hz1 hz2 rfl _ j (ucells (us.take j)) (by rfl) ((HOWN.out.alloc _).drew) wr.heap.size 1 [.int .u16 (u : Int)] rfl (by rfl) (Blk.new _ _ _).drew (by simp [Value.oneCell']) (by omega) (by unfold maxLen; omega) (by omega) HW.out.size ?_
      intro gg cap w4 ho3 hg3 hat hlt3
      refine hK _ _ trivial ?_
      clear hK K
      refine Hoist.only (i := 14) rfl (by kernel_rfl) ?_
      intro K hK
      go_simp
      refine hK _ _ trivial ?_
      clear hK K
      refine Hoist.over (by kernel_rfl) ?_ _
      rw [HTK.out] at ho3
      have HO4 := Lib.hid ho3
      have HB4 := Lib.hid (HW.out.grown hg3 HW.out.size (fun k hk => own_below HOWN.out k hk))
      clear ho3 hg3 e1 e2 m1 m2 m3 wa wb ws wo wi
      go_wp2_with fail
      go_roundw
      case rel => exact ⟨j + 1, val_int (by have := HI.out; omega), by omega, HO4.out, HB4.out⟩
      case measure => have := HI.out; simp [intOf]; omega
    · have hz : j = L := by omega
      have n2 : ¬ (i : Int) + 1 < X.size := by have := HXI.out; omega
      have wi : (i : Int) ≤ 68719476736 := by omega
      have HF := Lib.hid (show us.take j = us ∧ j = us.length by
        have := HL.out
        exact ⟨List.take_of_length_le (by omega), by omega⟩)
      clear hlt hz
      go_wp2_with fail
      go_returns
      have h1 := HOWN.out
      rw [HF.out.1, HF.out.2] at h1
      exact ⟨⟨_, rfl, h1⟩, HBEL.out⟩
end Go.Proofs.Ytkhnkemmkedfcaa.Js
