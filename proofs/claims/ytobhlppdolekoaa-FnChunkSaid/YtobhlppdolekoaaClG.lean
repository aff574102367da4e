/- laws.from: does a mapping come from a mark. The walk. -/
import Derived.Test.YtobhlppdolekoaaCjA
import Derived.BigQuiet
import Derived.Test.YtobhlppdolekoaaHoist
import Derived.Deep.CutRange
import Derived.Deep.DeepCutAuto
namespace Go.Proofs.Ytobhlppdolekoaa.Ch
open Go.RowKit Go.Proofs.Ytobhlppdolekoaa.Aid Go.Proofs.Ytobhlppdolekoaa.Bytes Go.Proofs.Ytobhlppdolekoaa.Runes Go.Proofs.Ytobhlppdolekoaa.Wtf
attribute [local go_sem ↓] Go.wp_at_zero Go.wp_at_succ
set_option linter.unusedVariables false
set_option linter.unusedSimpArgs false
/-- Names in memory. -/
def NAt (w : World) (A : Option Addr) (ns : List ByteArray) : Prop := ∀ (i : Nat) s, ns[i]? = some s → ∃ g, A = some ⟨g, 0, none⟩ ∧ g < w.heap.size ∧ w.cell? ⟨g, i, none⟩ = some (.string s)
theorem NAt.below {w w' : World} {A : Option Addr} {ns : List ByteArray} (h : NAt w A ns) (hb : Below w.heap.size w w') : NAt w' A ns := fun i s hi => by
  obtain ⟨g, h1, h2, h3⟩ := h i s hi
  exact ⟨g, h1, Nat.lt_of_lt_of_le h2 hb.size, bcell hb h2 h3⟩
/-- A mark has a mapping's place. -/
def KOld (src : ByteArray) (m : Mp) (k : Mk) : Prop := m.ol = ((placeOf src k.loc).1 : Int) ∧ m.oc = ((placeOf src k.loc).2 : Int)
def KNew (out : ByteArray) (ns : List ByteArray) (m : Mp) (k : Mk) : Prop := m.name < 0 ∨ ∃ i : Nat, m.name = i ∧ ns[i]? = some k.name ∧ m.line = ((placeOf out k.at).1 : Int) ∧ m.col = ((placeOf out k.at).2 : Int)
set_option maxRecDepth 100000 in
set_option maxHeartbeats 8000000 in
theorem fromWalk (src out : ByteArray) (ns : List ByteArray) (ms : List Mk) (m : Mp) (A1 : Option Addr) (c1 : Nat) (A2 : Option Addr) (c2 : Nat) (w : World) (hN : NAt w A1 ns) (hM : Marks w A2 ms) (hns : ns.length ≤ 1000) (hms : ms.length ≤ 500)
    (hs : src.size ≤ 16384) (ho : out.size ≤ 16384) (hk : ∀ k ∈ ms, k.at ≤ out.size ∧ k.loc ≤ src.size) (hf : From src out ns ms m) :
    Calls Try.prog 11 #[.agg m.cells.toArray, .slice A1 ns.length c1, .string src, .string out, .slice A2 ms.length c2] w fun e w' => e = .returned (.bool true) ∧ Below w.heap.size w w' := by
  obtain ⟨hsrc, k0, hk0, ho1, ho2, hnew⟩ := hf
  obtain ⟨j0, hj0⟩ := List.mem_iff_getElem?.1 hk0
  have HJ := Lib.hid hj0
  have HOLD : Hid (KOld src m k0) := Lib.hid ⟨ho1, ho2⟩
  have HNEW : Hid (KNew out ns m k0) := Lib.hid hnew
  have HNM := Lib.hid (fun (W : World) (hb : Below w.heap.size w W) => hN.below hb)
  have HMM := Lib.hid (fun (W : World) (hb : Below w.heap.size w W) => hM.below hb)
  have HKK := Lib.hid hk
  have HP := Lib.hid placeWalk
  have hj0l : j0 < ms.length := by
    rcases Nat.lt_or_ge j0 ms.length with h' | h'
    · exact h'
    · rw [List.getElem?_eq_none h'] at hj0; cases hj0
  obtain ⟨n, hn⟩ : ∃ n, n = ms.length := ⟨_, rfl⟩
  have HN := Lib.hid hn
  obtain ⟨p, hp⟩ : ∃ p, p = ns.length := ⟨_, rfl⟩
  have HPP := Lib.hid hp
  rw [← hn] at hms hj0l ⊢
  rw [← hp] at hns ⊢
  have HSRC := Lib.hid hsrc
  obtain ⟨ln, col, sr, ol, oc, nm⟩ := m
  simp only at hsrc
  subst hsrc
  clear hn hp hN hM hk ho1 ho2 hnew hk0 hj0
  unfold Mp.cells
  go_enter Try.func11, Try.ntmps11
  go_upto_region 1 with fail
  obtain ⟨W, hW⟩ : ∃ W, W = w.alloc (.cells #[.int .i64 ln, .int .i64 col, .int .i64 0, .int .i64 ol, .int .i64 oc, .int .i64 nm] 42) := ⟨_, rfl⟩
  have HBW : Hid (Below w.heap.size w W) := Lib.hid (by rw [hW]; exact below_at (Below.refl _ _) _)
  have HK5 : Hid (Blk W w.heap.size 42 [.int .i64 ln, .int .i64 col, .int .i64 0, .int .i64 ol, .int .i64 oc, .int .i64 nm]) := Lib.hid (by rw [hW]; exact Blk.new w 42 [.int .i64 ln, .int .i64 col, .int .i64 0, .int .i64 ol, .int .i64 oc, .int .i64 nm])
  rw [← hW]
  clear hW
  obtain ⟨q5, hq5⟩ : ∃ q5, q5 = w.heap.size := ⟨_, rfl⟩
  rw [← hq5] at HK5 ⊢
  clear hq5
  go_wp2_with fail
  go_loopg [15] n (fun m iv wr => ∃ i : Nat, i + m = n ∧ iv = .int .i64 i ∧ i ≤ j0 ∧ Hid (Below W.heap.size W wr))
  case atStart => exact ⟨0, by omega, rfl, Nat.zero_le _, Lib.hid (Below.refl _ _)⟩
  case round =>
    obtain ⟨i, him, rfl, hij, HB⟩ := hrel
    have hlt : i < n := by omega
    have hlt' : (i : Int) < n := by omega
    obtain ⟨k, hk⟩ : ∃ k, ms[i]? = some k := ⟨_, List.getElem?_eq_getElem (by rw [← HN.out]; exact hlt)⟩
    obtain ⟨b, o, hA, hb, m0, m1, m2⟩ := HMM.out wr (up HBW.out HB.out) i k hk
    subst hA
    obtain ⟨f1, f3⟩ := HKK.out k (List.mem_of_getElem? hk)
    have HK := Lib.hid hk
    clear hk
    go_upto_region 4 with fail
    obtain ⟨W1, hW1⟩ : ∃ W1, W1 = wr.alloc (.cells #[.int .i64 k.at, .int .i64 k.loc, .string k.name] 45) := ⟨_, rfl⟩
    have b1 : Below wr.heap.size wr W1 := by rw [hW1]; exact below_at (Below.refl _ _) _
    have k7 : Blk W1 wr.heap.size 45 [.int .i64 k.at, .int .i64 k.loc, .string k.name] := by rw [hW1]; exact Blk.new wr 45 [.int .i64 k.at, .int .i64 k.loc, .string k.name]
    rw [← hW1]
    clear hW1 m0 m1 m2
    have HB1 := Lib.hid (up HB.out b1)
    obtain ⟨b7, hb7⟩ : ∃ b7, b7 = wr.heap.size := ⟨_, rfl⟩
    rw [← hb7] at k7 ⊢
    clear hb7 b1 hb
    have e0 : W1.cell? ⟨b7, 0, none⟩ = some (.int .i64 k.at) := k7.get 0 rfl
    have e1 : W1.cell? ⟨b7, 1, none⟩ = some (.int .i64 k.loc) := k7.get 1 rfl
    have e2 : W1.cell? ⟨b7, 2, none⟩ = some (.string k.name) := k7.get 2 rfl
    have b7l := k7.lt
    have k5 := HK5.out.below HB1.out HK5.out.lt
    have x0 : W1.cell? ⟨q5, 0, none⟩ = some (.int .i64 ln) := k5.get 0 rfl
    have x1 : W1.cell? ⟨q5, 1, none⟩ = some (.int .i64 col) := k5.get 1 rfl
    have x3 : W1.cell? ⟨q5, 3, none⟩ = some (.int .i64 ol) := k5.get 3 rfl
    have x4 : W1.cell? ⟨q5, 4, none⟩ = some (.int .i64 oc) := k5.get 4 rfl
    have x5 : W1.cell? ⟨q5, 5, none⟩ = some (.int .i64 nm) := k5.get 5 rfl
    have q5l := k5.lt
    clear k5 k7
    have HPL := Lib.hid (fun w => HP.out src k.loc w f3 (by omega))
    obtain ⟨px, hpx⟩ : ∃ px, px = (placeOf src k.loc).1 := ⟨_, rfl⟩
    obtain ⟨py, hpy⟩ : ∃ py, py = (placeOf src k.loc).2 := ⟨_, rfl⟩
    have HPX := Lib.hid hpx
    have HPY := Lib.hid hpy
    rw [← hpx, ← hpy] at HPL
    clear hpx hpy
    obtain ⟨z1, hz1⟩ : ∃ z1, z1 = decide (ol = px ∧ oc = py) := ⟨_, rfl⟩
    have HZ1 := Lib.hid hz1
    clear hz1
    go_cut [28] (fun t wx => t = .bool (!z1) ∧ Below W1.heap.size W1 wx)
    case first =>
      have hb0 : Below W1.heap.size W1 W1.drew := below_drewN (Below.refl _ _) 1
      refine Hoist.start (S := fun _ w' => Below W1.heap.size W1 w') (by kernel_rfl) ?_
      refine Hoist.takeS (i := 0) (v := ?vf0) rfl (by kernel_rfl) (by kernel_rfl) (by kernel_rfl) (fun _ _ _ h => h) ⟨by rfl, ?hyf0⟩ hb0 ?restf0
      case hyf0 =>
        intro w' hSw
        have d0 := bcell hSw b7l e0
        have d1 := bcell hSw b7l e1
        have d2 := bcell hSw b7l e2
        have d3 := bcell hSw q5l x0
        have d4 := bcell hSw q5l x1
        have d5 := bcell hSw q5l x3
        have d6 := bcell hSw q5l x4
        have d7 := bcell hSw q5l x5
        go_simp
        rfl
      simp only [Act.put, List.setIfInBounds_toArray, List.set_cons_zero, List.set_cons_succ]
      refine Hoist.takeS (i := 1) (v := ?vf1) rfl (by kernel_rfl) (by kernel_rfl) (by kernel_rfl) (fun _ _ _ h => h) ⟨by rfl, ?hyf1⟩ hb0 ?restf1
      case hyf1 =>
        intro w' hSw
        have d0 := bcell hSw b7l e0
        have d1 := bcell hSw b7l e1
        have d2 := bcell hSw b7l e2
        have d3 := bcell hSw q5l x0
        have d4 := bcell hSw q5l x1
        have d5 := bcell hSw q5l x3
        have d6 := bcell hSw q5l x4
        have d7 := bcell hSw q5l x5
        go_simp
        rfl
      simp only [Act.put, List.setIfInBounds_toArray, List.set_cons_zero, List.set_cons_succ]
      refine Hoist.takeS (i := 2) (v := ?vf2) rfl (by kernel_rfl) (by kernel_rfl) (by kernel_rfl) (fun _ _ _ h => h) ⟨by rfl, ?hyf2⟩ hb0 ?restf2
      case hyf2 =>
        intro w' hSw
        have d0 := bcell hSw b7l e0
        have d1 := bcell hSw b7l e1
        have d2 := bcell hSw b7l e2
        have d3 := bcell hSw q5l x0
        have d4 := bcell hSw q5l x1
        have d5 := bcell hSw q5l x3
        have d6 := bcell hSw q5l x4
        have d7 := bcell hSw q5l x5
        go_simp
        rfl
      simp only [Act.put, List.setIfInBounds_toArray, List.set_cons_zero, List.set_cons_succ]
      refine Hoist.takeS (i := 4) (v := ?vf4) rfl (by kernel_rfl) (by kernel_rfl) (by kernel_rfl) (fun _ _ _ h => h) ⟨by rfl, ?hyf4⟩ hb0 ?restf4
      case hyf4 =>
        intro w' hSw
        have d0 := bcell hSw b7l e0
        have d1 := bcell hSw b7l e1
        have d2 := bcell hSw b7l e2
        have d3 := bcell hSw q5l x0
        have d4 := bcell hSw q5l x1
        have d5 := bcell hSw q5l x3
        have d6 := bcell hSw q5l x4
        have d7 := bcell hSw q5l x5
        go_simp
        rfl
      simp only [Act.put, List.setIfInBounds_toArray, List.set_cons_zero, List.set_cons_succ]
      refine Hoist.takeS (i := 5) (v := ?vf5) rfl (by kernel_rfl) (by kernel_rfl) (by kernel_rfl) (fun _ _ _ h => h) ⟨by rfl, ?hyf5⟩ hb0 ?restf5
      case hyf5 =>
        intro w' hSw
        have d0 := bcell hSw b7l e0
        have d1 := bcell hSw b7l e1
        have d2 := bcell hSw b7l e2
        have d3 := bcell hSw q5l x0
        have d4 := bcell hSw q5l x1
        have d5 := bcell hSw q5l x3
        have d6 := bcell hSw q5l x4
        have d7 := bcell hSw q5l x5
        go_simp
        rfl
      simp only [Act.put, List.setIfInBounds_toArray, List.set_cons_zero, List.set_cons_succ]
      refine Hoist.takeS (i := 6) (v := ?vf6) rfl (by kernel_rfl) (by kernel_rfl) (by kernel_rfl) (fun _ _ _ h => h) ⟨by rfl, ?hyf6⟩ hb0 ?restf6
      case hyf6 =>
        intro w' hSw
        have d0 := bcell hSw b7l e0
        have d1 := bcell hSw b7l e1
        have d2 := bcell hSw b7l e2
        have d3 := bcell hSw q5l x0
        have d4 := bcell hSw q5l x1
        have d5 := bcell hSw q5l x3
        have d6 := bcell hSw q5l x4
        have d7 := bcell hSw q5l x5
        go_simp
        rfl
      simp only [Act.put, List.setIfInBounds_toArray, List.set_cons_zero, List.set_cons_succ]
      refine Hoist.takeS (i := 7) (v := ?vf7) rfl (by kernel_rfl) (by kernel_rfl) (by kernel_rfl) (fun _ _ _ h => h) ⟨by rfl, ?hyf7⟩ hb0 ?restf7
      case hyf7 =>
        intro w' hSw
        have d0 := bcell hSw b7l e0
        have d1 := bcell hSw b7l e1
        have d2 := bcell hSw b7l e2
        have d3 := bcell hSw q5l x0
        have d4 := bcell hSw q5l x1
        have d5 := bcell hSw q5l x3
        have d6 := bcell hSw q5l x4
        have d7 := bcell hSw q5l x5
        go_simp
        rfl
      simp only [Act.put, List.setIfInBounds_toArray, List.set_cons_zero, List.set_cons_succ]
      refine Hoist.takeS (i := 8) (v := ?vf8) rfl (by kernel_rfl) (by kernel_rfl) (by kernel_rfl) (fun _ _ _ h => h) ⟨by rfl, ?hyf8⟩ hb0 ?restf8
      case hyf8 =>
        intro w' hSw
        have d0 := bcell hSw b7l e0
        have d1 := bcell hSw b7l e1
        have d2 := bcell hSw b7l e2
        have d3 := bcell hSw q5l x0
        have d4 := bcell hSw q5l x1
        have d5 := bcell hSw q5l x3
        have d6 := bcell hSw q5l x4
        have d7 := bcell hSw q5l x5
        go_simp
        rfl
      simp only [Act.put, List.setIfInBounds_toArray, List.set_cons_zero, List.set_cons_succ]
      refine Hoist.only (i := 3) rfl (by kernel_rfl) ?_
      intro K' hK
      go_simp
      refine (HPL.out _).mono ?_
      rintro e w2 ⟨rfl, hb2⟩
      have hb3 : Below W1.heap.size W1 w2 := up hb0 hb2
      refine hK _ _ hb3 ?_
      clear hK K'
      refine Hoist.only (i := 9) rfl (by kernel_rfl) ?_
      intro K' hK
      by_cases g1 : (px : Int) = ol
      · by_cases g2 : (py : Int) = oc
        · have HV : Hid (z1 = true) := Lib.hid (by rw [HZ1.out]; exact decide_eq_true ⟨g1.symm, g2.symm⟩)
          go_simp
          refine hK _ _ hb3 ?_
          clear hK K'
          refine Hoist.over (by kernel_rfl) ?_ _
          go_wp2_with fail
          go_meet
          exact ⟨by rw [HV.out]; rfl, hb3⟩
        · have HV : Hid (z1 = false) := Lib.hid (by rw [HZ1.out]; exact decide_eq_false (fun h => g2 h.2.symm))
          go_simp
          refine hK _ _ hb3 ?_
          clear hK K'
          refine Hoist.over (by kernel_rfl) ?_ _
          go_wp2_with fail
          go_meet
          exact ⟨by rw [HV.out]; rfl, hb3⟩
      · have HV : Hid (z1 = false) := Lib.hid (by rw [HZ1.out]; exact decide_eq_false (fun h => g1 h.1.symm))
        go_simp
        refine hK _ _ hb3 ?_
        clear hK K'
        refine Hoist.over (by kernel_rfl) ?_ _
        go_wp2_with fail
        go_meet
        exact ⟨by rw [HV.out]; rfl, hb3⟩
    case rest =>
      obtain ⟨rfl, hbc⟩ := hcut
      obtain ⟨W2, hW2⟩ : ∃ W2, W2 = wc := ⟨_, rfl⟩
      rw [← hW2] at hbc ⊢
      clear hW2
      have HB2 := Lib.hid (up HB1.out hbc)
      have e0 := bcell hbc b7l e0
      have e1 := bcell hbc b7l e1
      have e2 := bcell hbc b7l e2
      have x0 := bcell hbc q5l x0
      have x1 := bcell hbc q5l x1
      have x3 := bcell hbc q5l x3
      have x4 := bcell hbc q5l x4
      have x5 := bcell hbc q5l x5
      have b7l := Nat.lt_of_lt_of_le b7l hbc.size
      have q5l := Nat.lt_of_lt_of_le q5l hbc.size
      cases z1 with
      | false =>
        have HV : Hid (i < j0) := Lib.hid (by
          rcases Nat.lt_or_ge i j0 with h | h
          · exact h
          · have hij' : i = j0 := by omega
            have h1 := HZ1.out
            have h2 := HJ.out
            have h3 := HK.out
            rw [hij', h2] at h3
            injection h3 with h3
            rw [HPX.out, HPY.out, ← h3] at h1
            exact absurd (show ol = ((placeOf src k0.loc).1 : Int) ∧ oc = ((placeOf src k0.loc).2 : Int) from HOLD.out) (of_decide_eq_false h1.symm))
        clear hbc
        go_wp2_with fail
        go_roundg (n - (i + 1))
        case rel => exact ⟨i + 1, by omega, val_int (by omega), HV.out, HB2⟩
        case measure => have := HV.out; omega
      | true =>
        clear hbc
        have HPN := Lib.hid (fun w => HP.out out k.at w f1 (by omega))
        obtain ⟨ux, hux⟩ : ∃ ux, ux = (placeOf out k.at).1 := ⟨_, rfl⟩
        obtain ⟨uy, huy⟩ : ∃ uy, uy = (placeOf out k.at).2 := ⟨_, rfl⟩
        have HUX := Lib.hid hux
        have HUY := Lib.hid huy
        rw [← hux, ← huy] at HPN
        clear hux huy
        have HMS := Lib.hid hms
        clear hs ho f1 f3 hms hns
        go_upto_region 5 with fail
        go_cut [60] (fun t wx => ∃ z, t = .bool z ∧ (z = false → ¬ KNew out ns ⟨ln, col, 0, ol, oc, nm⟩ k) ∧ Below W2.heap.size W2 wx)
        case first =>
          by_cases n0 : nm < 0
          · go_quiet (fail)
            go_wp2_with fail
            go_meet
            exact ⟨true, rfl, (fun h => by cases h), below_drewN (Below.refl _ _) nq⟩
          · obtain ⟨i0, rfl⟩ : ∃ i0 : Nat, nm = i0 := ⟨nm.toNat, by omega⟩
            by_cases n1 : i0 < p
            · have n1' : (i0 : Int) < p := by omega
              have n2' : (0 : Int) ≤ (i0 : Int) := by omega
              obtain ⟨s0, hs0⟩ : ∃ s0, ns[i0]? = some s0 := ⟨_, List.getElem?_eq_getElem (by rw [← HPP.out]; exact n1)⟩
              obtain ⟨g, hgA, gl, hc⟩ := HNM.out W2 (up HBW.out HB2.out) i0 s0 hs0
              subst hgA
              have HS0 := Lib.hid hs0
              clear hs0 n1
              obtain ⟨zq, hzq⟩ : ∃ zq, (s0.toList == k.name.toList) = zq := ⟨_, rfl⟩
              have HZQ : Hid (zq = decide (s0 = k.name)) := Lib.hid (by rw [← hzq, toList_beq])
              cases zq with
              | false =>
                have HNO : Hid (¬ KNew out ns ⟨ln, col, 0, ol, oc, (i0 : Int)⟩ k) := Lib.hid (by
                  rintro (h | ⟨i1, h1, h2, _⟩)
                  · have h : (i0 : Int) < 0 := h
                    omega
                  · have h1 : (i0 : Int) = i1 := h1
                    have : i1 = i0 := by omega
                    subst this
                    rw [HS0.out] at h2
                    injection h2 with h2
                    exact of_decide_eq_false HZQ.out.symm h2)
                go_quiet (fail)
                go_wp2_with fail
                go_meet
                exact ⟨false, rfl, fun _ => HNO.out, below_drewN (Below.refl _ _) nq⟩
              | true =>
                have hb0 : Below W2.heap.size W2 W2.drew := below_drewN (Below.refl _ _) 1
                refine Hoist.start (S := fun _ w' => Below W2.heap.size W2 w') (by kernel_rfl) ?_
                refine Hoist.takeS (i := 0) (v := ?vg0) rfl (by kernel_rfl) (by kernel_rfl) (by kernel_rfl) (fun _ _ _ h => h) ⟨by kernel_rfl, ?hyg0⟩ hb0 ?restg0
                case hyg0 =>
                  intro w' hSw
                  have d0 := bcell hSw b7l e0
                  have d2 := bcell hSw b7l e2
                  have d3 := bcell hSw q5l x0
                  have d4 := bcell hSw q5l x1
                  have d7 := bcell hSw q5l x5
                  have d8 := bcell hSw gl hc
                  go_simp
                  rfl
                simp only [Act.put, List.setIfInBounds_toArray, List.set_cons_zero, List.set_cons_succ]
                refine Hoist.takeS (i := 1) (v := ?vg1) rfl (by kernel_rfl) (by kernel_rfl) (by kernel_rfl) (fun _ _ _ h => h) ⟨by kernel_rfl, ?hyg1⟩ hb0 ?restg1
                case hyg1 =>
                  intro w' hSw
                  have d0 := bcell hSw b7l e0
                  have d2 := bcell hSw b7l e2
                  have d3 := bcell hSw q5l x0
                  have d4 := bcell hSw q5l x1
                  have d7 := bcell hSw q5l x5
                  have d8 := bcell hSw gl hc
                  go_simp
                  rfl
                simp only [Act.put, List.setIfInBounds_toArray, List.set_cons_zero, List.set_cons_succ]
                refine Hoist.takeS (i := 2) (v := ?vg2) rfl (by kernel_rfl) (by kernel_rfl) (by kernel_rfl) (fun _ _ _ h => h) ⟨by kernel_rfl, ?hyg2⟩ hb0 ?restg2
                case hyg2 =>
                  intro w' hSw
                  have d0 := bcell hSw b7l e0
                  have d2 := bcell hSw b7l e2
                  have d3 := bcell hSw q5l x0
                  have d4 := bcell hSw q5l x1
                  have d7 := bcell hSw q5l x5
                  have d8 := bcell hSw gl hc
                  go_simp
                  rfl
                simp only [Act.put, List.setIfInBounds_toArray, List.set_cons_zero, List.set_cons_succ]
                refine Hoist.takeS (i := 3) (v := ?vg3) rfl (by kernel_rfl) (by kernel_rfl) (by kernel_rfl) (fun _ _ _ h => h) ⟨by kernel_rfl, ?hyg3⟩ hb0 ?restg3
                case hyg3 =>
                  intro w' hSw
                  have d0 := bcell hSw b7l e0
                  have d2 := bcell hSw b7l e2
                  have d3 := bcell hSw q5l x0
                  have d4 := bcell hSw q5l x1
                  have d7 := bcell hSw q5l x5
                  have d8 := bcell hSw gl hc
                  go_simp
                  rfl
                simp only [Act.put, List.setIfInBounds_toArray, List.set_cons_zero, List.set_cons_succ]
                refine Hoist.takeS (i := 4) (v := ?vg4) rfl (by kernel_rfl) (by kernel_rfl) (by kernel_rfl) (fun _ _ _ h => h) ⟨by kernel_rfl, ?hyg4⟩ hb0 ?restg4
                case hyg4 =>
                  intro w' hSw
                  have d0 := bcell hSw b7l e0
                  have d2 := bcell hSw b7l e2
                  have d3 := bcell hSw q5l x0
                  have d4 := bcell hSw q5l x1
                  have d7 := bcell hSw q5l x5
                  have d8 := bcell hSw gl hc
                  go_simp
                  rfl
                simp only [Act.put, List.setIfInBounds_toArray, List.set_cons_zero, List.set_cons_succ]
                refine Hoist.takeS (i := 5) (v := ?vg5) rfl (by kernel_rfl) (by kernel_rfl) (by kernel_rfl) (fun _ _ _ h => h) ⟨by kernel_rfl, ?hyg5⟩ hb0 ?restg5
                case hyg5 =>
                  intro w' hSw
                  have d0 := bcell hSw b7l e0
                  have d2 := bcell hSw b7l e2
                  have d3 := bcell hSw q5l x0
                  have d4 := bcell hSw q5l x1
                  have d7 := bcell hSw q5l x5
                  have d8 := bcell hSw gl hc
                  go_simp
                  rfl
                simp only [Act.put, List.setIfInBounds_toArray, List.set_cons_zero, List.set_cons_succ]
                refine Hoist.takeS (i := 6) (v := ?vg6) rfl (by kernel_rfl) (by kernel_rfl) (by kernel_rfl) (fun _ _ _ h => h) ⟨by kernel_rfl, ?hyg6⟩ hb0 ?restg6
                case hyg6 =>
                  intro w' hSw
                  have d0 := bcell hSw b7l e0
                  have d2 := bcell hSw b7l e2
                  have d3 := bcell hSw q5l x0
                  have d4 := bcell hSw q5l x1
                  have d7 := bcell hSw q5l x5
                  have d8 := bcell hSw gl hc
                  go_simp
                  rfl
                simp only [Act.put, List.setIfInBounds_toArray, List.set_cons_zero, List.set_cons_succ]
                refine Hoist.takeS (i := 7) (v := ?vg7) rfl (by kernel_rfl) (by kernel_rfl) (by kernel_rfl) (fun _ _ _ h => h) ⟨by kernel_rfl, ?hyg7⟩ hb0 ?restg7
                case hyg7 =>
                  intro w' hSw
                  have d0 := bcell hSw b7l e0
                  have d2 := bcell hSw b7l e2
                  have d3 := bcell hSw q5l x0
                  have d4 := bcell hSw q5l x1
                  have d7 := bcell hSw q5l x5
                  have d8 := bcell hSw gl hc
                  go_simp
                  rfl
                simp only [Act.put, List.setIfInBounds_toArray, List.set_cons_zero, List.set_cons_succ]
                refine Hoist.takeS (i := 8) (v := ?vg8) rfl (by kernel_rfl) (by kernel_rfl) (by kernel_rfl) (fun _ _ _ h => h) ⟨by kernel_rfl, ?hyg8⟩ hb0 ?restg8
                case hyg8 =>
                  intro w' hSw
                  have d0 := bcell hSw b7l e0
                  have d2 := bcell hSw b7l e2
                  have d3 := bcell hSw q5l x0
                  have d4 := bcell hSw q5l x1
                  have d7 := bcell hSw q5l x5
                  have d8 := bcell hSw gl hc
                  go_simp
                  rfl
                simp only [Act.put, List.setIfInBounds_toArray, List.set_cons_zero, List.set_cons_succ]
                refine Hoist.takeS (i := 9) (v := ?vg9) rfl (by kernel_rfl) (by kernel_rfl) (by kernel_rfl) (fun _ _ _ h => h) ⟨by kernel_rfl, ?hyg9⟩ hb0 ?restg9
                case hyg9 =>
                  intro w' hSw
                  have d0 := bcell hSw b7l e0
                  have d2 := bcell hSw b7l e2
                  have d3 := bcell hSw q5l x0
                  have d4 := bcell hSw q5l x1
                  have d7 := bcell hSw q5l x5
                  have d8 := bcell hSw gl hc
                  go_simp
                  rfl
                simp only [Act.put, List.setIfInBounds_toArray, List.set_cons_zero, List.set_cons_succ]
                refine Hoist.takeS (i := 10) (v := ?vg10) rfl (by kernel_rfl) (by kernel_rfl) (by kernel_rfl) (fun _ _ _ h => h) ⟨by kernel_rfl, ?hyg10⟩ hb0 ?restg10
                case hyg10 =>
                  intro w' hSw
                  have d0 := bcell hSw b7l e0
                  have d2 := bcell hSw b7l e2
                  have d3 := bcell hSw q5l x0
                  have d4 := bcell hSw q5l x1
                  have d7 := bcell hSw q5l x5
                  have d8 := bcell hSw gl hc
                  go_simp
                  rfl
                simp only [Act.put, List.setIfInBounds_toArray, List.set_cons_zero, List.set_cons_succ]
                refine Hoist.takeS (i := 11) (v := ?vg11) rfl (by kernel_rfl) (by kernel_rfl) (by kernel_rfl) (fun _ _ _ h => h) ⟨by kernel_rfl, ?hyg11⟩ hb0 ?restg11
                case hyg11 =>
                  intro w' hSw
                  have d0 := bcell hSw b7l e0
                  have d2 := bcell hSw b7l e2
                  have d3 := bcell hSw q5l x0
                  have d4 := bcell hSw q5l x1
                  have d7 := bcell hSw q5l x5
                  have d8 := bcell hSw gl hc
                  go_simp
                  rfl
                simp only [Act.put, List.setIfInBounds_toArray, List.set_cons_zero, List.set_cons_succ]
                refine Hoist.takeS (i := 12) (v := ?vg12) rfl (by kernel_rfl) (by kernel_rfl) (by kernel_rfl) (fun _ _ _ h => h) ⟨by kernel_rfl, ?hyg12⟩ hb0 ?restg12
                case hyg12 =>
                  intro w' hSw
                  have d0 := bcell hSw b7l e0
                  have d2 := bcell hSw b7l e2
                  have d3 := bcell hSw q5l x0
                  have d4 := bcell hSw q5l x1
                  have d7 := bcell hSw q5l x5
                  have d8 := bcell hSw gl hc
                  go_simp
                  rfl
                simp only [Act.put, List.setIfInBounds_toArray, List.set_cons_zero, List.set_cons_succ]
                refine Hoist.takeS (i := 13) (v := ?vg13) rfl (by kernel_rfl) (by kernel_rfl) (by kernel_rfl) (fun _ _ _ h => h) ⟨by kernel_rfl, ?hyg13⟩ hb0 ?restg13
                case hyg13 =>
                  intro w' hSw
                  have d0 := bcell hSw b7l e0
                  have d2 := bcell hSw b7l e2
                  have d3 := bcell hSw q5l x0
                  have d4 := bcell hSw q5l x1
                  have d7 := bcell hSw q5l x5
                  have d8 := bcell hSw gl hc
                  go_simp
                  rfl
                simp only [Act.put, List.setIfInBounds_toArray, List.set_cons_zero, List.set_cons_succ]
                refine Hoist.takeS (i := 14) (v := ?vg14) rfl (by kernel_rfl) (by kernel_rfl) (by kernel_rfl) (fun _ _ _ h => h) ⟨by kernel_rfl, ?hyg14⟩ hb0 ?restg14
                case hyg14 =>
                  intro w' hSw
                  have d0 := bcell hSw b7l e0
                  have d2 := bcell hSw b7l e2
                  have d3 := bcell hSw q5l x0
                  have d4 := bcell hSw q5l x1
                  have d7 := bcell hSw q5l x5
                  have d8 := bcell hSw gl hc
                  go_simp
                  rfl
                simp only [Act.put, List.setIfInBounds_toArray, List.set_cons_zero, List.set_cons_succ]
                refine Hoist.takeS (i := 15) (v := ?vg15) rfl (by kernel_rfl) (by kernel_rfl) (by kernel_rfl) (fun _ _ _ h => h) ⟨by kernel_rfl, ?hyg15⟩ hb0 ?restg15
                case hyg15 =>
                  intro w' hSw
                  have d0 := bcell hSw b7l e0
                  have d2 := bcell hSw b7l e2
                  have d3 := bcell hSw q5l x0
                  have d4 := bcell hSw q5l x1
                  have d7 := bcell hSw q5l x5
                  have d8 := bcell hSw gl hc
                  go_simp
                  rfl
                simp only [Act.put, List.setIfInBounds_toArray, List.set_cons_zero, List.set_cons_succ]
                refine Hoist.takeS (i := 16) (v := ?vg16) rfl (by kernel_rfl) (by kernel_rfl) (by kernel_rfl) (fun _ _ _ h => h) ⟨by kernel_rfl, ?hyg16⟩ hb0 ?restg16
                case hyg16 =>
                  intro w' hSw
                  have d0 := bcell hSw b7l e0
                  have d2 := bcell hSw b7l e2
                  have d3 := bcell hSw q5l x0
                  have d4 := bcell hSw q5l x1
                  have d7 := bcell hSw q5l x5
                  have d8 := bcell hSw gl hc
                  go_simp
                  rfl
                simp only [Act.put, List.setIfInBounds_toArray, List.set_cons_zero, List.set_cons_succ]
                refine Hoist.takeS (i := 17) (v := ?vg17) rfl (by kernel_rfl) (by kernel_rfl) (by kernel_rfl) (fun _ _ _ h => h) ⟨by kernel_rfl, ?hyg17⟩ hb0 ?restg17
                case hyg17 =>
                  intro w' hSw
                  have d0 := bcell hSw b7l e0
                  have d2 := bcell hSw b7l e2
                  have d3 := bcell hSw q5l x0
                  have d4 := bcell hSw q5l x1
                  have d7 := bcell hSw q5l x5
                  have d8 := bcell hSw gl hc
                  go_simp
                  rfl
                simp only [Act.put, List.setIfInBounds_toArray, List.set_cons_zero, List.set_cons_succ]
                refine Hoist.takeS (i := 18) (v := ?vg18) rfl (by kernel_rfl) (by kernel_rfl) (by kernel_rfl) (fun _ _ _ h => h) ⟨by kernel_rfl, ?hyg18⟩ hb0 ?restg18
                case hyg18 =>
                  intro w' hSw
                  have d0 := bcell hSw b7l e0
                  have d2 := bcell hSw b7l e2
                  have d3 := bcell hSw q5l x0
                  have d4 := bcell hSw q5l x1
                  have d7 := bcell hSw q5l x5
                  have d8 := bcell hSw gl hc
                  go_simp
                  rfl
                simp only [Act.put, List.setIfInBounds_toArray, List.set_cons_zero, List.set_cons_succ]
                refine Hoist.takeS (i := 19) (v := ?vg19) rfl (by kernel_rfl) (by kernel_rfl) (by kernel_rfl) (fun _ _ _ h => h) ⟨by kernel_rfl, ?hyg19⟩ hb0 ?restg19
                case hyg19 =>
                  intro w' hSw
                  have d0 := bcell hSw b7l e0
                  have d2 := bcell hSw b7l e2
                  have d3 := bcell hSw q5l x0
                  have d4 := bcell hSw q5l x1
                  have d7 := bcell hSw q5l x5
                  have d8 := bcell hSw gl hc
                  go_simp
                  rfl
                simp only [Act.put, List.setIfInBounds_toArray, List.set_cons_zero, List.set_cons_succ]
                refine Hoist.takeS (i := 20) (v := ?vg20) rfl (by kernel_rfl) (by kernel_rfl) (by kernel_rfl) (fun _ _ _ h => h) ⟨by kernel_rfl, ?hyg20⟩ hb0 ?restg20
                case hyg20 =>
                  intro w' hSw
                  have d0 := bcell hSw b7l e0
                  have d2 := bcell hSw b7l e2
                  have d3 := bcell hSw q5l x0
                  have d4 := bcell hSw q5l x1
                  have d7 := bcell hSw q5l x5
                  have d8 := bcell hSw gl hc
                  go_simp
                  rfl
                simp only [Act.put, List.setIfInBounds_toArray, List.set_cons_zero, List.set_cons_succ]
                refine Hoist.takeS (i := 21) (v := ?vg21) rfl (by kernel_rfl) (by kernel_rfl) (by kernel_rfl) (fun _ _ _ h => h) ⟨by kernel_rfl, ?hyg21⟩ hb0 ?restg21
                case hyg21 =>
                  intro w' hSw
                  have d0 := bcell hSw b7l e0
                  have d2 := bcell hSw b7l e2
                  have d3 := bcell hSw q5l x0
                  have d4 := bcell hSw q5l x1
                  have d7 := bcell hSw q5l x5
                  have d8 := bcell hSw gl hc
                  go_simp
                  rfl
                simp only [Act.put, List.setIfInBounds_toArray, List.set_cons_zero, List.set_cons_succ]
                refine Hoist.takeS (i := 22) (v := ?vg22) rfl (by kernel_rfl) (by kernel_rfl) (by kernel_rfl) (fun _ _ _ h => h) ⟨by kernel_rfl, ?hyg22⟩ hb0 ?restg22
                case hyg22 =>
                  intro w' hSw
                  have d0 := bcell hSw b7l e0
                  have d2 := bcell hSw b7l e2
                  have d3 := bcell hSw q5l x0
                  have d4 := bcell hSw q5l x1
                  have d7 := bcell hSw q5l x5
                  have d8 := bcell hSw gl hc
                  go_simp
                  rfl
                simp only [Act.put, List.setIfInBounds_toArray, List.set_cons_zero, List.set_cons_succ]
                refine Hoist.takeS (i := 24) (v := ?vg24) rfl (by kernel_rfl) (by kernel_rfl) (by kernel_rfl) (fun _ _ _ h => h) ⟨by kernel_rfl, ?hyg24⟩ hb0 ?restg24
                case hyg24 =>
                  intro w' hSw
                  have d0 := bcell hSw b7l e0
                  have d2 := bcell hSw b7l e2
                  have d3 := bcell hSw q5l x0
                  have d4 := bcell hSw q5l x1
                  have d7 := bcell hSw q5l x5
                  have d8 := bcell hSw gl hc
                  go_simp
                  rfl
                simp only [Act.put, List.setIfInBounds_toArray, List.set_cons_zero, List.set_cons_succ]
                refine Hoist.takeS (i := 25) (v := ?vg25) rfl (by kernel_rfl) (by kernel_rfl) (by kernel_rfl) (fun _ _ _ h => h) ⟨by kernel_rfl, ?hyg25⟩ hb0 ?restg25
                case hyg25 =>
                  intro w' hSw
                  have d0 := bcell hSw b7l e0
                  have d2 := bcell hSw b7l e2
                  have d3 := bcell hSw q5l x0
                  have d4 := bcell hSw q5l x1
                  have d7 := bcell hSw q5l x5
                  have d8 := bcell hSw gl hc
                  go_simp
                  rfl
                simp only [Act.put, List.setIfInBounds_toArray, List.set_cons_zero, List.set_cons_succ]
                refine Hoist.takeS (i := 26) (v := ?vg26) rfl (by kernel_rfl) (by kernel_rfl) (by kernel_rfl) (fun _ _ _ h => h) ⟨by kernel_rfl, ?hyg26⟩ hb0 ?restg26
                case hyg26 =>
                  intro w' hSw
                  have d0 := bcell hSw b7l e0
                  have d2 := bcell hSw b7l e2
                  have d3 := bcell hSw q5l x0
                  have d4 := bcell hSw q5l x1
                  have d7 := bcell hSw q5l x5
                  have d8 := bcell hSw gl hc
                  go_simp
                  rfl
                simp only [Act.put, List.setIfInBounds_toArray, List.set_cons_zero, List.set_cons_succ]
                refine Hoist.takeS (i := 27) (v := ?vg27) rfl (by kernel_rfl) (by kernel_rfl) (by kernel_rfl) (fun _ _ _ h => h) ⟨by kernel_rfl, ?hyg27⟩ hb0 ?restg27
                case hyg27 =>
                  intro w' hSw
                  have d0 := bcell hSw b7l e0
                  have d2 := bcell hSw b7l e2
                  have d3 := bcell hSw q5l x0
                  have d4 := bcell hSw q5l x1
                  have d7 := bcell hSw q5l x5
                  have d8 := bcell hSw gl hc
                  go_simp
                  rfl
                simp only [Act.put, List.setIfInBounds_toArray, List.set_cons_zero, List.set_cons_succ]
                refine Hoist.takeS (i := 28) (v := ?vg28) rfl (by kernel_rfl) (by kernel_rfl) (by kernel_rfl) (fun _ _ _ h => h) ⟨by kernel_rfl, ?hyg28⟩ hb0 ?restg28
                case hyg28 =>
                  intro w' hSw
                  have d0 := bcell hSw b7l e0
                  have d2 := bcell hSw b7l e2
                  have d3 := bcell hSw q5l x0
                  have d4 := bcell hSw q5l x1
                  have d7 := bcell hSw q5l x5
                  have d8 := bcell hSw gl hc
                  go_simp
                  rfl
                simp only [Act.put, List.setIfInBounds_toArray, List.set_cons_zero, List.set_cons_succ]
                refine Hoist.only (i := 23) rfl (by kernel_rfl) ?_
                intro K' hK
                go_simp
                refine (HPN.out _).mono ?_
                rintro e w2 ⟨rfl, hb2⟩
                have hb3 : Below W2.heap.size W2 w2 := up hb0 hb2
                refine hK _ _ hb3 ?_
                clear hK K'
                by_cases g1 : (ux : Int) = ln
                · by_cases g2 : (uy : Int) = col
                  · refine Hoist.only (i := 29) rfl (by kernel_rfl) ?_
                    intro K' hK
                    go_simp
                    refine hK _ _ hb3 ?_
                    clear hK K'
                    refine Hoist.only (i := 30) rfl (by kernel_rfl) ?_
                    intro K' hK
                    go_simp
                    refine hK _ _ hb3 ?_
                    clear hK K'
                    refine Hoist.only (i := 31) rfl (by kernel_rfl) ?_
                    intro K' hK
                    go_simp
                    refine hK _ _ hb3 ?_
                    clear hK K'
                    refine Hoist.over (by kernel_rfl) ?_ _
                    go_wp2_with fail
                    go_meet
                    exact ⟨true, rfl, (fun h => by cases h), hb3⟩
                  ·
                    have HNO : Hid (¬ KNew out ns ⟨ln, col, 0, ol, oc, (i0 : Int)⟩ k) := Lib.hid (by
                      rintro (h | ⟨i1, h1, h2, h3, h4⟩)
                      · have h : (i0 : Int) < 0 := h
                        omega
                      · have h3 : ln = ((placeOf out k.at).1 : Int) := h3
                        have h4 : col = ((placeOf out k.at).2 : Int) := h4
                        exact g2 (by rw [HUY.out]; exact h4.symm))
                    refine Hoist.only (i := 29) rfl (by kernel_rfl) ?_
                    intro K' hK
                    go_simp
                    refine hK _ _ hb3 ?_
                    clear hK K'
                    refine Hoist.only (i := 30) rfl (by kernel_rfl) ?_
                    intro K' hK
                    go_simp
                    refine hK _ _ hb3 ?_
                    clear hK K'
                    refine Hoist.only (i := 31) rfl (by kernel_rfl) ?_
                    intro K' hK
                    go_simp
                    refine hK _ _ hb3 ?_
                    clear hK K'
                    refine Hoist.over (by kernel_rfl) ?_ _
                    go_wp2_with fail
                    go_meet
                    exact ⟨false, rfl, (fun _ => HNO.out), hb3⟩
                ·
                  have HNO : Hid (¬ KNew out ns ⟨ln, col, 0, ol, oc, (i0 : Int)⟩ k) := Lib.hid (by
                    rintro (h | ⟨i1, h1, h2, h3, h4⟩)
                    · have h : (i0 : Int) < 0 := h
                      omega
                    · have h3 : ln = ((placeOf out k.at).1 : Int) := h3
                      have h4 : col = ((placeOf out k.at).2 : Int) := h4
                      exact g1 (by rw [HUX.out]; exact h3.symm))
                  refine Hoist.only (i := 29) rfl (by kernel_rfl) ?_
                  intro K' hK
                  go_simp
                  refine hK _ _ hb3 ?_
                  clear hK K'
                  refine Hoist.only (i := 30) rfl (by kernel_rfl) ?_
                  intro K' hK
                  go_simp
                  refine hK _ _ hb3 ?_
                  clear hK K'
                  refine Hoist.only (i := 31) rfl (by kernel_rfl) ?_
                  intro K' hK
                  go_simp
                  refine hK _ _ hb3 ?_
                  clear hK K'
                  refine Hoist.over (by kernel_rfl) ?_ _
                  go_wp2_with fail
                  go_meet
                  exact ⟨false, rfl, (fun _ => HNO.out), hb3⟩
            · have n1' : ¬ (i0 : Int) < p := by omega
              have HNO : Hid (¬ KNew out ns ⟨ln, col, 0, ol, oc, (i0 : Int)⟩ k) := Lib.hid (by
                rintro (h | ⟨i1, h1, h2, _⟩)
                · have h : (i0 : Int) < 0 := h
                  omega
                · have h1 : (i0 : Int) = i1 := h1
                  have : i1 = i0 := by omega
                  subst this
                  rw [List.getElem?_eq_none (by rw [← HPP.out]; omega)] at h2
                  cases h2)
              go_quiet (fail)
              go_wp2_with fail
              go_meet
              exact ⟨false, rfl, fun _ => HNO.out, below_drewN (Below.refl _ _) nq⟩
        case rest =>
          obtain ⟨z, rfl, hz, hbc⟩ := hcut
          obtain ⟨W3, hW3⟩ : ∃ W3, W3 = wc := ⟨_, rfl⟩
          rw [← hW3] at hbc ⊢
          clear hW3
          have HB3 := Lib.hid (up HB2.out hbc)
          have HZ := Lib.hid hz
          have y2 : W3.cell? ⟨q5, 2, none⟩ = some (.int .i64 0) := (HK5.out.below HB3.out HK5.out.lt).get 2 rfl
          clear hbc hz
          cases z with
          | true =>
            go_wp2_with fail
            go_returns
            exact ⟨rfl, up HBW.out HB3.out⟩
          | false =>
            have HV : Hid (i < j0) := Lib.hid (by
              rcases Nat.lt_or_ge i j0 with h | h
              · exact h
              · have hij' : i = j0 := by omega
                have h2 := HJ.out
                have h3 := HK.out
                rw [hij', h2] at h3
                injection h3 with h3
                rw [← h3] at HZ
                exact absurd HNEW.out (HZ.out rfl))
            have hms := HMS.out
            go_wp2_with fail
            go_roundg (n - (i + 1))
            case rel => exact ⟨i + 1, by omega, val_int (by omega), HV.out, HB3⟩
            case measure => have := HV.out; omega
end Go.Proofs.Ytobhlppdolekoaa.Ch
