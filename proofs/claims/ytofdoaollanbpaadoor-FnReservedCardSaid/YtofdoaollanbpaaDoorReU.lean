/- Scopes with eval, which declare nothing: they reserve no name. The walk (a function that calls itself). -/
import Derived.Test.YtofdoaollanbpaaDoorReT
namespace Go.Proofs.YtofdoaollanbpaaDoor.Res
open Go.RowKit Go.Proofs.YtofdoaollanbpaaDoor.Aid
attribute [local go_sem ↓] Go.wp_at_zero Go.wp_at_succ
set_option linter.unusedVariables false
set_option linter.unusedSimpArgs false
variable {H : Type}
set_option maxRecDepth 100000 in
set_option maxHeartbeats 8000000 in
theorem compB {F : Fo H} (base i gs : Nat) (S : Nat → Sc) (nv : Value) (hcalm : ∀ j, j < i → (S j).ev = true → (S j).n = 0 ∧ (S j).gn = 0) (hi : i ≤ 60) : ∀ (d j : Nat) (w : World), i - j ≤ d → j < i → (S j).ev = true → Forest w base F S i →
    Calls Tryd.prog 32 #[.pointer (some ⟨F.P j, 0, none⟩), .agg #[.slice (some ⟨gs, 0, none⟩) 1 1], nv] w fun e w' => e = .returned (.tuple #[]) ∧ Below w.heap.size w w' := by
  have HC := Lib.hid hcalm
  clear hcalm
  intro d
  induction d with
  | zero => intro j w h1 h2; omega
  | succ d ih =>
    intro j w hd hj hev hF
    have HIH := Lib.hid ih
    clear ih
    obtain ⟨hn0, hg0⟩ := HC.out j hj hev
    have HF := Lib.hid hF
    obtain ⟨s, hs⟩ : ∃ s, S j = s := ⟨_, rfl⟩
    have H1 := Lib.hid (hF.one j hj)
    rw [hs] at H1 hn0 hg0 hev
    have HSE := Lib.hid hs
    obtain ⟨p, hP⟩ : ∃ p, F.P j = p := ⟨_, rfl⟩
    obtain ⟨M, hM⟩ : ∃ M, F.M j = M := ⟨_, rfl⟩
    have HPE := Lib.hid hP
    have HME := Lib.hid hM
    have h50 := Blk.new w 50 [.slice (some ⟨gs, 0, none⟩) 1 1]
    rw [hP]
    clear hF hP hM hs
    go_enter Tryd.func32, Tryd.ntmps32
    go_upto_region 1 with fail
    obtain ⟨W, hW⟩ : ∃ W, W = w.alloc (.cells #[.slice (some ⟨gs, 0, none⟩) 1 1] 50) := ⟨_, rfl⟩
    have HB := Lib.hid (show Below w.heap.size w W by rw [hW]; exact below_at (Below.refl _ _) _)
    rw [← hW] at h50 ⊢
    have HL := Lib.hid h50
    have H1W := Lib.hid (H1.out.below HB.out)
    have hmem := H1W.out.mem
    rw [HME.out, hn0] at hmem
    have c3 := H1W.out.cells.get 3 rfl
    rw [HPE.out, HME.out] at c3
    clear h50 hW
    go_wp2_with (first
      | (at_range; refine wpList_range_own _ rfl _ 67 rfl 9 82 key9 Tryd.underlying67 _ M 0 _ rfl hmem ?_; intro w0 hrg0 hg0' hs0)
      | fail)
    go_frame
    have hsz := size_le hmem
    have hB0 := HB.out.trans (below_of_only (Below.refl w.heap.size W) HB.out.size hg0' (fun g hg => by cases hg))
    have HB0 := Lib.hid hB0
    have HL0 := Lib.hid (HL.out.grown hg0' (by simp))
    obtain ⟨r, hr⟩ : ∃ r, r = W.heap.size := ⟨_, rfl⟩
    rw [← hr] at hrg0 ⊢
    have HRG := Lib.hid hrg0
    clear hrg0 hs0 hg0' hB0 hr c3 hmem H1W HL HB
    go_loopg [8] (Maps.size (F.D j)) (fun k sv wr => Aside (k = Maps.size (F.D j)) ∧ wr = w0)
    case atStart => exact ⟨rfl, rfl⟩
    case round =>
      obtain ⟨hk, hw⟩ := hrel
      subst hw
      have hrg := HRG.out
      go_wp2_with (first
        | (at_next; refine wpList_next_ranges _ rfl _ rfl 9 key9 refE Value.string refV (fun key kl hk => by obtain ⟨x, hx, _⟩ := WideMaps.string_of_keyOf Tryd.underlying9 hk; exact ⟨x, hx⟩) (fun v y hv => by obtain ⟨r, hr, _⟩ := refE_inv hv; exact ⟨r, hr⟩) M r 0 _ _ _ rfl hrg ?_ ?_)
        | fail)
      · intro hc0 hl0
        clear hrg hl0 HRG
        have H1R := Lib.hid (H1.out.below HB0.out)
        obtain ⟨gA, gc, hgA, _⟩ := own_form H1R.out.gen
        have c5 := H1R.out.cells.get 5 rfl
        rw [HPE.out, hgA, hg0] at c5
        clear hgA
        go_wp2_with fail
        refine wp_loop_rounds 1 ?_
        rw [rounds_succ]
        have c11 := H1R.out.cells.get 11 rfl
        rw [HPE.out, hev] at c11
        obtain ⟨cA, cc, hcA, hcc⟩ := own_form H1R.out.kids
        have c2 := H1R.out.cells.get 2 rfl
        rw [HPE.out, hcA] at c2
        have HCC := Lib.hid hcc
        have hcn := H1R.out.few
        clear hcA hcc c5
        go_wp2_with fail
        go_loopg [83] (F.cn j) (fun q tv wx => ∃ (t : Nat), tv = .int .i64 t ∧ Aside (t + q = F.cn j ∧ Below wr.heap.size wr wx))
        case atStart => exact ⟨0, rfl, ⟨by omega, Below.refl _ _⟩⟩
        case round =>
          obtain ⟨t, rfl, hA⟩ := hrel
          have HI := Lib.hid hA.out.1
          have HX := Lib.hid hA.out.2
          clear hA
          by_cases hlt : t < F.cn j
          · have hlt' : (t : Int) < F.cn j := by omega
            obtain ⟨cg, hcg, _, hcl, hcc⟩ := HCC.out t (by omega)
            subst hcg
            rw [row_get _ _ _ hlt] at hcc
            have hcx := bcell HX.out hcl hcc
            obtain ⟨k0, k1⟩ := H1.out.kid t hlt
            obtain ⟨cj, hcj⟩ : ∃ cj, F.ch j t = cj := ⟨_, rfl⟩
            rw [hcj] at k0 k1 hcx
            have HFX := Lib.hid ((HF.out.below HB0.out).below HX.out)
            have cev := (HFX.out.one cj k1).cells.get 11 rfl
            have c50 := ((HL0.out).below HX.out HL0.out.lt).get 0 rfl
            obtain ⟨ev, hev'⟩ : ∃ ev, (S cj).ev = ev := ⟨_, rfl⟩
            rw [hev'] at cev
            have HEV := Lib.hid hev'
            clear hcc hcj hev'
            cases ev
            · go_wp2_with fail
              go_roundg (F.cn j - (t + 1))
              case measure => have := HI.out; omega
              case rel => exact ⟨t + 1, val_int (by omega), ⟨by have := HI.out; omega, HX.out⟩⟩
            · go_wp2_with fail
              refine (HIH.out cj _ (by omega) k1 HEV.out HFX.out).mono ?_
              rintro e w5 ⟨rfl, b5⟩
              have HX5 := Lib.hid (HX.out.trans (Below.mono_ b5 HX.out.size))
              clear b5
              go_wp2_with fail
              go_roundg (F.cn j - (t + 1))
              case measure => have := HI.out; omega
              case rel => exact ⟨t + 1, val_int (by omega), ⟨by have := HI.out; omega, HX5.out⟩⟩
          · go_wp2_with fail
            go_returns
            exact ⟨rfl, HB0.out.trans (Below.mono_ HX.out HB0.out.size)⟩
      · intro x rr kl yd yp w1 cnt1 _ _ _ _ _ hlt
        exfalso
        omega
end Go.Proofs.YtofdoaollanbpaaDoor.Res
