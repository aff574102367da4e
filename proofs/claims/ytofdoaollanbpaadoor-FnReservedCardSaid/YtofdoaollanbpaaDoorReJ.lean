/- Members have the names of their symbols. The walk. -/
import Derived.Test.YtofdoaollanbpaaDoorReI
namespace Go.Proofs.YtofdoaollanbpaaDoor.Res
open Go.RowKit Go.Proofs.YtofdoaollanbpaaDoor.Aid
attribute [local go_sem ↓] Go.wp_at_zero Go.wp_at_succ
set_option linter.unusedVariables false
set_option linter.unusedSimpArgs false
/-- The members of a scope have the names of their symbols, each once. -/
def Named (s : Sc) (Y : Nat → Sy) : Prop := s.n = s.rn ∧ (∀ i j, i < j → j < s.n → s.names i ≠ s.names j) ∧ ∀ i, i < s.rn → s.names i = (Y (s.refs i).toNat).name
set_option maxRecDepth 100000 in
theorem scopeNamed (s : Sc) (B : Option Addr) (m mc : Nat) (Y : Nat → Sy) (w : World) (hs : s.In w) (hY : RSy w B m Y) (hm : m ≤ 9223372036854775807) (hr : ∀ i, i < s.rn → 0 ≤ s.refs i ∧ s.refs i < m) :
    Calls Tryd.prog 26 #[s.val, .slice B m mc] w fun e w' => Below w.heap.size w w' ∧ ∃ z, e = .returned (.bool z) ∧ (z = true → Named s Y) := by
  have HS := Lib.hid (fun W (hb : Below w.heap.size w W) => hs.below hb)
  have HY := Lib.hid (fun W (hb : Below w.heap.size w W) => hY.below hb)
  have HR := Lib.hid hr
  have HT := Lib.hid (fun W (hb : Below w.heap.size w W) => namesTwice s.A s.n s.c s.names W ((hs.below hb).r1) hs.n1 hs.z1)
  have n2 := hs.n2
  clear hs hY hr
  unfold Sc.val scV
  by_cases hne : s.n = s.rn
  · have hnr : ((s.n : Int) != (s.rn : Int)) = false := by simp; omega
    have HE := Lib.hid hne
    clear hne
    go_enter Tryd.func26, Tryd.ntmps26
    go_wp2_with fail
    obtain ⟨W, hW⟩ : ∃ W, W = w.alloc (.cells #[.int .i64 s.p, .int .i64 s.k, .slice s.A s.n s.c, .slice s.R s.rn s.rc, .slice s.G s.gn s.gc, .int .i64 s.l, .bool s.ev] 39) := ⟨_, rfl⟩
    have B0 : Below w.heap.size w W := by rw [hW]; exact below_at (Below.refl _ _) _
    have K0 : Blk W w.heap.size 39 [.int .i64 s.p, .int .i64 s.k, .slice s.A s.n s.c, .slice s.R s.rn s.rc, .slice s.G s.gn s.gc, .int .i64 s.l, .bool s.ev] := by rw [hW]; exact Blk.new w 39 _
    rw [← hW]
    clear hW
    refine (HT.out _ B0).mono ?_
    rintro e w1 ⟨hb1, z, rfl, hz⟩
    have HZ := Lib.hid hz
    have hw1 := up B0 hb1
    have K1 := K0.below hb1 K0.lt
    clear hz B0 K0 hb1
    cases z
    · have c3 := K1.get 3 rfl
      go_wp2_with fail
      have HNS := Lib.hid (HZ.out trivial)
      clear HZ c3
      have HB1 := Lib.hid hw1
      have HK1 := Lib.hid K1
      clear hw1 K1
      go_loopw [22] (fun iv wr => ∃ i : Nat, iv = .int .i64 i ∧ i ≤ s.rn ∧ Below w.heap.size w wr ∧ Blk wr w.heap.size 39 [.int .i64 s.p, .int .i64 s.k, .slice s.A s.n s.c, .slice s.R s.rn s.rc, .slice s.G s.gn s.gc, .int .i64 s.l, .bool s.ev] ∧ Hid (∀ j, j < i → s.names j = (Y (s.refs j).toNat).name)) (fun iv _ => ((s.rn : Int) - intOf iv).toNat)
      case atStart => exact ⟨0, rfl, by omega, HB1.out, HK1.out, Lib.hid (fun j hj => by omega)⟩
      case round =>
        obtain ⟨i, rfl, hi, hw, hK, HN⟩ := hrel
        by_cases hlt : i < s.rn
        · have hsW := HS.out _ hw
          have hlt' : (i : Int) < s.rn := by omega
          obtain ⟨rb, ro, hRA, hrb, hrc⟩ := hsW.r2 i hlt
          obtain ⟨nb, no, hNA, hnb, hnc⟩ := hsW.r1 i (by have := HE.out; omega)
          obtain ⟨q0, q1⟩ := HR.out i hlt
          obtain ⟨k, hk⟩ : ∃ k : Nat, s.refs i = k := ⟨(s.refs i).toNat, by omega⟩
          have hkm : k < m := by omega
          obtain ⟨b, o, rfl, hb, hss, y0, -⟩ := HY.out _ hw k hkm
          have HX := Lib.hid hk
          simp only [hk] at hrc
          simp only at hnc
          have c2 := hK.get 2 rfl
          have c3 := hK.get 3 rfl
          have hin : (i : Int) < s.n := by have := HE.out; omega
          have HK := Lib.hid hK
          have HW := Lib.hid hw
          clear hsW hk q0 q1 hK hw
          rw [hNA] at c2
          rw [hRA] at c3
          by_cases hx : s.names i = (Y k).name
          · have HQ := Lib.hid hx
            rw [hx] at hnc
            clear hx
            go_wp2_with fail
            go_quiet (fail)
            go_wp2_with fail
            go_roundw
            case rel =>
              refine ⟨i + 1, val_int (by omega), by omega, below_drewN HW.out _, HK.out.drewN _, Lib.hid fun j hj => ?_⟩
              rcases Nat.lt_or_ge j i with q | q
              · exact HN.out j q
              · have : j = i := by omega
                subst this
                rw [HX.out]
                exact HQ.out
            case measure => simp [intOf]; omega
          · have hx' := ne_lists hx
            clear hx
            go_wp2_with fail
            go_quiet (fail)
            go_wp2_with fail
            go_returns
            exact ⟨below_drewN HW.out _, false, rfl, fun h => by cases h⟩
        · go_wp2_with fail
          go_returns
          exact ⟨hw, true, rfl, fun _ => ⟨HE.out, HNS.out, fun j hj => HN.out j (by omega)⟩⟩
    · go_wp2_with fail
      go_returns
      exact ⟨hw1, false, rfl, fun h => by cases h⟩
  · have hnr : ((s.n : Int) != (s.rn : Int)) = true := by simp; omega
    go_enter Tryd.func26, Tryd.ntmps26
    go_wp2_with fail
    go_returns
    exact ⟨below_at (Below.refl _ _) _, false, rfl, fun h => by cases h⟩
end Go.Proofs.YtofdoaollanbpaaDoor.Res
