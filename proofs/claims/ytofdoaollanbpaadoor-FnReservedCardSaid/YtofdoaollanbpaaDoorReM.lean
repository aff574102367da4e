/- No label stands in one of its name: weak. The walk. -/
import Derived.Test.YtofdoaollanbpaaDoorReL
namespace Go.Proofs.YtofdoaollanbpaaDoor.Res
open Go.RowKit Go.Proofs.YtofdoaollanbpaaDoor.Aid
attribute [local go_sem ↓] Go.wp_at_zero Go.wp_at_succ
set_option linter.unusedVariables false
set_option linter.unusedSimpArgs false
/-- Some bool was handed back. -/
def IsBool (e : Ending) : Prop := ∃ z : Bool, e = .returned (.bool z)
theorem IsBool.mk (z : Bool) : IsBool (.returned (.bool z)) := ⟨z, rfl⟩
set_option maxRecDepth 100000 in
theorem labelsApart (A : Option Addr) (n c : Nat) (S : Nat → Sc) (B : Option Addr) (m mc : Nat) (Y : Nat → Sy) (w : World) (h : RSc w A n S) (hn : n ≤ 60) (hY : RSy w B m Y) (hm : m ≤ 200) (hS : ∀ i, i < n → 0 ≤ (S i).l → (S i).l < m) :
    Calls Tryd.prog 15 #[.slice A n c, .slice B m mc] w fun e w' => Below w.heap.size w w' ∧ IsBool e := by
  have HH := Lib.hid (fun W (hb : Below w.heap.size w W) => h.below hb)
  have HY := Lib.hid (fun W (hb : Below w.heap.size w W) => hY.below hb)
  have HL := Lib.hid hS
  have HW := Lib.hid (fun x W (hb : Below w.heap.size w W) => scopeWay A n c S x W (h.below hb) (by omega))
  clear h hY hS
  go_enter Tryd.func15, Tryd.ntmps15
  go_wp2_with fail
  go_loopg [11] n (fun k iv wr => ∃ (i : Nat), iv = .int .i64 i ∧ Aside (i + k = n ∧ Below w.heap.size w wr))
  case atStart => exact ⟨0, rfl, ⟨by omega, Below.refl _ _⟩⟩
  case round =>
    obtain ⟨i, rfl, HA⟩ := hrel
    by_cases hlt : i < n
    · obtain ⟨h0, h1⟩ := HA.out
      obtain ⟨hIn, b, o, hA, hb, c0, c1, c2, c3, c4, c5, c6⟩ := HH.out _ h1 i hlt
      subst hA
      have hlt' : (i : Int) < n := by omega
      have HB := Lib.hid h1
      have HI := Lib.hid h0
      obtain ⟨s, hs⟩ : ∃ s, S i = s := ⟨_, rfl⟩
      have HE := Lib.hid hs
      rw [hs] at c0 c1 c2 c3 c4 c5 c6
      clear h1 h0 HA hIn hs
      go_wp2_with fail
      refine (HW.out s.p _ (below_at HB.out _)).mono ?_
      rintro e w1 ⟨b1, WB, k, kc, rfl, hk, g, hO, hg⟩
      have HB1 := Lib.hid (up (below_at HB.out _) b1)
      have HK1 := Lib.hid ((Blk.new wr 39 [.int .i64 s.p, .int .i64 s.k, .slice s.A s.n s.c, .slice s.R s.rn s.rc, .slice s.G s.gn s.gc, .int .i64 s.l, .bool s.ev]).below b1 (by simp))
      have HO := Lib.hid (Reads.of_own hO (fun j hj => row_get k _ j hj))
      have HG := Lib.hid hg
      clear b1 hO hg c0 c1 c2 c3 c4 c5 c6
      go_wp2_with fail
      go_loopg [20] k (fun q jv wx => ∃ (j d : Nat), jv = .int .i64 j ∧ Aside (j + q = k) ∧ wx = w1.drewN d)
      case atStart => exact ⟨0, 0, rfl, by show 0 + k = k; omega, rfl⟩
      case round =>
        obtain ⟨j, d, hjv, HJ, hw⟩ := hrel
        subst hjv hw
        by_cases hj : j < k
        · obtain ⟨jb, jo, rfl, hjb, hjc⟩ := HO.out j hj
          obtain ⟨g0, g1⟩ := HG.out j hj
          obtain ⟨t, ht⟩ : ∃ t : Nat, g j = t := ⟨(g j).toNat, by omega⟩
          simp only [ht] at hjc
          have htn : t < n := by omega
          have hj' : (j : Int) < k := by omega
          have d5 := HK1.out.get 5 rfl
          obtain ⟨_, b', o', hA', _, _, _, _, _, _, e5, _⟩ := HH.out _ HB1.out t htn
          injection hA' with hA'
          injection hA' with q0 q1
          subst q0 q1
          have HT := Lib.hid ht
          clear ht g0 g1
          by_cases hl0 : 0 ≤ s.l
          · obtain ⟨x, hx⟩ : ∃ x : Nat, s.l = x := ⟨s.l.toNat, by omega⟩
            have hxm : x < m := by have := HL.out i hlt; rw [HE.out] at this; have := this hl0; omega
            rw [hx] at d5
            clear hx hl0
            by_cases hl1 : 0 ≤ (S t).l
            · have t1 : decide (0 ≤ (S t).l) = true := by simp; omega
              obtain ⟨y, hy⟩ : ∃ y : Nat, (S t).l = y := ⟨(S t).l.toNat, by omega⟩
              have hym : y < m := by have := HL.out t htn hl1; omega
              rw [hy] at e5 t1
              obtain ⟨xb, xo, hBA, hxb, _, x0, -⟩ := HY.out _ HB1.out x hxm
              obtain ⟨yb, yo, hBA', hyb, _, y0, -⟩ := HY.out _ HB1.out y hym
              subst hBA
              injection hBA' with hBA'
              injection hBA' with q2 q3
              subst q2 q3
              clear hy hl1
              by_cases hne : (Y x).name = (Y y).name
              · rw [hne] at x0
                clear hne
                go_wp2_with fail
                go_quiet (fail)
                go_wp2_with fail
                go_returns
                exact ⟨below_drewN (below_drewN HB1.out _) _, IsBool.mk false⟩
              · have hne' := ne_lists hne
                clear hne
                go_wp2_with fail
                go_quiet (fail)
                go_wp2_with fail
                go_roundg (k - (j + 1))
                case measure => have := HJ.out; omega
                case rel => exact ⟨j + 1, _, val_int (by omega), (by show j + 1 + (k - (j + 1)) = k; omega), rfl⟩
            · have t1 : decide (0 ≤ (S t).l) = false := by simp; omega
              clear hl1
              go_wp2_with fail
              go_quiet (fail)
              go_wp2_with fail
              go_roundg (k - (j + 1))
              case measure => have := HJ.out; omega
              case rel => exact ⟨j + 1, _, val_int (by omega), (by show j + 1 + (k - (j + 1)) = k; omega), rfl⟩
          · have t1 : decide (0 ≤ s.l) = false := by simp; omega
            clear hl0
            go_wp2_with fail
            go_quiet (fail)
            go_wp2_with fail
            go_roundg (k - (j + 1))
            case measure => have := HJ.out; omega
            case rel => exact ⟨j + 1, _, val_int (by omega), (by show j + 1 + (k - (j + 1)) = k; omega), rfl⟩
        · go_wp2_with fail
          go_roundg (n - (i + 1))
          case measure => have := HI.out; omega
          case rel => exact ⟨i + 1, val_int (by omega), ⟨by have := HI.out; omega, below_drewN HB1.out _⟩⟩
    · go_wp2_with fail
      go_returns
      exact ⟨HA.out.2, IsBool.mk true⟩
end Go.Proofs.YtofdoaollanbpaaDoor.Res
