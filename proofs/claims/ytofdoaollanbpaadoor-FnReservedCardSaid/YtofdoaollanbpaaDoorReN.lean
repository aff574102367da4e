/- Scopes and symbols are modest. The walk. -/
import Derived.Test.YtofdoaollanbpaaDoorReM
namespace Go.Proofs.YtofdoaollanbpaaDoor.Res
open Go.RowKit Go.Proofs.YtofdoaollanbpaaDoor.Aid
attribute [local go_sem ↓] Go.wp_at_zero Go.wp_at_succ
set_option linter.unusedVariables false
set_option linter.unusedSimpArgs false
theorem Fit.own {s : Sc} {Y : Nat → Sy} {m i : Nat} (h : Fit s Y m i) : ∀ j, j < s.ownN → 0 ≤ s.ownAt j ∧ s.ownAt j < m := by
  intro j hj
  unfold Sc.ownAt
  by_cases q : j < s.rn
  · rw [if_pos q]
    exact h.refs j q
  · rw [if_neg q]
    by_cases q2 : j < s.rn + s.gn
    · rw [if_pos q2]
      exact h.gens _ (by omega)
    · rw [if_neg q2]
      unfold Sc.ownN at hj
      by_cases hl : 0 ≤ s.l
      · exact ⟨hl, (h.lab hl).1⟩
      · rw [if_neg hl] at hj
        omega
/-- A symbol's kind and flags are of the documentation. -/
def Sy.Plain (y : Sy) : Prop := 0 ≤ y.k ∧ y.k ≤ 27 ∧ (y.fl = 0 ∨ y.fl = 1)
structure Modest (S : Nat → Sc) (n : Nat) (Y : Nat → Sy) (m : Nat) : Prop where
  n60 : n ≤ 60
  m200 : m ≤ 200
  pos : 0 < n
  fit : ∀ i, i < n → Fit (S i) Y m i
  plain : ∀ j, j < m → (Y j).Plain
  calm : ∀ i, i < n → (S i).ev = true → (S i).ownN = 0
/-- A bool was handed back, and true only where P holds. -/
def Told (P : Prop) (e : Ending) : Prop := ∃ z : Bool, e = .returned (.bool z) ∧ (z = true → P)
theorem Told.no {P : Prop} : Told P (.returned (.bool false)) := ⟨false, rfl, fun h => by cases h⟩
theorem Told.yes {P : Prop} (h : P) : Told P (.returned (.bool true)) := ⟨true, rfl, fun _ => h⟩
set_option maxRecDepth 100000 in
set_option maxHeartbeats 4000000 in
theorem modest (A : Option Addr) (n c : Nat) (S : Nat → Sc) (B : Option Addr) (m mc : Nat) (Y : Nat → Sy) (w : World) (h : RSc w A n S) (hn : n ≤ 2147483647) (hY : RSy w B m Y) (hm : m ≤ 2147483647) (hS : ∀ i, i < n → (S i).Small) (hYs : ∀ j, j < m → (Y j).name.size ≤ 2147483647) :
    Calls Tryd.prog 6 #[.slice A n c, .slice B m mc] w fun e w' => Below w.heap.size w w' ∧ Told (Modest S n Y m) e := by
  have HH := Lib.hid (fun W (hb : Below w.heap.size w W) => h.below hb)
  have HY := Lib.hid (fun W (hb : Below w.heap.size w W) => hY.below hb)
  have HSM := Lib.hid hS
  have HYS := Lib.hid hYs
  by_cases hn60 : (60 : Int) < n
  · go_enter Tryd.func6, Tryd.ntmps6
    go_wp2_with fail
    go_returns
    exact ⟨Below.refl _ _, Told.no⟩
  by_cases hm200 : (200 : Int) < m
  · go_enter Tryd.func6, Tryd.ntmps6
    go_wp2_with fail
    go_returns
    exact ⟨Below.refl _ _, Told.no⟩
  have HV := Lib.hid (fun W (hb : Below w.heap.size w W) => scopesValid A n c S B m mc Y W (h.below hb) (by omega) (hY.below hb) (by omega) hS)
  have HLA := Lib.hid (fun hl W (hb : Below w.heap.size w W) => labelsApart A n c S B m mc Y W (h.below hb) (by omega) (hY.below hb) (by omega) hl)
  have HNK := Lib.hid namedByKind
  have HOW := Lib.hid scopeOwn
  have HSP := Lib.hid scopeSpace
  clear h hY hS hYs
  go_enter Tryd.func6, Tryd.ntmps6
  go_wp2_with fail
  refine (HV.out _ (Below.refl _ _)).mono ?_
  rintro e w1 ⟨b1, z, rfl, hz⟩
  have HB1 := Lib.hid b1
  have HZ := Lib.hid hz
  clear b1 hz
  cases z
  · go_wp2_with fail
    go_returns
    exact ⟨HB1.out, Told.no⟩
  go_wp2_with fail
  refine (HLA.out (fun i hi hl => ((HZ.out trivial).2 i hi).lab hl |>.1) _ HB1.out).mono ?_
  rintro e w2 ⟨b2, z, rfl⟩
  have HB2 := Lib.hid (up HB1.out b2)
  clear b2 HB1
  cases z
  · go_wp2_with fail
    go_returns
    exact ⟨HB2.out, Told.no⟩
  go_wp2_with fail
  go_loopg [33] m (fun k iv wr => ∃ (i : Nat), iv = .int .i64 i ∧ Aside (i + k = m ∧ Below w.heap.size w wr ∧ ∀ j, j < i → (Y j).Plain))
  case atStart => exact ⟨0, rfl, ⟨by omega, HB2.out, fun j hj => by omega⟩⟩
  case round =>
    obtain ⟨i, rfl, HA⟩ := hrel
    by_cases hlt : i < m
    · obtain ⟨h0, h1, h2⟩ := HA.out
      obtain ⟨b, o, rfl, hb, hys, y0, y1, y2, y3⟩ := HY.out _ h1 i hlt
      have hlt' : (i : Int) < m := by omega
      have HB := Lib.hid h1
      have HP := Lib.hid h2
      have HI := Lib.hid h0
      clear h0 h1 h2 HA hys
      have K0 := Blk.new wr 37 [.string (Y i).name, .int .u32 (Y i).u, .int .i64 (Y i).fl, .int .i64 (Y i).k]
      go_wp2_with fail
      refine (HNK.out (Y i).name _ _ _ _ (HYS.out i hlt)).mono ?_
      rintro e w3 ⟨b3, z, rfl⟩
      have HB3 := Lib.hid (up (below_at HB.out _) b3)
      have K3 := K0.below b3 (by simp)
      clear b3 K0 y0 y1 y2 y3
      have d2 := K3.get 2 rfl
      have d3 := K3.get 3 rfl
      clear K3
      cases z
      · go_wp2_with fail
        go_returns
        exact ⟨HB3.out, Told.no⟩
      · by_cases k0 : (Y i).k < 0
        · go_wp2_with fail
          go_returns
          exact ⟨HB3.out, Told.no⟩
        · by_cases k27 : 27 < (Y i).k
          · go_wp2_with fail
            go_returns
            exact ⟨HB3.out, Told.no⟩
          · by_cases f0 : (Y i).fl = 0
            · have t0 : ((Y i).fl != 0) = false := by simp [f0]
              have HF := Lib.hid f0
              clear f0
              go_wp2_with fail
              go_roundg (m - (i + 1))
              case measure => have := HI.out; omega
              case rel =>
                refine ⟨i + 1, val_int (by omega), ⟨by have := HI.out; omega, HB3.out, fun j hj => ?_⟩⟩
                rcases Nat.lt_or_ge j i with q | q
                · exact HP.out j q
                · have : j = i := by omega
                  subst this
                  exact ⟨by omega, by omega, .inl HF.out⟩
            · have t0 : ((Y i).fl != 0) = true := by simp [f0]
              clear f0
              by_cases f1 : (Y i).fl = 1
              · have t1 : ((Y i).fl != 1) = false := by simp [f1]
                have HF := Lib.hid f1
                clear f1
                by_cases k18 : (Y i).k = 18
                · have t2 : ((Y i).k == 18) = true := by simp [k18]
                  clear k18
                  go_wp2_with fail
                  go_returns
                  exact ⟨HB3.out, Told.no⟩
                · have t2 : ((Y i).k == 18) = false := by simp [k18]
                  clear k18
                  go_wp2_with fail
                  go_roundg (m - (i + 1))
                  case measure => have := HI.out; omega
                  case rel =>
                    refine ⟨i + 1, val_int (by omega), ⟨by have := HI.out; omega, HB3.out, fun j hj => ?_⟩⟩
                    rcases Nat.lt_or_ge j i with q | q
                    · exact HP.out j q
                    · have : j = i := by omega
                      subst this
                      exact ⟨by omega, by omega, .inr HF.out⟩
              · have t1 : ((Y i).fl != 1) = true := by simp [f1]
                clear f1
                go_wp2_with fail
                go_returns
                exact ⟨HB3.out, Told.no⟩
    · have HP := Lib.hid (show ∀ j, j < m → (Y j).Plain from fun j hj => HA.out.2.2 j (by have := HA.out.1; omega))
      have HB := Lib.hid HA.out.2.1
      clear HA
      go_wp2_with fail
      go_loopg [68] n (fun k iv wr => ∃ (i : Nat), iv = .int .i64 i ∧ Aside (i + k = n ∧ Below w.heap.size w wr ∧ ∀ j, j < i → (S j).ev = true → (S j).ownN = 0))
      case atStart => exact ⟨0, rfl, ⟨by omega, HB.out, fun j hj => by omega⟩⟩
      case round =>
        obtain ⟨i, rfl, HA⟩ := hrel
        by_cases hlt : i < n
        · obtain ⟨h0, h1, h2⟩ := HA.out
          have HCA := Lib.hid h2
          clear h2
          obtain ⟨hIn, b, o, hA, hb, c0, c1, c2, c3, c4, c5, c6⟩ := HH.out _ h1 i hlt
          subst hA
          have hlt' : (i : Int) < n := by omega
          have HB := Lib.hid h1
          have HI := Lib.hid h0
          have HIn := Lib.hid hIn
          have HSm := Lib.hid (HSM.out i hlt)
          have HFit := Lib.hid ((HZ.out trivial).2 i hlt)
          obtain ⟨s, hs⟩ : ∃ s, S i = s := ⟨_, rfl⟩
          rw [hs] at HIn HSm HFit c0 c1 c2 c3 c4 c5 c6
          have HSE := Lib.hid hs
          clear h1 h0 HA hIn hs
          have K0 := Blk.new wr 39 [.int .i64 s.p, .int .i64 s.k, .slice s.A s.n s.c, .slice s.R s.rn s.rc, .slice s.G s.gn s.gc, .int .i64 s.l, .bool s.ev]
          have HK := Lib.hid K0
          clear K0
          go_upto_region 12 with fail
          obtain ⟨W, hW⟩ : ∃ W, W = wr.alloc (.cells #[.int .i64 s.p, .int .i64 s.k, .slice s.A s.n s.c, .slice s.R s.rn s.rc, .slice s.G s.gn s.gc, .int .i64 s.l, .bool s.ev] 39) := ⟨_, rfl⟩
          have HBW := Lib.hid (show Below w.heap.size w W by rw [hW]; exact below_at HB.out _)
          have HInW := Lib.hid (show s.In W by rw [hW]; exact HIn.out.below (below_at (Below.refl _ _) _))
          replace HK : Hid (Blk W wr.heap.size 39 [.int .i64 s.p, .int .i64 s.k, .slice s.A s.n s.c, .slice s.R s.rn s.rc, .slice s.G s.gn s.gc, .int .i64 s.l, .bool s.ev]) := by rw [hW]; exact HK
          rw [← hW]
          clear hW c0 c1 c2 c3 c4 c5 c6 HIn
          have d5 := HK.out.get 5 rfl
          go_cut [83] (fun bv wx => (∃ z, bv = .bool z) ∧ wx = W)
          case first =>
            by_cases hl0 : 0 ≤ s.l
            · obtain ⟨x, hx⟩ : ∃ x : Nat, s.l = x := ⟨s.l.toNat, by omega⟩
              have hxm : x < m := by have := (HFit.out.lab hl0).1; omega
              obtain ⟨xb, xo, hBA, hxb, _, x0, x1, x2, x3⟩ := HY.out _ HBW.out x hxm
              subst hBA
              rw [hx] at d5
              clear hx hl0
              go_wp2_with fail
              go_meet
              exact ⟨⟨_, rfl⟩, rfl⟩
            · have t1 : decide (0 ≤ s.l) = false := by simp; omega
              clear hl0
              go_wp2_with fail
              go_meet
              exact ⟨⟨_, rfl⟩, rfl⟩
          case rest =>
            obtain ⟨⟨z, rfl⟩, rfl⟩ := hcut
            cases z
            · have d0 := HK.out.get 0 rfl
              have d1 := HK.out.get 1 rfl
              have d2 := HK.out.get 2 rfl
              have d3 := HK.out.get 3 rfl
              have d4 := HK.out.get 4 rfl
              have d6 := HK.out.get 6 rfl
              go_wp2_with fail
              refine (HOW.out s _ HInW.out HSm.out.2.2.1 HSm.out.2.2.2).mono ?_
              rintro e w3 ⟨b3, OA, on, oc, rfl, hO, hon⟩
              have HB3 := Lib.hid (up HBW.out b3)
              have HK3 := Lib.hid (HK.out.below b3 HK.out.lt)
              have HO := Lib.hid (Sc.own_reads hO)
              clear b3 hO HBW HK HInW d0 d1 d2 d3 d4 d5 d6
              go_wp2_with fail
              go_loopg [87] on (fun q jv wx => ∃ (j : Nat), jv = .int .i64 j ∧ Aside (j + q = on ∧ Below w3.heap.size w3 wx ∧ (s.ev = true → j = 0)))
              case atStart => exact ⟨0, rfl, ⟨by omega, Below.refl _ _, fun _ => rfl⟩⟩
              case round =>
                obtain ⟨j, rfl, HJ⟩ := hrel
                have HX := Lib.hid HJ.out.2.1
                by_cases hj : j < on
                · obtain ⟨ob, oo, rfl, hob, hoc⟩ := (HO.out.2.below HX.out) j hj
                  obtain ⟨g0, g1⟩ := HFit.out.own j (by have := HO.out.1; omega)
                  obtain ⟨a, ha⟩ : ∃ a : Nat, s.ownAt j = a := ⟨(s.ownAt j).toNat, by omega⟩
                  have ham : a < m := by omega
                  simp only [ha] at hoc
                  have hj' : (j : Int) < on := by omega
                  have HKX := Lib.hid (HK3.out.below HX.out HK3.out.lt)
                  have HBX := Lib.hid (up HB3.out HX.out)
                  obtain ⟨yb, yo, rfl, hyb, hys, y0, y1, y2, y3⟩ := HY.out _ HBX.out a ham
                  have d0 := HKX.out.get 0 rfl
                  have d6 := HKX.out.get 6 rfl
                  clear ha g0 g1
                  obtain ⟨ev, hev⟩ : ∃ ev, s.ev = ev := ⟨_, rfl⟩
                  rw [hev] at d6
                  have HEV := Lib.hid hev
                  clear hev
                  cases ev
                  · by_cases hp0 : 0 ≤ s.p
                    · go_wp2_with fail
                      refine (HSP.out (Y a).name _ _ _ _).mono ?_
                      rintro e w5 ⟨b5, rfl⟩
                      have HX5 := Lib.hid (up HX.out b5)
                      have HB5 := Lib.hid (up HB3.out HX5.out)
                      have z0 := bcell b5 hyb y0
                      obtain ⟨sp, hsp⟩ : ∃ sp, space (Y a).fl (Y a).k (bits .and .i64 (Y a).fl 1 != 0) = sp := ⟨_, rfl⟩
                      rw [hsp]
                      clear hsp b5 y0 y1 y2 y3
                      by_cases h4 : sp = 4
                      · have t4 : (sp == 4) = true := by simp [h4]
                        clear h4
                        by_cases hn9 : (Y a).name = ⟨#[97, 114, 103, 117, 109, 101, 110, 116, 115]⟩
                        · rw [hn9] at z0
                          clear hn9
                          go_wp2_with fail
                          go_roundg (on - (j + 1))
                          case measure => have := HJ.out.1; omega
                          case rel => exact ⟨j + 1, val_int (by omega), ⟨by have := HJ.out.1; omega, HX5.out, fun h => absurd (HEV.out.symm.trans h) (by decide)⟩⟩
                        · have hn9' : ((Y a).name.toList == [97, 114, 103, 117, 109, 101, 110, 116, 115]) = false := by
                            have := ne_lists hn9
                            rw [ByteArray.toList_eq ⟨#[97, 114, 103, 117, 109, 101, 110, 116, 115]⟩] at this
                            exact this
                          clear hn9
                          go_wp2_with fail
                          go_returns
                          exact ⟨HB5.out, Told.no⟩
                      · have t4 : (sp == 4) = false := by simp [h4]
                        clear h4
                        go_wp2_with fail
                        go_roundg (on - (j + 1))
                        case measure => have := HJ.out.1; omega
                        case rel => exact ⟨j + 1, val_int (by omega), ⟨by have := HJ.out.1; omega, HX5.out, fun h => absurd (HEV.out.symm.trans h) (by decide)⟩⟩
                    · have t0 : decide (0 ≤ s.p) = false := by simp; omega
                      clear hp0
                      go_wp2_with fail
                      go_roundg (on - (j + 1))
                      case measure => have := HJ.out.1; omega
                      case rel => exact ⟨j + 1, val_int (by omega), ⟨by have := HJ.out.1; omega, HX.out, fun h => absurd (HEV.out.symm.trans h) (by decide)⟩⟩
                  · go_wp2_with fail
                    go_returns
                    exact ⟨HBX.out, Told.no⟩
                · go_wp2_with fail
                  go_roundg (n - (i + 1))
                  case measure => have := HI.out; omega
                  case rel =>
                    refine ⟨i + 1, val_int (by omega), ⟨by have := HI.out; omega, up HB3.out HX.out, fun k hk => ?_⟩⟩
                    rcases Nat.lt_or_ge k i with q | q
                    · exact HCA.out k q
                    · have : k = i := by omega
                      subst this
                      rw [HSE.out]
                      intro h
                      have h1 := HJ.out.2.2 h
                      have h2 := HO.out.1
                      omega
            · go_wp2_with fail
              go_returns
              exact ⟨HBW.out, Told.no⟩
        · have HBE := Lib.hid HA.out.2.1
          have HCE := Lib.hid (show ∀ j, j < n → (S j).ev = true → (S j).ownN = 0 from fun j hj => HA.out.2.2 j (by have := HA.out.1; omega))
          have hE := HA.out.1
          clear HA
          go_wp2_with fail
          go_returns
          exact ⟨HBE.out, Told.yes ⟨by omega, by omega, (HZ.out trivial).1, (HZ.out trivial).2, HP.out, HCE.out⟩⟩
end Go.Proofs.YtofdoaollanbpaaDoor.Res
