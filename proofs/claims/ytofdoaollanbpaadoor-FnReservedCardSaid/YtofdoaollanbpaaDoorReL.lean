/- Scopes are those of one module. The walk. -/
import Derived.Test.YtofdoaollanbpaaDoorReK
import Derived.Deep.LoopGhost
namespace Go.Proofs.YtofdoaollanbpaaDoor.Res
open Go.RowKit Go.Proofs.YtofdoaollanbpaaDoor.Aid
attribute [local go_sem ↓] Go.wp_at_zero Go.wp_at_succ
set_option linter.unusedVariables false
set_option linter.unusedSimpArgs false
theorem info4 : (Tryd.prog.info? 4).map (fun i => (i.zero, i.size, i.bytes)) = some (some (.bool false), 1, 1) := by kernel_rfl
theorem mkBools (m : Nat) (hm : m ≤ 1000000) (w : World) : (Instr.makeSlice 55 (.int .i64 m) (.int .i64 m)).run Tryd.prog w = .ok (.slice (some ⟨w.heap.size, 0, none⟩) m m) (w.alloc (.cells (row m fun _ => .bool false).toArray 4)) := by
  obtain ⟨i0, hi, hz0, hz1, hz2⟩ := info_parts info4
  have h := run_make (P := Tryd.prog) w 55 4 i0 _ Tryd.underlying55 hi hz0 .i64 .i64 m m (by omega) (Int.le_refl _) (by rw [hz2]; omega) (by omega)
  rw [h, hz1]
  have e : madeCells (Value.bool false).cells (((m : Int)).toNat * 1) = (row m fun _ => Value.bool false).toArray := by
    rw [← Array.toList_inj, Int.toNat_natCast, Nat.mul_one]
    have : (Value.bool false).cells = #[.bool false] := rfl
    rw [this, toList_madeCells_one]
    simp [row, List.map_const']
  rw [e]
  simp
def Sc.ownN (s : Sc) : Nat := s.rn + s.gn + (if 0 ≤ s.l then 1 else 0)
/-- What a scope declares, by its number. -/
def Sc.ownAt (s : Sc) (j : Nat) : Int := if j < s.rn then s.refs j else if j < s.rn + s.gn then s.gens (j - s.rn) else s.l
theorem row_append (a b : Nat) (f g : Nat → Value) : row a f ++ row b g = row (a + b) (fun j => if j < a then f j else g (j - a)) := by
  refine List.ext_getElem? fun j => ?_
  rcases Nat.lt_or_ge j a with h | h
  · rw [List.getElem?_append_left (by rw [row_length]; exact h), row_get _ _ _ h, row_get _ _ _ (by omega), if_pos h]
  · rw [List.getElem?_append_right (by rw [row_length]; exact h), row_length]
    rcases Nat.lt_or_ge j (a + b) with h2 | h2
    · rw [row_get _ _ _ (by omega), row_get _ _ _ h2, if_neg (by omega)]
    · rw [List.getElem?_eq_none (by rw [row_length]; omega), List.getElem?_eq_none (by rw [row_length]; omega)]
theorem Sc.own_row (s : Sc) : s.own = row s.ownN (fun j => .int .i64 (s.ownAt j)) := by
  unfold Sc.own
  rw [row_append]
  unfold Sc.ownN
  by_cases h : 0 ≤ s.l
  · rw [if_pos h, if_pos h, row_snoc]
    congr 1
    · refine row_congr _ _ _ fun j hj => ?_
      unfold Sc.ownAt
      by_cases q : j < s.rn
      · rw [if_pos q, if_pos q]
      · rw [if_neg q, if_neg q, if_pos hj]
    · unfold Sc.ownAt
      rw [if_neg (by omega), if_neg (by omega)]
  · rw [if_neg h, if_neg h, List.append_nil]
    refine row_congr _ _ _ fun j hj => ?_
    unfold Sc.ownAt
    by_cases q : j < s.rn
    · rw [if_pos q, if_pos q]
    · rw [if_neg q, if_neg q, if_pos (by omega)]
theorem Sc.own_reads {s : Sc} {w : World} {base n c : Nat} {A : Option Addr} (h : w.ownsRow base 3 1 (.slice A n c) n s.own) : n = s.ownN ∧ Reads w A n (fun j => .int .i64 (s.ownAt j)) := by
  have hn : n = s.ownN := by
    have := h.1
    rw [s.own_row, row_length] at this
    omega
  refine ⟨hn, Reads.of_own h fun j hj => ?_⟩
  rw [s.own_row, row_get _ _ _ (by omega)]
theorem Sc.own_within {s : Sc} {m : Nat} (h : ∀ j, j < s.ownN → 0 ≤ s.ownAt j ∧ s.ownAt j < m) : (∀ j, j < s.rn → 0 ≤ s.refs j ∧ s.refs j < m) ∧ (∀ j, j < s.gn → 0 ≤ s.gens j ∧ s.gens j < m) ∧ (0 ≤ s.l → s.l < m) := by
  refine ⟨fun j hj => ?_, fun j hj => ?_, fun hl => ?_⟩
  · have := h j (by unfold Sc.ownN; omega)
    unfold Sc.ownAt at this
    rwa [if_pos hj] at this
  · have := h (s.rn + j) (by unfold Sc.ownN; omega)
    unfold Sc.ownAt at this
    rwa [if_neg (by omega), if_pos (by omega), Nat.add_sub_cancel_left] at this
  · have := h (s.rn + s.gn) (by unfold Sc.ownN; rw [if_pos hl]; omega)
    unfold Sc.ownAt at this
    rw [if_neg (by omega), if_neg (by omega)] at this
    exact this.2
theorem own_apart {w : World} {base n c g : Nat} {A : Option Addr} {xs cs : List Value} (h : w.ownsRow base 3 1 (.slice A n c) n xs) (hK : Blk w g 4 cs) : ∀ b o, A = some ⟨b, o, none⟩ → b ≠ g := by
  rintro b o rfl rfl
  exact own_ne h hK (by decide) (by simp [Value.ownBlock])
/-- A scope is one of a module's, at its place. -/
structure Fit (s : Sc) (Y : Nat → Sy) (m i : Nat) : Prop where
  top : i = 0 → s.p = -1 ∧ s.k = 6
  par : 0 < i → 0 ≤ s.p ∧ s.p < i
  kind : 0 ≤ s.k ∧ s.k ≤ 9
  low : -1 ≤ s.l
  refs : ∀ j, j < s.rn → 0 ≤ s.refs j ∧ s.refs j < m
  gens : ∀ j, j < s.gn → 0 ≤ s.gens j ∧ s.gens j < m
  lab : 0 ≤ s.l → s.l < m ∧ s.k = 2 ∧ (Y s.l.toNat).k = 18
  labk : s.k = 2 → 0 ≤ s.l
  named : Named s Y
set_option maxRecDepth 100000 in
theorem scopesValid (A : Option Addr) (n c : Nat) (S : Nat → Sc) (B : Option Addr) (m mc : Nat) (Y : Nat → Sy) (w : World) (h : RSc w A n S) (hn : n ≤ 60) (hY : RSy w B m Y) (hm : m ≤ 200) (hS : ∀ i, i < n → (S i).Small) :
    Calls Tryd.prog 14 #[.slice A n c, .slice B m mc] w fun e w' => Below w.heap.size w w' ∧ ∃ z, e = .returned (.bool z) ∧ (z = true → 0 < n ∧ ∀ i, i < n → Fit (S i) Y m i) := by
  have HH := Lib.hid (fun W (hb : Below w.heap.size w W) => h.below hb)
  have HY := Lib.hid (fun W (hb : Below w.heap.size w W) => hY.below hb)
  have hmk := mkBools m (by omega)
  have HBT := Lib.hid (fun a n b w => between a n b w)
  have HSM := Lib.hid hS
  have HOW := Lib.hid scopeOwn
  have HON := Lib.hid scopeOnce
  have HNM := Lib.hid scopeNamed
  clear h hY hS
  go_enter Tryd.func14, Tryd.ntmps14
  go_wp2_with fail
  go_loopg [13] n (fun k iv wr => ∃ (i : Nat) (fb : Nat → Bool), iv = .int .i64 i ∧ Aside (i + k = n ∧ Below w.heap.size w wr ∧ Blk wr w.heap.size 4 (row m fun j => .bool (fb j)) ∧ ∀ j, j < i → Fit (S j) Y m j))
  case atStart => exact ⟨0, _, rfl, ⟨by omega, below_at (Below.refl _ _) _, Blk.new w 4 _, fun j hj => by omega⟩⟩
  case round =>
    obtain ⟨i, fb, rfl, HA⟩ := hrel
    by_cases hlt : i < n
    · obtain ⟨h0, h1, h2, h3⟩ := HA.out
      obtain ⟨hIn, b, o, rfl, hb, c0, c1, c2, c3, c4, c5, c6⟩ := HH.out _ h1 i hlt
      have hlt' : (i : Int) < n := by omega
      have HB := Lib.hid h1
      have HK := Lib.hid h2
      have HF := Lib.hid h3
      have HI := Lib.hid h0
      have HSm := Lib.hid (HSM.out i hlt)
      have HINW := Lib.hid (fun W (hb : Below w.heap.size w W) => (HH.out W hb i hlt).1)
      obtain ⟨s, hs⟩ : ∃ s, S i = s := ⟨_, rfl⟩
      have HE := Lib.hid hs
      rw [hs] at hIn c0 c1 c2 c3 c4 c5 c6 HSm HINW
      have HIn := Lib.hid hIn
      clear h1 h2 h3 hs HA h0 hIn
      go_upto_region 5 with fail
      obtain ⟨W, hW⟩ : ∃ W, W = wr.alloc (.cells #[.int .i64 s.p, .int .i64 s.k, .slice s.A s.n s.c, .slice s.R s.rn s.rc, .slice s.G s.gn s.gc, .int .i64 s.l, .bool s.ev] 39) := ⟨_, rfl⟩
      have B0 : Below w.heap.size w W := by rw [hW]; exact below_at HB.out _
      have K0 : Blk W wr.heap.size 39 [.int .i64 s.p, .int .i64 s.k, .slice s.A s.n s.c, .slice s.R s.rn s.rc, .slice s.G s.gn s.gc, .int .i64 s.l, .bool s.ev] := by rw [hW]; exact Blk.new wr 39 _
      have HK0 := Lib.hid (show Blk W w.heap.size 4 (row m fun j => .bool (fb j)) by rw [hW]; exact HK.out.alloc _)
      have HIn0 := Lib.hid (show s.In W by rw [hW]; exact HIn.out.below (below_at (Below.refl _ _) _))
      have HB0 := Lib.hid B0
      rw [← hW]
      clear hW HK HIn B0 c0 c1 c2 c3 c4 c5 c6
      have d0 := K0.get 0 rfl
      have d1 := K0.get 1 rfl
      have d5 := K0.get 5 rfl
      have HS0 := Lib.hid K0
      clear K0
      go_cut [18] (fun bv wx => (∃ z, bv = .bool z ∧ Hid (z = false → i = 0 → s.p = -1 ∧ s.k = 6)) ∧ wx = W)
      case first =>
        by_cases hi0 : i = 0
        · have t0 : ((i : Int) == 0) = true := by simp [hi0]
          have HI0 := Lib.hid hi0
          clear hi0
          by_cases hp : s.p = -1
          · have t1 : (s.p != -1) = false := by simp [hp]
            have HP := Lib.hid hp
            clear hp
            by_cases hk : s.k = 6
            · have t2 : (s.k != 6) = false := by simp [hk]
              have HKK := Lib.hid hk
              clear hk
              go_wp2_with fail
              go_meet
              exact ⟨⟨_, rfl, Lib.hid fun _ _ => ⟨HP.out, HKK.out⟩⟩, rfl⟩
            · have t2 : (s.k != 6) = true := by simp [hk]
              clear hk
              go_wp2_with fail
              go_meet
              exact ⟨⟨_, rfl, Lib.hid fun h => by cases h⟩, rfl⟩
          · have t1 : (s.p != -1) = true := by simp [hp]
            clear hp
            go_wp2_with fail
            go_meet
            exact ⟨⟨_, rfl, Lib.hid fun h => by cases h⟩, rfl⟩
        · have t0 : ((i : Int) == 0) = false := by simp; omega
          have HI0 := Lib.hid hi0
          clear hi0
          go_wp2_with fail
          go_meet
          exact ⟨⟨_, rfl, Lib.hid fun _ h => absurd h HI0.out⟩, rfl⟩
      case rest =>
        obtain ⟨⟨z, rfl, HZ5⟩, rfl⟩ := hcut
        cases z
        · go_upto_region 6 with fail
          go_cut [18] (fun bv wx => (∃ z, bv = .bool z ∧ Hid (z = false → 0 < i → 0 ≤ s.p ∧ s.p < i)) ∧ wx = wc)
          case first =>
            by_cases hi0 : i = 0
            · have t0 : ¬ 0 < i := by omega
              have HI0 := Lib.hid hi0
              clear hi0
              go_wp2_with fail
              go_meet
              exact ⟨⟨_, rfl, Lib.hid fun _ h => by have := HI0.out; omega⟩, rfl⟩
            · have t0 : 0 < i := by omega
              clear hi0
              by_cases hp : s.p < 0
              · go_wp2_with fail
                go_meet
                exact ⟨⟨_, rfl, Lib.hid fun h => by cases h⟩, rfl⟩
              · by_cases hq : (i : Int) ≤ s.p
                · go_wp2_with fail
                  go_meet
                  exact ⟨⟨_, rfl, Lib.hid fun h => by cases h⟩, rfl⟩
                · go_wp2_with fail
                  go_meet
                  exact ⟨⟨_, rfl, Lib.hid fun _ _ => by omega⟩, rfl⟩
          case rest =>
            obtain ⟨⟨z, rfl, HZ6⟩, rfl⟩ := hcut
            cases z
            · go_wp2_with fail
              refine (HBT.out _ _ _ _).mono ?_
              rintro e w' ⟨rfl, rfl⟩
              by_cases hk1 : 0 ≤ s.k ∧ s.k ≤ 9
              · have HK9 := Lib.hid hk1
                rw [show (decide (0 ≤ s.k) && decide (s.k ≤ 9)) = true by simp [hk1]]
                clear hk1
                by_cases hl1 : s.l < -1
                · go_wp2_with fail
                  go_returns
                  first | exact ⟨HB0.out, false, rfl, fun h => by cases h⟩ | exact ⟨HB0.out, .inl rfl⟩
                · go_upto_region 10 with fail
                  clear d0 d1 d5
                  have d0 := HS0.out.get 0 rfl
                  have d1 := HS0.out.get 1 rfl
                  have d2 := HS0.out.get 2 rfl
                  have d3 := HS0.out.get 3 rfl
                  have d4 := HS0.out.get 4 rfl
                  have d5 := HS0.out.get 5 rfl
                  have d6 := HS0.out.get 6 rfl
                  go_wp2_with fail
                  refine (HOW.out s _ HIn0.out HSm.out.2.2.1 HSm.out.2.2.2).mono ?_
                  rintro e w1 ⟨b1, OA, on, oc, rfl, hO, hon⟩
                  have HB1 := Lib.hid (up HB0.out b1)
                  have HK1 := Lib.hid (HK0.out.below b1 HK0.out.lt)
                  have HS1 := Lib.hid (HS0.out.below b1 HS0.out.lt)
                  have HIn1 := Lib.hid (HIn0.out.below b1)
                  have HO := Lib.hid hO
                  have HSIZE := Lib.hid b1.size
                  clear b1 hO HK0 HS0 HIn0 d0 d1 d2 d3 d4 d5 d6
                  go_wp2_with fail
                  obtain ⟨hon', hr⟩ := Sc.own_reads HO.out
                  refine (HON.out OA on oc s.ownAt w.heap.size m fb w1 hr (by omega) (by omega) HK1.out (own_apart HO.out HK1.out)).mono ?_
                  rintro e w2 ⟨g2, ⟨fb2, k2⟩, z, rfl, hz⟩
                  have b2 := below_of_only HB1.out HB1.out.size g2 (fun g hg => by injection hg with hg; omega)
                  have HB2 := Lib.hid b2
                  have HK2 := Lib.hid k2
                  have HS2 := Lib.hid (HS1.out.grown g2 (by
                    intro hq
                    injection hq with hq
                    have := HB.out.size
                    exact blk_ne HS1.out HK1.out (by decide) hq))
                  have HZ10 := Lib.hid (fun h => Sc.own_within (m := m) (by rw [← hon']; exact hz h))
                  clear hr g2 k2 b2 hz HB1 HK1 HS1 HIn1 HO hon hon' HSIZE
                  cases z
                  · go_wp2_with fail
                    go_returns
                    first | exact ⟨HB2.out, false, rfl, fun h => by cases h⟩ | exact ⟨HB2.out, .inl rfl⟩
                  · have d0 := HS2.out.get 0 rfl
                    have d1 := HS2.out.get 1 rfl
                    have d2 := HS2.out.get 2 rfl
                    have d3 := HS2.out.get 3 rfl
                    have d4 := HS2.out.get 4 rfl
                    have d5 := HS2.out.get 5 rfl
                    have d6 := HS2.out.get 6 rfl
                    go_wp2_with fail
                    refine (HNM.out s B m mc Y w2 (HINW.out _ HB2.out) (HY.out _ HB2.out) (by omega) (HZ10.out trivial).1).mono ?_
                    rintro e w3 ⟨b3, z, rfl, hz⟩
                    have HB3 := Lib.hid (up HB2.out b3)
                    have HK3 := Lib.hid (HK2.out.below b3 HK2.out.lt)
                    have HS3 := Lib.hid (HS2.out.below b3 HS2.out.lt)
                    have HZN := Lib.hid hz
                    clear b3 hz HB2 HK2 HS2 d0 d1 d2 d3 d4 d5 d6
                    cases z
                    · go_wp2_with fail
                      go_returns
                      first | exact ⟨HB3.out, false, rfl, fun h => by cases h⟩ | exact ⟨HB3.out, .inl rfl⟩
                    · have d1 := HS3.out.get 1 rfl
                      have d5 := HS3.out.get 5 rfl
                      by_cases hl0 : 0 ≤ s.l
                      · by_cases hk2 : s.k = 2
                        · have t1 : (s.k == 2) = true := by simp [hk2]
                          have HK22 := Lib.hid hk2
                          obtain ⟨k, hk⟩ : ∃ k : Nat, s.l = k := ⟨s.l.toNat, by omega⟩
                          have HKL := Lib.hid hk
                          have hkm : k < m := by have := (HZ10.out trivial).2.2 hl0; omega
                          obtain ⟨yb, yo, rfl, hyb, hys, y0, y1, y2, y3⟩ := HY.out _ HB3.out k hkm
                          rw [hk] at d5
                          have HLL := Lib.hid hl0
                          clear hk hk2 hl0 hys y0 y1 y2
                          by_cases hy18 : (Y k).k = 18
                          · have t2 : ((Y k).k != 18) = false := by simp [hy18]
                            have HY18 := Lib.hid hy18
                            clear hy18
                            go_wp2_with fail
                            go_roundg (gk - 1)
                            case measure => have := HI.out; omega
                            case rel =>
                              refine ⟨i + 1, fb2, val_int (by omega), ⟨by have := HI.out; omega, HB3.out, HK3.out, fun j hj => ?_⟩⟩
                              rcases Nat.lt_or_ge j i with q | q
                              · exact HF.out j q
                              · have : j = i := by omega
                                subst this
                                rw [HE.out]
                                exact { top := fun h => HZ5.out trivial h, par := fun h => HZ6.out trivial h, kind := HK9.out, low := by omega, refs := (HZ10.out trivial).1, gens := (HZ10.out trivial).2.1, lab := fun h => ⟨(HZ10.out trivial).2.2 h, HK22.out, by rw [HKL.out]; exact HY18.out⟩, labk := fun _ => HLL.out, named := HZN.out trivial }
                          · have t2 : ((Y k).k != 18) = true := by simp [hy18]
                            clear hy18
                            go_wp2_with fail
                            go_returns
                            first | exact ⟨HB3.out, false, rfl, fun h => by cases h⟩ | exact ⟨HB3.out, .inl rfl⟩
                        · have t1 : (s.k == 2) = false := by simp [hk2]
                          clear hk2
                          go_wp2_with fail
                          go_returns
                          first | exact ⟨HB3.out, false, rfl, fun h => by cases h⟩ | exact ⟨HB3.out, .inl rfl⟩
                      · by_cases hk2 : s.k = 2
                        · have t1 : (s.k == 2) = true := by simp [hk2]
                          have t0 : decide (0 ≤ s.l) = false := by simp; omega
                          clear hk2
                          go_wp2_with fail
                          go_returns
                          first | exact ⟨HB3.out, false, rfl, fun h => by cases h⟩ | exact ⟨HB3.out, .inl rfl⟩
                        · have t1 : (s.k == 2) = false := by simp [hk2]
                          have HK22 := Lib.hid hk2
                          clear hk2
                          have HL0 := Lib.hid hl0
                          go_wp2_with fail
                          go_roundg (gk - 1)
                          case measure => have := HI.out; omega
                          case rel =>
                            refine ⟨i + 1, fb2, val_int (by omega), ⟨by have := HI.out; omega, HB3.out, HK3.out, fun j hj => ?_⟩⟩
                            rcases Nat.lt_or_ge j i with q | q
                            · exact HF.out j q
                            · have : j = i := by omega
                              subst this
                              rw [HE.out]
                              exact { top := fun h => HZ5.out trivial h, par := fun h => HZ6.out trivial h, kind := HK9.out, low := by omega, refs := (HZ10.out trivial).1, gens := (HZ10.out trivial).2.1, lab := fun h => absurd h (by have := HL0.out; omega), labk := fun h => absurd h HK22.out, named := HZN.out trivial }
              · rw [show (decide (0 ≤ s.k) && decide (s.k ≤ 9)) = false by simp; omega]
                clear hk1
                go_wp2_with fail
                go_returns
                first | exact ⟨HB0.out, false, rfl, fun h => by cases h⟩ | exact ⟨HB0.out, .inl rfl⟩
            · go_wp2_with fail
              go_returns
              first | exact ⟨HB0.out, false, rfl, fun h => by cases h⟩ | exact ⟨HB0.out, .inl rfl⟩
        · go_wp2_with fail
          go_returns
          first | exact ⟨HB0.out, false, rfl, fun h => by cases h⟩ | exact ⟨HB0.out, .inl rfl⟩
    · go_wp2_with fail
      go_returns
      obtain ⟨h0, h1, h2, h3⟩ := HA.out
      refine ⟨h1, _, rfl, fun hz => ⟨by simpa using hz, fun j hj => h3 j (by omega)⟩⟩
end Go.Proofs.YtofdoaollanbpaaDoor.Res
