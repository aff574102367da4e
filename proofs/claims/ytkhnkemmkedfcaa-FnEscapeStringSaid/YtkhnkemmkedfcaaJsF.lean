/- The reference's scanner: what stands behind a \\ in a string. The walk. -/
import Derived.Test.YtkhnkemmkedfcaaJsE
import Derived.Deep.CutRange
import Derived.Deep.CutBlock
namespace Go.Proofs.Ytkhnkemmkedfcaa.Js
open Go.RowKit Go.Proofs.Ytkhnkemmkedfcaa.Aid Go.Proofs.Ytkhnkemmkedfcaa.Runes Go.Proofs.Ytkhnkemmkedfcaa.Bytes Go.Proofs.Ytkhnkemmkedfcaa.Wtf Go.Proofs.Ytkhnkemmkedfcaa.Esc
attribute [local go_sem ↓] Go.wp_at_zero Go.wp_at_succ
set_option linter.unusedVariables false
theorem je_eq {l : List Nat} {r n : Nat} (h : ur l = (r, n)) (hn : 0 < n) : je l =
    if r = 98 then some ([8], 1) else if r = 116 then some ([9], 1) else if r = 110 then some ([10], 1) else if r = 118 then some ([11], 1) else if r = 102 then some ([12], 1) else if r = 114 then some ([13], 1)
    else if r = 120 then (hexN 2 (l.drop 1) 0).map fun v => ([v], 3)
    else if r = 117 then (point (l.drop 1)).map fun p => (enc16 p.1, 1 + p.2)
    else if r = 13 then (if l.getD 1 0 = 10 then some ([], 2) else some ([], 1))
    else if r = 10 ∨ r = 8232 ∨ r = 8233 then some ([], n)
    else if ¬ (48 ≤ r ∧ r ≤ 57) then some (enc16 r, n)
    else if r = 48 ∧ ¬ (48 ≤ l.getD 1 0 ∧ l.getD 1 0 ≤ 57) then some ([0], 1)
    else none := by
  unfold je
  rw [h]
  simp only
  rw [if_neg (by omega)]
/-- What the reading of an escape hands back. -/
def EscPost (o : Option (List Nat × Nat)) (g : Nat) (s : ByteArray) (at_ : Nat) (bad : Int) (w : World) (e : Ending) (w' : World) : Prop :=
  w.grownBy w' (some g) ∧ match o with
  | some (us, k) => e = .returned (.tuple #[.string (str (ub us)), .bool false, .bool true]) ∧ Sc w' g s (at_ + k) bad
  | none => ∃ (x : ByteArray) (old is : Bool) (p : Nat), e = .returned (.tuple #[.string x, .bool old, .bool is]) ∧ (is = true → old = true ∧ at_ ≤ p) ∧ x.size ≤ 4 ∧ p ≤ s.size ∧ Sc w' g s p bad
theorem unit_size (us : List Nat) (h : us.length ≤ 2) : (str (ub us)).size ≤ 4 := by rw [str_size, ub_len]; omega
set_option maxRecDepth 100000 in
set_option maxHeartbeats 16000000 in
theorem escape (g : Nat) (s : ByteArray) (at_ : Nat) (bad : Int) (w : World) (h : Sc w g s at_ bad) (hs : s.size ≤ 140737488351232) (ha : at_ ≤ s.size) :
    Calls Try.prog 82 #[.pointer (some ⟨g, 0, none⟩), .bool false] w (EscPost (je ((nats s).drop at_)) g s at_ bad w) := by
  have HR := Lib.hid (scanRune g s at_ bad w h hs ha)
  have HS := Lib.hid h
  obtain ⟨r, n, hrn⟩ : ∃ r n, ur ((nats s).drop at_) = (r, n) := ⟨_, _, rfl⟩
  rw [hrn] at HR
  obtain ⟨O, hO⟩ : ∃ O, O = je ((nats s).drop at_) := ⟨_, rfl⟩
  rw [← hO]
  by_cases hn0 : n = 0
  · have HE := Lib.hid (show O = none by rw [hO, je, hrn, if_pos hn0])
    have hne0 : ((n : Int) == 0) = true := by simp; omega
    clear h hrn hO hn0
    go_enter Try.func82, Try.ntmps82
    go_wp2_with fail
    refine HR.out.mono ?_
    rintro e w1 ⟨rfl, nd, rfl⟩
    go_wp2_with fail
    go_returns
    rw [HE.out]
    exact ⟨only_drewN (World.grownBy.refl w _) _, ⟨#[]⟩, false, false, at_, rfl, (fun h => by cases h), by decide, ha, Sc.drewN HS.out _⟩
  · have hn : 0 < n := by omega
    have hne0 : ((n : Int) == 0) = false := by simp; omega
    have hby := ur_bytes hrn hn
    have hle := ur_le hrn hn
    have hl1 := hle.1
    rw [List.length_drop, nats_length] at hl1
    have hkn : at_ + n ≤ s.size := by omega
    have hr1 := hle.2.2.1
    have HN1 := Lib.hid (show r < 128 → n = 1 by omega)
    have HJ := Lib.hid (hO.trans (je_eq hrn hn))
    have HD1 := Lib.hid (show ∀ k, ((nats s).drop at_).drop k = (nats s).drop (at_ + k) from fun k => by rw [List.drop_drop])
    have HG1' := Lib.hid (show ((nats s).drop at_).getD 1 0 = byt s (at_ + 1) from getD_drop s at_ 1)
    have hlt : at_ < s.size := by omega
    have c1 := Blk.get h 1 rfl
    have f1 := Blk.frozen h 1
    clear h hrn hO hn0 hby hle hl1
    go_enter Try.func82, Try.ntmps82
    go_wp2_with fail
    refine HR.out.mono ?_
    rintro e w1 ⟨rfl, nd, rfl⟩
    go_upto_region 6 with fail
    have HS1 := Lib.hid (Sc.set (Sc.drewN HS.out nd) (at_ + n))
    have HG1 := Lib.hid (only_setCell (p := ⟨g, 1, none⟩) (only_drewN (World.grownBy.refl w (some g)) nd) (.inl rfl) (.int .i64 ((at_ : Int) + (n : Int))))
    rw [Int.natCast_add] at HS1
    obtain ⟨W1, hW1⟩ : ∃ W1, W1 = (w.drewN nd).setCell ⟨g, 1, none⟩ (.int .i64 ((at_ : Int) + (n : Int))) := ⟨_, rfl⟩
    rw [← hW1] at HS1 HG1 ⊢
    clear hW1 c1 f1 hne0
    by_cases q98 : r = 98
    · have t98 : ((r : Int) == 98) = true := by simp; omega
      have HE := Lib.hid (show O = some ([8], 1) by rw [HJ.out, if_pos q98])
      have HU := Lib.hid (show ∀ w, Calls Try.prog 84 #[.int .i64 8] w fun e w' => e = .returned (.string (str (ub [8]))) ∧ Below w.heap.size w w' from fun w => unit 8 w (by omega))
      have HN := Lib.hid (HN1.out (by omega))
      clear q98
      go_wp2_with fail
      refine (HU.out _).mono ?_
      rintro e w2 ⟨rfl, hb2⟩
      have HS2 := Lib.hid (Sc.grown HS1.out hb2)
      have HG2 := Lib.hid (grown_trans HG1.out (only_of_below hb2 _))
      clear hb2
      go_wp2_with fail
      go_returns
      rw [HE.out]
      rw [HN.out] at HS2
      exact ⟨HG2.out, rfl, HS2.out⟩
    have t98 : ((r : Int) == 98) = false := by simp; omega
    by_cases q116 : r = 116
    · have t116 : ((r : Int) == 116) = true := by simp; omega
      have HE := Lib.hid (show O = some ([9], 1) by rw [HJ.out, if_neg q98, if_pos q116])
      have HU := Lib.hid (show ∀ w, Calls Try.prog 84 #[.int .i64 9] w fun e w' => e = .returned (.string (str (ub [9]))) ∧ Below w.heap.size w w' from fun w => unit 9 w (by omega))
      have HN := Lib.hid (HN1.out (by omega))
      clear q98 q116
      go_wp2_with fail
      refine (HU.out _).mono ?_
      rintro e w2 ⟨rfl, hb2⟩
      have HS2 := Lib.hid (Sc.grown HS1.out hb2)
      have HG2 := Lib.hid (grown_trans HG1.out (only_of_below hb2 _))
      clear hb2
      go_wp2_with fail
      go_returns
      rw [HE.out]
      rw [HN.out] at HS2
      exact ⟨HG2.out, rfl, HS2.out⟩
    have t116 : ((r : Int) == 116) = false := by simp; omega
    by_cases q110 : r = 110
    · have t110 : ((r : Int) == 110) = true := by simp; omega
      have HE := Lib.hid (show O = some ([10], 1) by rw [HJ.out, if_neg q98, if_neg q116, if_pos q110])
      have HU := Lib.hid (show ∀ w, Calls Try.prog 84 #[.int .i64 10] w fun e w' => e = .returned (.string (str (ub [10]))) ∧ Below w.heap.size w w' from fun w => unit 10 w (by omega))
      have HN := Lib.hid (HN1.out (by omega))
      clear q98 q116 q110
      go_wp2_with fail
      refine (HU.out _).mono ?_
      rintro e w2 ⟨rfl, hb2⟩
      have HS2 := Lib.hid (Sc.grown HS1.out hb2)
      have HG2 := Lib.hid (grown_trans HG1.out (only_of_below hb2 _))
      clear hb2
      go_wp2_with fail
      go_returns
      rw [HE.out]
      rw [HN.out] at HS2
      exact ⟨HG2.out, rfl, HS2.out⟩
    have t110 : ((r : Int) == 110) = false := by simp; omega
    by_cases q118 : r = 118
    · have t118 : ((r : Int) == 118) = true := by simp; omega
      have HE := Lib.hid (show O = some ([11], 1) by rw [HJ.out, if_neg q98, if_neg q116, if_neg q110, if_pos q118])
      have HU := Lib.hid (show ∀ w, Calls Try.prog 84 #[.int .i64 11] w fun e w' => e = .returned (.string (str (ub [11]))) ∧ Below w.heap.size w w' from fun w => unit 11 w (by omega))
      have HN := Lib.hid (HN1.out (by omega))
      clear q98 q116 q110 q118
      go_wp2_with fail
      refine (HU.out _).mono ?_
      rintro e w2 ⟨rfl, hb2⟩
      have HS2 := Lib.hid (Sc.grown HS1.out hb2)
      have HG2 := Lib.hid (grown_trans HG1.out (only_of_below hb2 _))
      clear hb2
      go_wp2_with fail
      go_returns
      rw [HE.out]
      rw [HN.out] at HS2
      exact ⟨HG2.out, rfl, HS2.out⟩
    have t118 : ((r : Int) == 118) = false := by simp; omega
    by_cases q102 : r = 102
    · have t102 : ((r : Int) == 102) = true := by simp; omega
      have HE := Lib.hid (show O = some ([12], 1) by rw [HJ.out, if_neg q98, if_neg q116, if_neg q110, if_neg q118, if_pos q102])
      have HU := Lib.hid (show ∀ w, Calls Try.prog 84 #[.int .i64 12] w fun e w' => e = .returned (.string (str (ub [12]))) ∧ Below w.heap.size w w' from fun w => unit 12 w (by omega))
      have HN := Lib.hid (HN1.out (by omega))
      clear q98 q116 q110 q118 q102
      go_wp2_with fail
      refine (HU.out _).mono ?_
      rintro e w2 ⟨rfl, hb2⟩
      have HS2 := Lib.hid (Sc.grown HS1.out hb2)
      have HG2 := Lib.hid (grown_trans HG1.out (only_of_below hb2 _))
      clear hb2
      go_wp2_with fail
      go_returns
      rw [HE.out]
      rw [HN.out] at HS2
      exact ⟨HG2.out, rfl, HS2.out⟩
    have t102 : ((r : Int) == 102) = false := by simp; omega
    by_cases q114 : r = 114
    · have t114 : ((r : Int) == 114) = true := by simp; omega
      have HE := Lib.hid (show O = some ([13], 1) by rw [HJ.out, if_neg q98, if_neg q116, if_neg q110, if_neg q118, if_neg q102, if_pos q114])
      have HU := Lib.hid (show ∀ w, Calls Try.prog 84 #[.int .i64 13] w fun e w' => e = .returned (.string (str (ub [13]))) ∧ Below w.heap.size w w' from fun w => unit 13 w (by omega))
      have HN := Lib.hid (HN1.out (by omega))
      clear q98 q116 q110 q118 q102 q114
      go_wp2_with fail
      refine (HU.out _).mono ?_
      rintro e w2 ⟨rfl, hb2⟩
      have HS2 := Lib.hid (Sc.grown HS1.out hb2)
      have HG2 := Lib.hid (grown_trans HG1.out (only_of_below hb2 _))
      clear hb2
      go_wp2_with fail
      go_returns
      rw [HE.out]
      rw [HN.out] at HS2
      exact ⟨HG2.out, rfl, HS2.out⟩
    have t114 : ((r : Int) == 114) = false := by simp; omega
    by_cases q120 : r = 120
    · have t120 : ((r : Int) == 120) = true := by simp; omega
      have HN := Lib.hid (HN1.out (by omega))
      have HH := Lib.hid (scanHex g s (at_ + n) 2 bad W1 HS1.out hs hkn (by omega))
      have HE0 := Lib.hid (show O = (hexN 2 ((nats s).drop (at_ + n)) 0).map fun v => ([v], 3) by rw [HJ.out, if_neg q98, if_neg q116, if_neg q110, if_neg q118, if_neg q102, if_neg q114, if_pos q120, HD1.out, HN.out])
      clear q98 q116 q110 q118 q102 q114 q120
      cases hx : hexN 2 ((nats s).drop (at_ + n)) 0 with
      | some v =>
        have v256 := hexN_lt _ _ _ _ hx
        have HU := Lib.hid (fun w => unit v w (by omega))
        have HE := Lib.hid (show O = some ([v], 3) by rw [HE0.out, hx]; rfl)
        rw [hx] at HH
        clear hx
        go_wp2_with fail
        refine HH.out.mono ?_
        rintro e w2 ⟨hg2, rfl, hs2⟩
        have HG2 := Lib.hid (grown_trans HG1.out hg2)
        have HS2 := Lib.hid hs2
        clear hg2 hs2
        go_wp2_with fail
        refine (HU.out _).mono ?_
        rintro e w3 ⟨rfl, hb3⟩
        have HS3 := Lib.hid (Sc.grown HS2.out hb3)
        have HG3 := Lib.hid (grown_trans HG2.out (only_of_below hb3 _))
        clear hb3
        go_wp2_with fail
        go_returns
        rw [HE.out]
        have HS4 := Lib.hid (show Sc w3 g s (at_ + 3) bad by rw [show at_ + 3 = at_ + n + 2 by have := HN.out; omega]; exact HS3.out)
        exact ⟨HG3.out, rfl, HS4.out⟩
      | none =>
        have HU := Lib.hid (show ∀ w, Calls Try.prog 84 #[.int .i64 0] w fun e w' => e = .returned (.string (str (ub [0]))) ∧ Below w.heap.size w w' from fun w => unit 0 w (by omega))
        have HE := Lib.hid (show O = none by rw [HE0.out, hx]; rfl)
        rw [hx] at HH
        clear hx
        go_wp2_with fail
        refine HH.out.mono ?_
        rintro e w2 ⟨hg2, rfl, p, hp, hs2⟩
        have HG2 := Lib.hid (grown_trans HG1.out hg2)
        have HS2 := Lib.hid hs2
        clear hg2 hs2
        go_wp2_with fail
        refine (HU.out _).mono ?_
        rintro e w3 ⟨rfl, hb3⟩
        have HS3 := Lib.hid (Sc.grown HS2.out hb3)
        have HG3 := Lib.hid (grown_trans HG2.out (only_of_below hb3 _))
        clear hb3
        go_wp2_with fail
        go_returns
        rw [HE.out]
        exact ⟨HG3.out, _, false, false, p, rfl, (fun h => by cases h), unit_size _ (by simp), hp, HS3.out⟩
    have t120 : ((r : Int) == 120) = false := by simp; omega
    by_cases q117 : r = 117
    · have t117 : ((r : Int) == 117) = true := by simp; omega
      have HN := Lib.hid (HN1.out (by omega))
      have HH := Lib.hid (scanPoint g s (at_ + n) bad W1 HS1.out hs hkn)
      have HE0 := Lib.hid (show O = (point ((nats s).drop (at_ + n))).map fun p => (enc16 p.1, 1 + p.2) by rw [HJ.out, if_neg q98, if_neg q116, if_neg q110, if_neg q118, if_neg q102, if_neg q114, if_neg q120, if_pos q117, HD1.out, HN.out])
      clear q98 q116 q110 q118 q102 q114 q120 q117
      cases hx : point ((nats s).drop (at_ + n)) with
      | some pm =>
        obtain ⟨pt, m⟩ := pm
        have hpk := point_keep hx
        have hpt := hpk.2.2.1
        have HU := Lib.hid (fun w => units_walk pt w (by omega))
        have HE := Lib.hid (show O = some (enc16 pt, 1 + m) by rw [HE0.out, hx]; rfl)
        rw [hx] at HH
        clear hx hpk
        go_wp2_with fail
        refine HH.out.mono ?_
        rintro e w2 ⟨hg2, rfl, hs2⟩
        have HG2 := Lib.hid (grown_trans HG1.out hg2)
        have HS2 := Lib.hid hs2
        clear hg2 hs2
        go_wp2_with fail
        refine (HU.out _).mono ?_
        rintro e w3 ⟨rfl, hb3⟩
        have HS3 := Lib.hid (Sc.grown HS2.out hb3)
        have HG3 := Lib.hid (grown_trans HG2.out (only_of_below hb3 _))
        clear hb3
        go_wp2_with fail
        go_returns
        rw [HE.out]
        have HS4 := Lib.hid (show Sc w3 g s (at_ + (1 + m)) bad by rw [show at_ + (1 + m) = at_ + n + m by have := HN.out; omega]; exact HS3.out)
        exact ⟨HG3.out, rfl, HS4.out⟩
      | none =>
        have HU := Lib.hid (show ∀ w, Calls Try.prog 81 #[.int .i64 0] w fun e w' => e = .returned (.string (str (ub [0]))) ∧ Below w.heap.size w w' from fun w => units_walk 0 w (by omega))
        have HE := Lib.hid (show O = none by rw [HE0.out, hx]; rfl)
        rw [hx] at HH
        clear hx
        go_wp2_with fail
        refine HH.out.mono ?_
        rintro e w2 ⟨hg2, rfl, p, hp, hs2⟩
        have HG2 := Lib.hid (grown_trans HG1.out hg2)
        have HS2 := Lib.hid hs2
        clear hg2 hs2
        go_wp2_with fail
        refine (HU.out _).mono ?_
        rintro e w3 ⟨rfl, hb3⟩
        have HS3 := Lib.hid (Sc.grown HS2.out hb3)
        have HG3 := Lib.hid (grown_trans HG2.out (only_of_below hb3 _))
        clear hb3
        go_wp2_with fail
        go_returns
        rw [HE.out]
        exact ⟨HG3.out, _, false, false, p, rfl, (fun h => by cases h), unit_size _ (by simp), hp, HS3.out⟩
    have t117 : ((r : Int) == 117) = false := by simp; omega
    by_cases q13 : r = 13
    · have t13 : ((r : Int) == 13) = true := by simp; omega
      have HN := Lib.hid (HN1.out (by omega))
      have HI := Lib.hid (scanIs g s (at_ + n) bad ⟨#[10]⟩ W1 HS1.out hs hkn (by decide))
      have hone := isAt_one s (at_ + n) ⟨#[10]⟩ 10 rfl hkn
      have HE0 := Lib.hid (show O = if byt s (at_ + n) = 10 then some ([], 2) else some ([], 1) by rw [HJ.out, if_neg q98, if_neg q116, if_neg q110, if_neg q118, if_neg q102, if_neg q114, if_neg q120, if_neg q117, if_pos q13, HG1'.out, HN.out])
      clear q98 q116 q110 q118 q102 q114 q120 q117 q13
      by_cases hb : at_ + n < s.size ∧ byt s (at_ + n) = 10
      · rw [hone, decide_eq_true hb] at HI
        have HE := Lib.hid (show O = some ([], 2) by rw [HE0.out, if_pos hb.2])
        clear hone hb
        have c1 := Blk.get HS1.out 1 rfl
        have f1 := Blk.frozen HS1.out 1
        simp only [Int.natCast_add] at c1
        go_wp2_with fail
        refine HI.out.mono ?_
        rintro e w2 ⟨rfl, n2, rfl⟩
        go_wp2_with fail
        go_returns
        rw [HE.out]
        have HS2 := Lib.hid (Sc.set (Sc.drewN HS1.out n2) (at_ + 2))
        rw [show ((at_ + 2 : Nat) : Int) = (at_ : Int) + (n : Int) + 1 by have := HN.out; omega] at HS2
        exact ⟨only_setCell (p := ⟨g, 1, none⟩) (only_drewN HG1.out _) (.inl rfl) _, rfl, HS2.out⟩
      · rw [hone, decide_eq_false hb] at HI
        have HE := Lib.hid (show O = some ([], 1) by
          rw [HE0.out, if_neg (fun c => hb ⟨?_, c⟩)]
          rcases Nat.lt_or_ge (at_ + n) s.size with h | h
          · exact h
          · rw [byt_out s _ h] at c; cases c)
        clear hone hb
        go_wp2_with fail
        refine HI.out.mono ?_
        rintro e w2 ⟨rfl, n2, rfl⟩
        go_wp2_with fail
        go_returns
        rw [HE.out]
        have HS2 := Lib.hid (Sc.drewN HS1.out n2)
        rw [HN.out] at HS2
        exact ⟨only_drewN HG1.out _, rfl, HS2.out⟩
    have t13 : ((r : Int) == 13) = false := by simp; omega
    by_cases q10 : r = 10
    · have t10 : ((r : Int) == 10) = true := by simp; omega
      have HE := Lib.hid (show O = some ([], n) by rw [HJ.out, if_neg q98, if_neg q116, if_neg q110, if_neg q118, if_neg q102, if_neg q114, if_neg q120, if_neg q117, if_neg q13, if_pos (by omega)])
      clear q98 q116 q110 q118 q102 q114 q120 q117 q13 q10
      go_wp2_with fail
      go_returns
      rw [HE.out]
      exact ⟨HG1.out, rfl, HS1.out⟩
    have t10 : ((r : Int) == 10) = false := by simp; omega
    by_cases q8232 : r = 8232
    · have t8232 : ((r : Int) == 8232) = true := by simp; omega
      have HE := Lib.hid (show O = some ([], n) by rw [HJ.out, if_neg q98, if_neg q116, if_neg q110, if_neg q118, if_neg q102, if_neg q114, if_neg q120, if_neg q117, if_neg q13, if_pos (by omega)])
      clear q98 q116 q110 q118 q102 q114 q120 q117 q13 q10 q8232
      go_wp2_with fail
      go_returns
      rw [HE.out]
      exact ⟨HG1.out, rfl, HS1.out⟩
    have t8232 : ((r : Int) == 8232) = false := by simp; omega
    by_cases q8233 : r = 8233
    · have t8233 : ((r : Int) == 8233) = true := by simp; omega
      have HE := Lib.hid (show O = some ([], n) by rw [HJ.out, if_neg q98, if_neg q116, if_neg q110, if_neg q118, if_neg q102, if_neg q114, if_neg q120, if_neg q117, if_neg q13, if_pos (by omega)])
      clear q98 q116 q110 q118 q102 q114 q120 q117 q13 q10 q8232 q8233
      go_wp2_with fail
      go_returns
      rw [HE.out]
      exact ⟨HG1.out, rfl, HS1.out⟩
    have t8233 : ((r : Int) == 8233) = false := by simp; omega
    have HJ2 := Lib.hid (show O = if ¬ (48 ≤ r ∧ r ≤ 57) then some (enc16 r, n) else if r = 48 ∧ ¬ (48 ≤ byt s (at_ + 1) ∧ byt s (at_ + 1) ≤ 57) then some ([0], 1) else none by rw [HJ.out, if_neg q98, if_neg q116, if_neg q110, if_neg q118, if_neg q102, if_neg q114, if_neg q120, if_neg q117, if_neg q13, if_neg (by omega), HG1'.out])
    clear q98 q116 q110 q118 q102 q114 q120 q117 q13 q10 q8232 q8233
    have HUR := Lib.hid (fun w => units_walk r w (by omega))
    by_cases qd : 48 ≤ r ∧ r ≤ 57
    · have HD := Lib.hid (fun w => digit_walk r w true (by simp [qd]))
      have HN := Lib.hid (HN1.out (by omega))
      have hr48 := qd.1
      have hr57 := qd.2
      have HJ3 := Lib.hid (show O = if r = 48 ∧ ¬ (48 ≤ byt s (at_ + n) ∧ byt s (at_ + n) ≤ 57) then some ([0], 1) else none by rw [HJ2.out, if_neg (by omega), HN.out])
      clear qd
      obtain ⟨p, hp⟩ : ∃ p, p = at_ + n := ⟨_, rfl⟩
      obtain ⟨b, hb⟩ : ∃ b : Nat, b = byt s p := ⟨_, rfl⟩
      have b255 := byt_lt s p
      rw [← hp] at HS1 HJ3 hkn
      rw [← hb] at HJ3 b255
      have c0 := Blk.get HS1.out 0 rfl
      have c1 := Blk.get HS1.out 1 rfl
      have HOC := Lib.hid (show ∀ W : World, Sc W g s p bad → Calls Try.prog 101 #[.pointer (some ⟨g, 0, none⟩)] (W.setCell ⟨g, 1, none⟩ (.int .i64 at_)) (OctPost g s at_ bad (W.setCell ⟨g, 1, none⟩ (.int .i64 at_))) from fun W hW => octal g s at_ bad _ (Sc.set hW at_) hs ha)
      have HP := Lib.hid (show p = at_ + 1 by have := HN.out; omega)
      by_cases hin : p < s.size
      · have t1 : decide (p < s.size) = true := by simp; omega
        have t2 : (p : Int) < s.size := by omega
        have eb : (s[p]'hin).toNat = b := by rw [hb, byt_eq s _ hin]
        have wb : IntKind.i64.wrap (b : Int) = b := IntWalk.i64_in _ (by omega)
        clear hb hp
        go_wp2_with fail
        refine (HD.out _).mono ?_
        rintro e W1 ⟨rfl, rfl⟩
        go_wp2_with fail
        go_quiet (fail)
        go_wp2_with fail
        have HS2 := Lib.hid (Sc.drewN HS1.out nq)
        have HG2 := Lib.hid (only_drewN HG1.out nq)
        obtain ⟨W2, hW2⟩ : ∃ W2, W2 = W1.drewN nq := ⟨_, rfl⟩
        rw [← hW2] at HS2 HG2 ⊢
        clear hW2 c0 c1 t1
        have c0 := Blk.get HS2.out 0 rfl
        have c1 := Blk.get HS2.out 1 rfl
        go_quiet (fail)
        clear wb
        have HS2' := Lib.hid (Sc.drewN HS2.out nq)
        have HG2' := Lib.hid (only_drewN HG2.out nq)
        obtain ⟨W3, hW3⟩ : ∃ W3, W3 = W2.drewN nq := ⟨_, rfl⟩
        rw [← hW3] at HS2' HG2' ⊢
        clear hW3 c0 c1 HS2 HG2
        have HS2 := HS2'
        have HG2 := HG2'
        clear HS2' HG2'
        go_upto_region 38 with fail
        by_cases q48 : r = 48
        · have t48 : ((r : Int) == 48) = true := by simp; omega
          have t56 : ¬ (56 : Int) ≤ r := by omega
          by_cases qb : 48 ≤ b ∧ b ≤ 57
          · have HD2 := Lib.hid (fun w => digit_walk b w true (by simp [qb]))
            have HE := Lib.hid (show O = none by rw [HJ3.out, if_neg (fun c => c.2 qb)])
            clear q48 qb
            go_wp2_with fail
            refine (HD2.out _).mono ?_
            rintro e w3 ⟨rfl, rfl⟩
            have f1 := Blk.frozen HS2.out 1
            have cc1 := Blk.get HS2.out 1 rfl
            go_wp2_with fail
            refine (HOC.out _ HS2.out).mono ?_
            rintro e w4 ⟨v, p4, rfl, hv4, ha4, hp4, hs4, hg4⟩
            have HS4 := Lib.hid hs4
            have HG4 := Lib.hid (grown_trans (only_setCell (p := ⟨g, 1, none⟩) HG2.out (.inl rfl) _) hg4)
            clear hs4 hg4
            have HU := Lib.hid (fun w => unit v w (by omega))
            go_wp2_with fail
            refine (HU.out _).mono ?_
            rintro e w5 ⟨rfl, hb5⟩
            have HS5 := Lib.hid (Sc.grown HS4.out hb5)
            have HG5 := Lib.hid (grown_trans HG4.out (only_of_below hb5 _))
            clear hb5
            go_wp2_with fail
            go_returns
            rw [HE.out]
            exact ⟨HG5.out, _, true, true, p4, rfl, (fun _ => ⟨rfl, ha4⟩), unit_size _ (by simp), hp4, HS5.out⟩
          · have HD2 := Lib.hid (fun w => digit_walk b w false (by simp; omega))
            have HE := Lib.hid (show O = some ([0], 1) by rw [HJ3.out, if_pos ⟨q48, qb⟩])
            clear q48 qb
            have HU := Lib.hid (show ∀ w, Calls Try.prog 84 #[.int .i64 0] w fun e w' => e = .returned (.string (str (ub [0]))) ∧ Below w.heap.size w w' from fun w => unit 0 w (by omega))
            go_wp2_with fail
            refine (HD2.out _).mono ?_
            rintro e w3 ⟨rfl, rfl⟩
            go_wp2_with fail
            refine (HU.out _).mono ?_
            rintro e w4 ⟨rfl, hb4⟩
            have HS4 := Lib.hid (Sc.grown HS2.out hb4)
            have HG4 := Lib.hid (grown_trans HG2.out (only_of_below hb4 _))
            clear hb4
            go_wp2_with fail
            go_returns
            rw [HE.out]
            rw [HP.out] at HS4
            exact ⟨HG4.out, rfl, HS4.out⟩
        · have t48 : ((r : Int) == 48) = false := by simp; omega
          have HE := Lib.hid (show O = none by rw [HJ3.out, if_neg (fun c => q48 c.1)])
          by_cases q56 : 56 ≤ r
          · have t56 : (56 : Int) ≤ r := by omega
            clear q48 q56
            go_wp2_with fail
            refine (HUR.out _).mono ?_
            rintro e w4 ⟨rfl, hb4⟩
            have HS4 := Lib.hid (Sc.grown HS2.out hb4)
            have HG4 := Lib.hid (grown_trans HG2.out (only_of_below hb4 _))
            clear hb4
            go_wp2_with fail
            go_returns
            rw [HE.out]
            exact ⟨HG4.out, _, true, true, p, rfl, (fun _ => ⟨rfl, by have := HP.out; omega⟩), unit_size _ (enc_len r).1, hkn, HS4.out⟩
          · have t56 : ¬ (56 : Int) ≤ r := by omega
            clear q48 q56
            have f1 := Blk.frozen HS2.out 1
            have cc1 := Blk.get HS2.out 1 rfl
            go_wp2_with fail
            refine (HOC.out _ HS2.out).mono ?_
            rintro e w4 ⟨v, p4, rfl, hv4, ha4, hp4, hs4, hg4⟩
            have HS4 := Lib.hid hs4
            have HG4 := Lib.hid (grown_trans (only_setCell (p := ⟨g, 1, none⟩) HG2.out (.inl rfl) _) hg4)
            clear hs4 hg4
            have HU := Lib.hid (fun w => unit v w (by omega))
            go_wp2_with fail
            refine (HU.out _).mono ?_
            rintro e w5 ⟨rfl, hb5⟩
            have HS5 := Lib.hid (Sc.grown HS4.out hb5)
            have HG5 := Lib.hid (grown_trans HG4.out (only_of_below hb5 _))
            clear hb5
            go_wp2_with fail
            go_returns
            rw [HE.out]
            exact ⟨HG5.out, _, true, true, p4, rfl, (fun _ => ⟨rfl, ha4⟩), unit_size _ (by simp), hp4, HS5.out⟩
      · have t1 : decide (p < s.size) = false := by simp; omega
        have hb0 : b = 0 := by rw [hb, byt_out s p (by omega)]
        have HJ4 := Lib.hid (show O = if r = 48 ∧ ¬ (48 ≤ b ∧ b ≤ 57) then some ([0], 1) else none from HJ3.out)
        clear hb hp hin
        go_wp2_with fail
        refine (HD.out _).mono ?_
        rintro e W1 ⟨rfl, rfl⟩
        go_wp2_with fail
        go_quiet (fail)
        have HS2 := Lib.hid (Sc.drewN HS1.out nq)
        have HG2 := Lib.hid (only_drewN HG1.out nq)
        obtain ⟨W2, hW2⟩ : ∃ W2, W2 = W1.drewN nq := ⟨_, rfl⟩
        rw [← hW2] at HS2 HG2 ⊢
        clear hW2 c0 c1 t1
        subst hb0
        go_upto_region 38 with fail
        by_cases q48 : r = 48
        · have t48 : ((r : Int) == 48) = true := by simp; omega
          have t56 : ¬ (56 : Int) ≤ r := by omega
          by_cases qb : 48 ≤ 0 ∧ 0 ≤ 57
          · have HD2 := Lib.hid (fun w => digit_walk 0 w true (by simp [qb]))
            have HE := Lib.hid (show O = none by rw [HJ3.out, if_neg (fun c => c.2 qb)])
            clear q48 qb
            go_wp2_with fail
            refine (HD2.out _).mono ?_
            rintro e w3 ⟨rfl, rfl⟩
            have f1 := Blk.frozen HS2.out 1
            have cc1 := Blk.get HS2.out 1 rfl
            go_wp2_with fail
            refine (HOC.out _ HS2.out).mono ?_
            rintro e w4 ⟨v, p4, rfl, hv4, ha4, hp4, hs4, hg4⟩
            have HS4 := Lib.hid hs4
            have HG4 := Lib.hid (grown_trans (only_setCell (p := ⟨g, 1, none⟩) HG2.out (.inl rfl) _) hg4)
            clear hs4 hg4
            have HU := Lib.hid (fun w => unit v w (by omega))
            go_wp2_with fail
            refine (HU.out _).mono ?_
            rintro e w5 ⟨rfl, hb5⟩
            have HS5 := Lib.hid (Sc.grown HS4.out hb5)
            have HG5 := Lib.hid (grown_trans HG4.out (only_of_below hb5 _))
            clear hb5
            go_wp2_with fail
            go_returns
            rw [HE.out]
            exact ⟨HG5.out, _, true, true, p4, rfl, (fun _ => ⟨rfl, ha4⟩), unit_size _ (by simp), hp4, HS5.out⟩
          · have HD2 := Lib.hid (fun w => digit_walk 0 w false (by decide))
            have HE := Lib.hid (show O = some ([0], 1) by rw [HJ3.out, if_pos ⟨q48, qb⟩])
            clear q48 qb
            have HU := Lib.hid (show ∀ w, Calls Try.prog 84 #[.int .i64 0] w fun e w' => e = .returned (.string (str (ub [0]))) ∧ Below w.heap.size w w' from fun w => unit 0 w (by omega))
            go_wp2_with fail
            refine (HD2.out _).mono ?_
            rintro e w3 ⟨rfl, rfl⟩
            go_wp2_with fail
            refine (HU.out _).mono ?_
            rintro e w4 ⟨rfl, hb4⟩
            have HS4 := Lib.hid (Sc.grown HS2.out hb4)
            have HG4 := Lib.hid (grown_trans HG2.out (only_of_below hb4 _))
            clear hb4
            go_wp2_with fail
            go_returns
            rw [HE.out]
            rw [HP.out] at HS4
            exact ⟨HG4.out, rfl, HS4.out⟩
        · have t48 : ((r : Int) == 48) = false := by simp; omega
          have HE := Lib.hid (show O = none by rw [HJ3.out, if_neg (fun c => q48 c.1)])
          by_cases q56 : 56 ≤ r
          · have t56 : (56 : Int) ≤ r := by omega
            clear q48 q56
            go_wp2_with fail
            refine (HUR.out _).mono ?_
            rintro e w4 ⟨rfl, hb4⟩
            have HS4 := Lib.hid (Sc.grown HS2.out hb4)
            have HG4 := Lib.hid (grown_trans HG2.out (only_of_below hb4 _))
            clear hb4
            go_wp2_with fail
            go_returns
            rw [HE.out]
            exact ⟨HG4.out, _, true, true, p, rfl, (fun _ => ⟨rfl, by have := HP.out; omega⟩), unit_size _ (enc_len r).1, hkn, HS4.out⟩
          · have t56 : ¬ (56 : Int) ≤ r := by omega
            clear q48 q56
            have f1 := Blk.frozen HS2.out 1
            have cc1 := Blk.get HS2.out 1 rfl
            go_wp2_with fail
            refine (HOC.out _ HS2.out).mono ?_
            rintro e w4 ⟨v, p4, rfl, hv4, ha4, hp4, hs4, hg4⟩
            have HS4 := Lib.hid hs4
            have HG4 := Lib.hid (grown_trans (only_setCell (p := ⟨g, 1, none⟩) HG2.out (.inl rfl) _) hg4)
            clear hs4 hg4
            have HU := Lib.hid (fun w => unit v w (by omega))
            go_wp2_with fail
            refine (HU.out _).mono ?_
            rintro e w5 ⟨rfl, hb5⟩
            have HS5 := Lib.hid (Sc.grown HS4.out hb5)
            have HG5 := Lib.hid (grown_trans HG4.out (only_of_below hb5 _))
            clear hb5
            go_wp2_with fail
            go_returns
            rw [HE.out]
            exact ⟨HG5.out, _, true, true, p4, rfl, (fun _ => ⟨rfl, ha4⟩), unit_size _ (by simp), hp4, HS5.out⟩
    · have HD := Lib.hid (fun w => digit_walk r w false (by simp; omega))
      have HE := Lib.hid (show O = some (enc16 r, n) by rw [HJ2.out, if_pos qd])
      clear qd
      go_wp2_with fail
      refine (HD.out _).mono ?_
      rintro e w2 ⟨rfl, rfl⟩
      go_wp2_with fail
      refine (HUR.out _).mono ?_
      rintro e w3 ⟨rfl, hb3⟩
      have HS3 := Lib.hid (Sc.grown HS1.out hb3)
      have HG3 := Lib.hid (grown_trans HG1.out (only_of_below hb3 _))
      clear hb3
      go_wp2_with fail
      go_returns
      rw [HE.out]
      exact ⟨HG3.out, rfl, HS3.out⟩
end Go.Proofs.Ytkhnkemmkedfcaa.Js
