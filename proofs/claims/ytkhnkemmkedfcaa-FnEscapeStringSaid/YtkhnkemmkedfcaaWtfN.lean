/- The statement FnQuoteJSON: a text of WTF-8 that is quoted is a JSON string that means it. The walk of the law. -/
import Derived.Test.YtkhnkemmkedfcaaWtfM
import Derived.Laws.BytesArg
namespace Go.Proofs.Ytkhnkemmkedfcaa.Wtf
open Go.RowKit Go.Proofs.Ytkhnkemmkedfcaa.Aid Go.Proofs.Ytkhnkemmkedfcaa.Runes Go.Proofs.Ytkhnkemmkedfcaa.Bytes
attribute [local go_sem ↓] Go.wp_at_zero Go.wp_at_succ
set_option linter.unusedVariables false
theorem conv (w : World) (base : Nat) (v : Value) (R : List Nat) (h0 : 0 < R.length) (ho : w.ownsRow base 5 1 v R.length (ncells R)) : (convert 44 9 v).run Try.prog w = .ok (.string (str R)) w := by
  obtain ⟨A, c, rfl, hr⟩ := own_form ho
  obtain ⟨g, rfl, _, _, _⟩ := hr 0 (by omega)
  rw [run_convert_bytes_arg w 44 5 Try.underlying44 Try.underlying5 g 0 R.length c (R.map fun n : Nat => (n : Int)) (by simp) (fun i hi => ?_) 9 Try.underlying9]
  · congr 2
    apply ByteArray.ext
    apply Array.toList_inj.1
    simp [strOfNums, str, List.map_map, Function.comp_def]
  · obtain ⟨g', e, _, _, hc⟩ := hr i (by omega)
    injection e with e
    injection e with e
    subst e
    rw [Nat.zero_add, hc, ncells, List.getElem?_map, List.getElem?_eq_getElem hi]
    simp [hi]
/-- The quoted text. -/
def Q34 (ascii : Bool) (s : ByteArray) : List Nat := [34] ++ quote ascii (nats s) ++ [34]
theorem q34_len (ascii : Bool) (s : ByteArray) : 2 ≤ (Q34 ascii s).length ∧ (Q34 ascii s).length ≤ 12 * s.size + 2 := by
  have h := quote_len ascii _ (nats s) rfl
  rw [nats_length] at h
  simp only [Q34, List.length_append, List.length_cons, List.length_nil]
  omega
theorem q34_lt (ascii : Bool) (s : ByteArray) : ∀ b ∈ Q34 ascii s, b < 256 ∧ (ascii = true → b < 128) := by
  intro b hb
  simp only [Q34, List.mem_append, List.mem_cons, List.not_mem_nil, or_false] at hb
  rcases hb with (rfl | hb) | rfl
  · omega
  · exact quote_lt ascii _ (nats s) rfl (nats_lt s) b hb
  · omega
theorem q34_nats (ascii : Bool) (s : ByteArray) : nats (str (Q34 ascii s)) = Q34 ascii s := nats_str _ (fun b hb => (q34_lt ascii s b hb).1)
set_option maxRecDepth 100000 in
set_option maxHeartbeats 2000000 in
theorem quoteForJson (s : ByteArray) (ascii : Bool) (w : World) (hs : s.size ≤ 2147483647) (hfit : Fit (nats s)) :
    Calls Try.prog 23 #[.string s, .bool ascii] w fun e w' => ∃ v, e = .returned v ∧ w'.ownsRow w.heap.size 5 1 v (Q34 ascii s).length (ncells (Q34 ascii s)) ∧ Below w.heap.size w w' := by
  have HQ := Lib.hid (quoted s ascii w hs hfit)
  go_enter Try.func23, Try.ntmps23
  go_wp2_with fail
  refine HQ.out.mono ?_
  rintro e w' ⟨v, rfl, h1, h2⟩
  have H1 := Lib.hid h1
  have H2 := Lib.hid h2
  clear h1 h2
  go_wp2_with fail
  go_returns
  exact ⟨v, rfl, H1.out, H2.out⟩
set_option maxRecDepth 100000 in
set_option maxHeartbeats 2000000 in
theorem quoteJson (s : ByteArray) (ascii : Bool) (w : World) (hs : s.size ≤ 2147483647) (hfit : Fit (nats s)) :
    Calls Try.prog 13 #[.string s, .bool ascii] w fun e w' => e = .returned (.string (str (Q34 ascii s))) ∧ Below w.heap.size w w' := by
  have HQ := Lib.hid (quoteForJson s ascii w hs hfit)
  have HL := Lib.hid (q34_len ascii s)
  go_enter Try.func13, Try.ntmps13
  go_wp2_with fail
  refine HQ.out.mono ?_
  rintro e w' ⟨v, rfl, h1, h2⟩
  have hcv := conv w' _ v _ (by have := HL.out.1; omega) h1
  have H2 := Lib.hid h2
  clear h1 h2
  go_wp2_with fail
  go_returns
  exact ⟨rfl, H2.out⟩
theorem fit_a : Fit (nats ⟨#[97]⟩) := by
  refine ⟨0, [97], ?_⟩
  have h : nats ⟨#[97]⟩ = [97] := rfl
  rw [h, units_next (by simp) (by decide) (by decide)]
  show (units 97 []).map _ = _
  rw [units_nil]
  rfl
theorem quoted_a : str (Q34 true ⟨#[97]⟩) = ⟨#[34, 97, 34]⟩ := by
  have h : nats ⟨#[97]⟩ = [97] := rfl
  have h2 : quote true [97] = [97] := by
    rw [quote_next (by simp) (by decide)]
    show (if can 97 true = true then [97] else _) ++ quote true [] = _
    rw [quote_nil]
    rfl
  rw [Q34, h, h2]
  rfl
theorem byt_str (l : List Nat) (h : ∀ b ∈ l, b < 256) (i : Nat) : byt (str l) i = l.getD i 0 := by rw [← getD_nats, nats_str l h]
set_option maxRecDepth 100000 in
set_option maxHeartbeats 4000000 in
theorem law (s : ByteArray) (ascii : Bool) (w : World) (hs : s.size ≤ 140737488351232) :
    Calls Try.prog 5 #[.string s, .bool ascii] w fun e w' => e = .returned (.bool true) ∧ Below w.heap.size w w' := by
  by_cases hbig : s.size ≤ 2147483647
  · have t0 : ¬ (2147483647 : Int) < s.size := by omega
    have HA := Lib.hid (fun w => quoteJson ⟨#[97]⟩ true w (by decide) fit_a)
    rw [quoted_a] at HA
    have HU := Lib.hid (fun w => wtfUnits s w hbig)
    cases hu : units 0 (nats s) with
    | none =>
      rw [hu] at HU
      clear hu
      go_enter Try.func5, Try.ntmps5
      go_wp2_with fail
      refine (HA.out _).mono ?_
      rintro e w1 ⟨rfl, hb1⟩
      have HB1 := Lib.hid hb1
      clear hb1
      go_wp2_with fail
      refine (HU.out _).mono ?_
      rintro e w2 ⟨hb2, rfl⟩
      have HB2 := Lib.hid (HB1.out.trans (hb2.mono HB1.out.size))
      clear hb2
      go_wp2_with fail
      go_returns
      exact ⟨rfl, HB2.out⟩
    | some us =>
      rw [hu] at HU
      have HQ := Lib.hid (fun w => quoteJson s ascii w hbig ⟨0, us, hu⟩)
      have hl := q34_len ascii s
      have hlt := q34_lt ascii s
      have hpar := parse_quote ascii _ (nats s) 0 us rfl hu
      obtain ⟨q, hq⟩ : ∃ q, q = str (Q34 ascii s) := ⟨_, rfl⟩
      have hqs : q.size = (Q34 ascii s).length := by rw [hq, str_size]
      have hqn : nats q = Q34 ascii s := by rw [hq, q34_nats]
      have hg : ∀ i, byt q i = (Q34 ascii s).getD i 0 := fun i => by rw [hq]; exact byt_str _ (fun b hb => (hlt b hb).1) i
      have HJ := Lib.hid (fun w => jsonString q us w (by omega) (by omega) (by rw [hg]; rfl) (by
        rw [hg, hqs]
        rw [Q34, List.getD, List.getElem?_append_right (by simp only [List.length_append, List.length_cons, List.length_nil]; omega)]
        simp) (by
        rw [← hpar, ins, hqn, hqs, Q34]
        simp))
      have HT := Lib.hid (show ascii = true → ∀ w, Calls Try.prog 16 #[.string q] w fun e w' => e = .returned (.bool true) ∧ w' = w from fun ha w => textAscii q w (by omega) (fun i hi => by
        rw [hg, List.getD, List.getElem?_eq_getElem (by omega)]
        exact (hlt _ (List.getElem_mem _)).2 ha))
      rw [← hq] at HQ
      clear hu hl hlt hpar hq hqs hqn hg
      cases ascii with
      | true =>
        have HT2 := Lib.hid (HT.out rfl)
        go_enter Try.func5, Try.ntmps5
        go_wp2_with fail
        refine (HA.out _).mono ?_
        rintro e w1 ⟨rfl, hb1⟩
        have HB1 := Lib.hid hb1
        clear hb1
        go_wp2_with fail
        refine (HU.out _).mono ?_
        rintro e w2 ⟨hb2, v, rfl, ho2, hl2⟩
        have HB2 := Lib.hid (HB1.out.trans (hb2.mono HB1.out.size))
        have HO2 := Lib.hid ho2
        clear hb2 ho2
        go_wp2_with fail
        refine (HQ.out _).mono ?_
        rintro e w3 ⟨rfl, hb3⟩
        have HO3 := Lib.hid (own_keep HO2.out hb3)
        have HB3 := Lib.hid (HB2.out.trans (hb3.mono HB2.out.size))
        clear hb3
        go_wp2_with fail
        refine (HJ.out _).mono ?_
        rintro e w4 ⟨hb4, v4, rfl, ho4⟩
        have HO4 := Lib.hid (own_keep HO3.out hb4)
        have HB4 := Lib.hid (HB3.out.trans (hb4.mono HB3.out.size))
        have HO5 := Lib.hid ho4
        clear hb4 ho4
        go_wp2_with fail
        refine (wtfEqual us _ _ _ _ _ HO5.out HO4.out hl2).mono ?_
        rintro e w5 ⟨rfl, nd, rfl⟩
        go_wp2_with fail
        refine (HT2.out _).mono ?_
        rintro e w6 ⟨rfl, rfl⟩
        go_wp2_with fail
        go_returns
        exact ⟨rfl, below_drewN HB4.out _⟩
      | false =>
        go_enter Try.func5, Try.ntmps5
        go_wp2_with fail
        refine (HA.out _).mono ?_
        rintro e w1 ⟨rfl, hb1⟩
        have HB1 := Lib.hid hb1
        clear hb1
        go_wp2_with fail
        refine (HU.out _).mono ?_
        rintro e w2 ⟨hb2, v, rfl, ho2, hl2⟩
        have HB2 := Lib.hid (HB1.out.trans (hb2.mono HB1.out.size))
        have HO2 := Lib.hid ho2
        clear hb2 ho2
        go_wp2_with fail
        refine (HQ.out _).mono ?_
        rintro e w3 ⟨rfl, hb3⟩
        have HO3 := Lib.hid (own_keep HO2.out hb3)
        have HB3 := Lib.hid (HB2.out.trans (hb3.mono HB2.out.size))
        clear hb3
        go_wp2_with fail
        refine (HJ.out _).mono ?_
        rintro e w4 ⟨hb4, v4, rfl, ho4⟩
        have HO4 := Lib.hid (own_keep HO3.out hb4)
        have HB4 := Lib.hid (HB3.out.trans (hb4.mono HB3.out.size))
        have HO5 := Lib.hid ho4
        clear hb4 ho4
        go_wp2_with fail
        refine (wtfEqual us _ _ _ _ _ HO5.out HO4.out hl2).mono ?_
        rintro e w5 ⟨rfl, nd, rfl⟩
        go_wp2_with fail
        go_returns
        exact ⟨rfl, below_drewN HB4.out _⟩
  · have t0 : (2147483647 : Int) < s.size := by omega
    clear hbig
    go_enter Try.func5, Try.ntmps5
    go_wp2_with fail
    go_returns
    exact ⟨rfl, Below.refl _ _⟩
end Go.Proofs.Ytkhnkemmkedfcaa.Wtf
