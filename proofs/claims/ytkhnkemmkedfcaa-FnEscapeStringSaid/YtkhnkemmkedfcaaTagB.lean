/- A closing tag is escaped: the package's walk. -/
import Derived.Test.YtkhnkemmkedfcaaTagA
import Derived.Test.YtkhnkemmkedfcaaBuildA
import Derived.Test.YtkhnkemmkedfcaaShelf
import Derived.Lib.UnsafeStr
namespace Go.Proofs.Ytkhnkemmkedfcaa.Tag
open Go.RowKit Go.Proofs.Ytkhnkemmkedfcaa.Aid Go.Proofs.Ytkhnkemmkedfcaa.Runes Go.Proofs.Ytkhnkemmkedfcaa.Bytes Go.Proofs.Ytkhnkemmkedfcaa.Wtf Go.Proofs.Ytkhnkemmkedfcaa.Esc Go.Proofs.Ytkhnkemmkedfcaa.Js
attribute [local go_sem ↓] Go.wp_at_zero Go.wp_at_succ
set_option linter.unusedVariables false
/-- What is known of the builder: what it holds, and what was there before. -/
def St (w : World) (l : List Nat) (wr : World) : Prop := Lib.IsBuilder 59 5 w.heap.size w.heap.size (ncells l) wr ∧ Below w.heap.size w wr
theorem builder_keep {T e : TypeId} {B b : Nat} {bs : List Value} {w w' : World} (h : Lib.IsBuilder T e B b bs w) (hb : Below w.heap.size w w') : Lib.IsBuilder T e B b bs w' := by
  rcases h with h | h
  · obtain ⟨hB, v, hk, hown, hne⟩ := h
    exact .inl ⟨hB, v, (hb.block b (Array.getElem?_eq_some_iff.1 hk).1).trans hk, own_keep hown hb, hne⟩
  · obtain ⟨hB, v, hk, hown, hne⟩ := h
    exact .inr ⟨hB, v, (hb.block b (Array.getElem?_eq_some_iff.1 hk).1).trans hk, own_keep hown hb, hne⟩
theorem St.keep {w wr w' : World} {l : List Nat} (h : St w l wr) (hb : Below wr.heap.size wr w') : St w l w' := ⟨builder_keep h.1 hb, h.2.trans (hb.mono h.2.size)⟩
theorem St.new (w : World) : St w [] (w.alloc (.cells #[.pointer none, .slice none 0 0] 59)) := ⟨Lib.fresh_isBuilder 59 5 w, below_at (Below.refl _ _) _⟩
theorem st_ws {w wr : World} {l : List Nat} (h : St w l wr) (s : ByteArray) (hl : l.length + s.size ≤ 100000000000) :
    Calls Try.prog 32 #[.pointer (some ⟨w.heap.size, 0, none⟩), .string s] wr fun e w' => e = .returned (.tuple #[.int .i64 s.size, .nilIface]) ∧ St w (l ++ nats s) w' := by
  refine (Build.writeString w.heap.size w.heap.size (ncells l) s wr h.1 (by simp only [ncells, List.length_map]; omega) h.2.size).mono ?_
  rintro e w' ⟨rfl, h1, h2⟩
  refine ⟨rfl, .inr ?_, h.2.trans h2⟩
  rw [ncells_append, ← str_cells]
  exact h1
theorem st_wb {w wr : World} {l : List Nat} (h : St w l wr) (x : Nat) (hl : l.length + 1 ≤ 100000000000) :
    Calls Try.prog 34 #[.pointer (some ⟨w.heap.size, 0, none⟩), .int .u8 x] wr fun e w' => e = .returned .nilIface ∧ St w (l ++ [x]) w' := by
  refine (Build.writeByte w.heap.size w.heap.size (ncells l) x wr h.1 (by simp only [ncells, List.length_map]; omega) h.2.size).mono ?_
  rintro e w' ⟨rfl, h1, h2⟩
  refine ⟨rfl, .inr ?_, h.2.trans h2⟩
  rw [ncells_append]
  exact h1
theorem st_string {w wr : World} {l : List Nat} (h : St w l wr) (hl : ∀ b ∈ l, b < 256) :
    Calls Try.prog 35 #[.pointer (some ⟨w.heap.size, 0, none⟩)] wr fun e w' => e = .returned (.string (str l)) ∧ Below w.heap.size w w' := by
  have hb := h.1
  rw [byte_cells l hl] at hb
  refine (Try.Builder_String_any w.heap.size w.heap.size (l.map UInt8.ofNat) wr hb h.2.size).mono ?_
  rintro e w' ⟨rfl, h2⟩
  exact ⟨rfl, h.2.trans h2⟩
/-- The package's decoding of what is left of a text. -/

theorem getD_hit (s : ByteArray) (k : Nat) : ((nats s).getD k 0 = 60 ∧ (nats s).getD (k + 1) 0 = 47) ↔ Hit s k := by
  rw [getD_nats, getD_nats]
  rfl
set_option maxRecDepth 100000 in
set_option maxHeartbeats 4000000 in
theorem escapeTag (s t : ByteArray) (w : World) (hs : s.size ≤ 10000000000) (ht : t.size ≤ 10000000000) (h0 : 0 < t.size) :
    Calls Try.prog 20 #[.string s, .string t] w fun e w' => e = .returned (.string (str (et (hit (nats t)) (nats s)))) ∧ Below w.heap.size w w' := by
  obtain ⟨E, hE⟩ : ∃ E, E = et (hit (nats t)) (nats s) := ⟨_, rfl⟩
  rw [← hE]
  have HE := Lib.hid hE
  have hlen := et_len (hit (nats t)) (nats s)
  rw [nats_length, ← hE] at hlen
  have hEl := hlen.2
  have HLT := Lib.hid (show ∀ b ∈ E, b < 256 by rw [hE]; exact et_lt _ _ (nats_lt s))
  have htn : (t.toList == []) = false := by
    rw [show ([] : List UInt8) = (⟨#[]⟩ : ByteArray).toList by rw [ByteArray.toList_eq], list_is, decide_eq_false]
    intro h
    have := congrArg List.length h
    rw [nats_length, show nats ⟨#[]⟩ = [] from rfl, List.length_nil] at this
    omega
  have htn' : t.toList ≠ [] := by
    intro h
    rw [h] at htn
    simp at htn
  have htn2 : (t.toList.isEmpty) = false := by simpa using htn'
  have HIX := Lib.hid (fun (x : ByteArray) (w : World) (hx : x.size ≤ 140737488351232) => index x w hx)
  clear hE hlen
  go_enter Try.func20, Try.ntmps20
  go_wp2_with fail
  refine (HIX.out s _ (by omega)).mono ?_
  rintro e w1 ⟨rfl, h⟩
  clear htn htn' htn2
  rcases h with ⟨i, rfl, hh, hno⟩ | ⟨rfl, hno⟩
  · have HH := Lib.hid hh
    have HNO := Lib.hid hno
    have ti : ¬ (i : Int) < 0 := by omega
    clear hh hno
    go_wp2_with fail
    have HST := Lib.hid (St.new w1)
    go_loopw [0, 5] (fun tv iv wr => ∃ (x : ByteArray) (i : Nat) (done : List Nat), tv = .string x ∧ iv = .int .i64 i ∧ x.size ≤ s.size ∧ Hit x i ∧ (∀ k, k < i → ¬ Hit x k) ∧ St w1 done wr ∧ done ++ et (hit (nats t)) (nats x) = E) (fun tv _ _ => match tv with | .string c => c.size | _ => 0)
    case atStart => exact ⟨s, i, [], rfl, rfl, Nat.le_refl _, HH.out, HNO.out, HST.out, by rw [HE.out]; rfl⟩
    case round =>
      clear HH HNO HST ti
      obtain ⟨x, i, done, rfl, rfl, hxs, hh, hno, hst, heq⟩ := hrel
      have hin := hit_in hh
      have hdone : done.length ≤ 20000000000 := by
        have := congrArg List.length heq
        rw [List.length_append] at this
        omega
      have hat := et_at (hit (nats t)) (nats x) i ((getD_hit x i).2 hh).1 ((getD_hit x i).2 hh).2 (fun k hk hc => hno k hk ((getD_hit x k).1 hc))
      have hsl1 : ∀ w, (Instr.slice 9 (.string x) none (some (.int .i64 ((i : Int) + 1))) none).run Try.prog w = .ok (.string (x.extract 0 (i + 1))) w := by
        intro w
        have := slice_to x (i + 1) (by omega) w
        rwa [Int.natCast_add] at this
      have hsl2 : ∀ w, (Instr.slice 9 (.string x) (some (.int .i64 ((i : Int) + 1))) none none).run Try.prog w = .ok (.string (x.extract (i + 1) x.size)) w := by
        intro w
        have := slice_from x (i + 1) (by omega) w
        rwa [Int.natCast_add] at this
      have hpn : nats (x.extract 0 (i + 1)) = (nats x).take (i + 1) := by rw [nats_extract, cut]; simp
      have hpz : (x.extract 0 (i + 1)).size = i + 1 := extract_size0 x 0 (i + 1) (by omega) (by omega)
      have hxn : nats (x.extract (i + 1) x.size) = (nats x).drop (i + 1) := nats_rest x (i + 1)
      have hxz : (x.extract (i + 1) x.size).size = x.size - (i + 1) := extract_size0 x (i + 1) x.size (by omega) (by omega)
      obtain ⟨P, hP⟩ : ∃ P, P = x.extract 0 (i + 1) := ⟨_, rfl⟩
      obtain ⟨X, hX⟩ : ∃ X, X = x.extract (i + 1) x.size := ⟨_, rfl⟩
      rw [← hP] at hsl1 hpn hpz
      rw [← hX] at hsl2 hxn hxz
      have HEQ := Lib.hid (show (done ++ nats P) ++ ((if hit (nats t) (nats X) = true then [92] else []) ++ et (hit (nats t)) (nats X)) = E by
        rw [← heq, hat, hpn, hxn, List.append_assoc])
      have HST := Lib.hid hst
      have HXZ := Lib.hid (show X.size < x.size by omega)
      have hXs : X.size ≤ 10000000000 := by omega
      have hPs : P.size ≤ 10000000000 := by omega
      have HPL := Lib.hid (show (nats P).length ≤ 10000000000 by rw [nats_length]; exact hPs)
      clear hst heq hat hP hX hpn hxn hxz hpz hh hno
      go_wp2_with fail
      refine (st_ws HST.out P (by omega)).mono ?_
      rintro e w2 ⟨rfl, h2⟩
      have HS2 := Lib.hid h2
      clear h2
      have hdl : (done ++ nats P).length ≤ 30000000000 := by rw [List.length_append]; have := HPL.out; omega
      obtain ⟨D, hD⟩ : ∃ D, D = done ++ nats P := ⟨_, rfl⟩
      rw [← hD] at HS2 HEQ hdl
      clear hD HPL HST
      have HI2 := Lib.hid (fun w => index X w (by omega))
      by_cases hl : t.size ≤ X.size
      · have hl1 : (t.size : Int) ≤ X.size := by omega
        have hl2 : decide (t.size ≤ X.size) = true := by simp; omega
        have hsl3 := fun w => slice_to X t.size hl w
        have hyn : nats (X.extract 0 t.size) = (nats X).take t.size := by rw [nats_extract, cut]; simp
        have hyz : (X.extract 0 t.size).size = t.size := extract_size0 X 0 t.size (by omega) hl
        obtain ⟨Y, hY⟩ : ∃ Y, Y = X.extract 0 t.size := ⟨_, rfl⟩
        rw [← hY] at hsl3 hyn hyz
        have HFO := Lib.hid (fun w => fold Y t w hyz (by omega))
        have HV := Lib.hid (show hit (nats t) (nats X) = eqf (nats Y) (nats t) by
          rw [hit, nats_length, nats_length, decide_eq_true hl, Bool.true_and, hyn])
        clear hY hyn hyz hl
        cases hv : eqf (nats Y) (nats t) with
        | true =>
          rw [hv] at HFO
          have HEQ3 := Lib.hid (show (D ++ [92]) ++ et (hit (nats t)) (nats X) = E by rw [← HEQ.out, HV.out, hv, if_pos rfl, List.append_assoc])
          clear hv
          go_wp2_with fail
          refine (HFO.out _).mono ?_
          rintro e w3 ⟨rfl, nd, rfl⟩
          have HS3 := Lib.hid (HS2.out.keep (below_drewN (Below.refl _ _) nd))
          go_wp2_with fail
          refine (st_wb HS3.out 92 (by omega)).mono ?_
          rintro e w4 ⟨rfl, h4⟩
          have HS4 := Lib.hid h4
          clear h4
          go_wp2_with fail
          refine (HI2.out _).mono ?_
          rintro e w5 ⟨rfl, hx⟩
          rcases hx with ⟨i2, rfl, hh2, hno2⟩ | ⟨rfl, hno2⟩
          · have HH2 := Lib.hid hh2
            have HNO2 := Lib.hid hno2
            have ti2 : ¬ (i2 : Int) < 0 := by omega
            clear hh2 hno2
            go_wp2_with fail
            go_roundw
            case rel => exact ⟨X, i2, D ++ [92], rfl, rfl, by have := HXZ.out; omega, HH2.out, HNO2.out, HS4.out, HEQ3.out⟩
            case measure => have := HXZ.out; simp only; omega
          · have HF := Lib.hid (show (D ++ [92]) ++ nats X = E by rw [← HEQ3.out, et_none _ _ (fun k hk => hno2 k ((getD_hit X k).1 hk))])
            clear hno2
            go_wp2_with fail
            refine (st_ws HS4.out X (by first | omega | (simp only [List.length_append, List.length_cons, List.length_nil]; omega))).mono ?_
            rintro e w6 ⟨rfl, h6⟩
            rw [HF.out] at h6
            have HS6 := Lib.hid h6
            clear h6
            go_wp2_with fail
            refine (st_string HS6.out HLT.out).mono ?_
            rintro e w7 ⟨rfl, h7⟩
            have HB7 := Lib.hid h7
            clear h7
            go_wp2_with fail
            go_returns
            exact ⟨rfl, HB7.out⟩
        | false =>
          rw [hv] at HFO
          have HEQ3 := Lib.hid (show D ++ et (hit (nats t)) (nats X) = E by rw [← HEQ.out, HV.out, hv, if_neg (by decide), List.nil_append])
          clear hv
          go_wp2_with fail
          refine (HFO.out _).mono ?_
          rintro e w3 ⟨rfl, nd, rfl⟩
          have HS3 := Lib.hid (HS2.out.keep (below_drewN (Below.refl _ _) nd))
          go_wp2_with fail
          refine (HI2.out _).mono ?_
          rintro e w5 ⟨rfl, hx⟩
          rcases hx with ⟨i2, rfl, hh2, hno2⟩ | ⟨rfl, hno2⟩
          · have HH2 := Lib.hid hh2
            have HNO2 := Lib.hid hno2
            have ti2 : ¬ (i2 : Int) < 0 := by omega
            clear hh2 hno2
            go_wp2_with fail
            go_roundw
            case rel => exact ⟨X, i2, D, rfl, rfl, by have := HXZ.out; omega, HH2.out, HNO2.out, HS3.out, HEQ3.out⟩
            case measure => have := HXZ.out; simp only; omega
          · have HF := Lib.hid (show (D) ++ nats X = E by rw [← HEQ3.out, et_none _ _ (fun k hk => hno2 k ((getD_hit X k).1 hk))])
            clear hno2
            go_wp2_with fail
            refine (st_ws HS3.out X (by first | omega | (simp only [List.length_append, List.length_cons, List.length_nil]; omega))).mono ?_
            rintro e w6 ⟨rfl, h6⟩
            rw [HF.out] at h6
            have HS6 := Lib.hid h6
            clear h6
            go_wp2_with fail
            refine (st_string HS6.out HLT.out).mono ?_
            rintro e w7 ⟨rfl, h7⟩
            have HB7 := Lib.hid h7
            clear h7
            go_wp2_with fail
            go_returns
            exact ⟨rfl, HB7.out⟩
      · have hl1 : ¬ (t.size : Int) ≤ X.size := by omega
        have hl2 : decide (t.size ≤ X.size) = false := by simp; omega
        have HEQ3 := Lib.hid (show D ++ et (hit (nats t)) (nats X) = E by
          rw [← HEQ.out, hit, nats_length, nats_length, decide_eq_false hl, Bool.false_and, if_neg (by decide), List.nil_append])
        clear hl
        go_wp2_with fail
        refine (HI2.out _).mono ?_
        rintro e w5 ⟨rfl, hx⟩
        rcases hx with ⟨i2, rfl, hh2, hno2⟩ | ⟨rfl, hno2⟩
        · have HH2 := Lib.hid hh2
          have HNO2 := Lib.hid hno2
          have ti2 : ¬ (i2 : Int) < 0 := by omega
          clear hh2 hno2
          go_wp2_with fail
          go_roundw
          case rel => exact ⟨X, i2, D, rfl, rfl, by have := HXZ.out; omega, HH2.out, HNO2.out, HS2.out, HEQ3.out⟩
          case measure => have := HXZ.out; simp only; omega
        · have HF := Lib.hid (show (D) ++ nats X = E by rw [← HEQ3.out, et_none _ _ (fun k hk => hno2 k ((getD_hit X k).1 hk))])
          clear hno2
          go_wp2_with fail
          refine (st_ws HS2.out X (by first | omega | (simp only [List.length_append, List.length_cons, List.length_nil]; omega))).mono ?_
          rintro e w6 ⟨rfl, h6⟩
          rw [HF.out] at h6
          have HS6 := Lib.hid h6
          clear h6
          go_wp2_with fail
          refine (st_string HS6.out HLT.out).mono ?_
          rintro e w7 ⟨rfl, h7⟩
          have HB7 := Lib.hid h7
          clear h7
          go_wp2_with fail
          go_returns
          exact ⟨rfl, HB7.out⟩
  · have HS := Lib.hid (show E = nats s by rw [HE.out]; exact et_none _ _ (fun k hk => hno k ((getD_hit s k).1 hk)))
    clear hno
    go_wp2_with fail
    go_returns
    exact ⟨by rw [HS.out, str_nats]; rfl, Below.refl _ _⟩
end Go.Proofs.Ytkhnkemmkedfcaa.Tag
