/- The statement FnVLQ, walked: a number that is written as a Base64 VLQ somewhere in a text is read there. -/
import Derived.Test.YtdcojgkblfobnaaVlqE
import Derived.Lib.AtoiErrMem
namespace Go.Proofs.Ytdcojgkblfobnaa.Vlq
open Go.RowKit Go.Proofs.Ytdcojgkblfobnaa.Aid
set_option linter.unusedVariables false
theorem txt_size (l : List Nat) : (⟨(txt l).toArray⟩ : ByteArray).size = l.length := by simp [ByteArray.size, txt]
theorem joined_at (x y : ByteArray) (l : List Nat) (j d : Nat) (h : l[j]? = some d) : ((x ++ (⟨(txt l).toArray⟩ : ByteArray)) ++ y).data.toList[x.size + j]? = some (alpha d) := by
  have hj : j < l.length := by
    rcases Nat.lt_or_ge j l.length with h' | h'
    · exact h'
    · rw [List.getElem?_eq_none h'] at h
      cases h
  have hx : x.data.toList.length = x.size := Array.length_toList
  simp only [ByteArray.data_append, Array.toList_append]
  rw [List.getElem?_append_left (by simp [txt, hx]; omega), List.getElem?_append_right (by omega)]
  rw [hx, Nat.add_sub_cancel_left]
  simp [txt, h]
theorem signed_lt (n : Int) (h0 : -2147483648 < n) (h1 : n < 2147483648) : signed n < 4294967296 := by unfold signed; split <;> omega
theorem all_cells (w : World) (s : ByteArray) : ∀ j x, (cellsOf s.data.toList)[j]? = some x → (Lib.bytesWorld w 5 s).cell? ((⟨w.heap.size, 0, none⟩ : Addr).add j) = some x := by
  intro j x h
  rw [add_at, Nat.zero_add]
  simp only [cellsOf, List.getElem?_map, Option.map_eq_some_iff] at h
  obtain ⟨u, hu, rfl⟩ := h
  have hj : j < s.size := by
    rcases Nat.lt_or_ge j s.size with h' | h'
    · exact h'
    · rw [List.getElem?_eq_none (by rw [Array.length_toList]; exact h')] at hu
      cases hu
  rw [Lib.bytesWorld_cell w 5 s j hj, List.getD, hu]
  rfl
set_option maxRecDepth 100000 in
set_option maxHeartbeats 2000000 in
theorem law (n : Int) (x y : ByteArray) (w : World) (hx : x.size ≤ 140737488351232) (hy : y.size ≤ 140737488351232) :
    Calls Try.prog 11 #[.int .i64 n, .string x, .string y] w fun e w' => e = .returned (.bool true) ∧ Below w.heap.size w w' := by
  by_cases a1 : (2147483647 : Int) < x.size
  · go_enter Try.func11, Try.ntmps11
    go_wp2_with fail
    go_returns
    exact ⟨rfl, Below.refl _ _⟩
  by_cases a2 : (2147483647 : Int) < y.size
  · go_enter Try.func11, Try.ntmps11
    go_wp2_with fail
    go_returns
    exact ⟨rfl, Below.refl _ _⟩
  by_cases a3 : n ≤ -2147483648
  · go_enter Try.func11, Try.ntmps11
    go_wp2_with fail
    go_returns
    exact ⟨rfl, Below.refl _ _⟩
  by_cases a4 : 2147483648 ≤ n
  · go_enter Try.func11, Try.ntmps11
    go_wp2_with fail
    go_returns
    exact ⟨rfl, Below.refl _ _⟩
  by_cases a5 : (65536 : Int) < x.size
  · go_enter Try.func11, Try.ntmps11
    go_wp2_with fail
    go_returns
    exact ⟨rfl, Below.refl _ _⟩
  by_cases a6 : (65536 : Int) < y.size
  · go_enter Try.func11, Try.ntmps11
    go_wp2_with fail
    go_returns
    exact ⟨rfl, Below.refl _ _⟩
  have hcv : ∀ (w : World) (s : ByteArray), (convert 9 55 (.string s)).run Try.prog w = .ok (.slice (some ⟨w.heap.size, 0, none⟩) s.size (grownCap w s.size 0 5)) (Lib.bytesWorld w 5 s) := fun w s => Lib.run_convert_string_bytes w 9 55 5 s (u := .string) Try.underlying9 Try.underlying55 Try.underlying5
  have HV := Lib.hid (vlqText n w (by omega) (by omega))
  have HLT := Lib.hid (signed_lt n (by omega) (by omega))
  have HLEN := Lib.hid (enc_length 6 (signed n) (by have := signed_lt n (by omega) (by omega); omega))
  have HPOS := Lib.hid (enc_pos (signed n))
  have hts := txt_size (enc (signed n))
  have HTS := Lib.hid hts
  clear hts
  go_enter Try.func11, Try.ntmps11
  go_wp2_with fail
  refine (HV.out).mono ?_
  rintro e w1 ⟨rfl, rfl⟩
  obtain ⟨T, hT⟩ : ∃ T : ByteArray, T = ⟨(txt (enc (signed n))).toArray⟩ := ⟨_, rfl⟩
  have hts2 : T.size = (enc (signed n)).length := by rw [hT]; exact HTS.out
  rw [← hT]
  have HT := Lib.hid hT
  have t7 : T.size ≤ 7 := by rw [hts2]; exact HLEN.out
  have HTS2 := Lib.hid hts2
  clear hT hts2
  go_wp2_with fail
  refine (implDecode w1.heap.size (x.size + T.size + y.size) _ x.size (signed n) (x ++ T ++ y).data.toList (Lib.bytesWorld w1 5 (x ++ T ++ y)) (by rw [Lib.bytesWorld_size]; omega) (by rw [Array.length_toList]; show (x ++ T ++ y).size = _; simp) (by omega) HLT.out (by have := HTS2.out; omega) (by have := HTS2.out; have := HPOS.out; omega) (all_cells w1 _) (by rw [HT.out]; exact joined_at x y (enc (signed n)))).mono ?_
  rintro e w2 ⟨rfl, hb⟩
  have HB := Lib.hid ((Lib.bytesWorld_below w1 5 (x ++ T ++ y)).trans (hb.mono (by rw [Lib.bytesWorld_size]; omega)))
  clear hb
  rw [unsign_signed, ← HTS2.out]
  go_wp2_with fail
  go_returns
  exact ⟨rfl, HB.out⟩
theorem law_row (n : Int) (x y : ByteArray) (w : World) (_ : (Lit.int .i64 n).wf = true) (hx : x.size ≤ 140737488351232) (hy : y.size ≤ 140737488351232) :
    Calls Try.prog 11 #[.int .i64 n, .string x, .string y] w fun e w' => e = .returned (.bool true) ∧ Below w.heap.size w w' := law n x y w hx hy
end Go.Proofs.Ytdcojgkblfobnaa.Vlq
