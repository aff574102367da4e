/- The reference's equality of code units and its test for ASCII. The walks. -/
import Derived.Test.YtkhnkemmkedfcaaWtfH
namespace Go.Proofs.Ytkhnkemmkedfcaa.Wtf
open Go.RowKit Go.Proofs.Ytkhnkemmkedfcaa.Aid Go.Proofs.Ytkhnkemmkedfcaa.Runes Go.Proofs.Ytkhnkemmkedfcaa.Bytes
attribute [local go_sem ↓] Go.wp_at_zero Go.wp_at_succ
set_option linter.unusedVariables false
theorem ucells_get (us : List Nat) (i : Nat) (h : i < us.length) : (ucells us)[i]? = some (.int .u16 ((us.getD i 0 : Nat) : Int)) := by
  rw [ucells, List.getElem?_map, List.getElem?_eq_getElem h, List.getD, List.getElem?_eq_getElem h]
  rfl
set_option maxRecDepth 100000 in
set_option maxHeartbeats 2000000 in
theorem wtfEqual (us : List Nat) (b1 b2 : Nat) (v1 v2 : Value) (w : World) (h1 : w.ownsRow b1 41 1 v1 us.length (ucells us)) (h2 : w.ownsRow b2 41 1 v2 us.length (ucells us)) (hn : us.length ≤ 2147483647) :
    Calls Try.prog 10 #[v1, v2] w fun e w' => e = .returned (.bool true) ∧ Drawn w w' := by
  obtain ⟨A, c, rfl, hr1⟩ := own_form h1
  obtain ⟨C, d, rfl, hr2⟩ := own_form h2
  have HU := Lib.hid (fun i h => ucells_get us i h)
  obtain ⟨L, hL⟩ : ∃ L, L = us.length := ⟨_, rfl⟩
  have HL := Lib.hid hL
  rw [← hL] at hr1 hr2 hn ⊢
  have HR1 := Lib.hid hr1
  have HR2 := Lib.hid hr2
  clear hr1 hr2 h1 h2 hL
  go_enter Try.func10, Try.ntmps10
  go_wp2_with fail
  go_loopw [5] (fun i wr => ∃ j : Nat, j ≤ L ∧ i = .int .i64 j ∧ ∃ m, wr = w.drewN m) (fun i _ => L - (intOf i).toNat)
  case atStart => exact ⟨0, Nat.zero_le _, rfl, 0, rfl⟩
  case round =>
    obtain ⟨j, hj, rfl, m, rfl⟩ := hrel
    by_cases hlt : j < L
    · obtain ⟨g, rfl, _, _, c1⟩ := HR1.out j (by omega)
      obtain ⟨g', rfl, _, _, c2⟩ := HR2.out j (by omega)
      rw [HU.out j (by have := HL.out; omega)] at c1 c2
      obtain ⟨y, hy⟩ : ∃ y : Nat, y = us.getD j 0 := ⟨_, rfl⟩
      rw [← hy] at c1 c2
      clear hy
      go_wp2_with fail
      go_quiet (fail)
      go_wp2_with fail
      go_roundw
      case rel => exact ⟨j + 1, by omega, by go_num, _, rfl⟩
      case measure => simp [intOf]; omega
    · have i3 : ¬ (j : Int) < (L : Int) := by omega
      go_wp2_with fail
      go_returns
      exact ⟨rfl, m, rfl⟩
set_option maxRecDepth 100000 in
set_option maxHeartbeats 2000000 in
theorem textAscii (s : ByteArray) (w : World) (hs : s.size ≤ 140737488351232) (h : ∀ i, i < s.size → byt s i < 128) : Calls Try.prog 16 #[.string s] w fun e w' => e = .returned (.bool true) ∧ w' = w := by
  have H := Lib.hid h
  clear h
  go_enter Try.func16, Try.ntmps16
  go_wp2_with fail
  go_loop [3] (fun i => ∃ j : Nat, j ≤ s.size ∧ i = .int .i64 j) (fun i => s.size - (intOf i).toNat)
  case atStart => exact ⟨0, Nat.zero_le _, rfl⟩
  case round =>
    obtain ⟨j, hj, rfl⟩ := hrel
    by_cases hlt : j < s.size
    · obtain ⟨b, hb⟩ : ∃ b : Nat, b = byt s j := ⟨_, rfl⟩
      have eb : (s[j]'hlt).toNat = b := by rw [hb, byt_eq s _ hlt]
      have b128 : ¬ (127 : Int) < (b : Int) := by have := H.out j hlt; omega
      have i1 : (j : Int) < (s.size : Int) := by omega
      clear hb
      go_wp2_with fail
      go_round
      case rel => exact ⟨j + 1, by omega, by go_num⟩
      case measure => simp [intOf]; omega
    · have i1 : ¬ (j : Int) < (s.size : Int) := by omega
      go_wp2_with fail
      go_returns
      exact ⟨rfl, rfl⟩
end Go.Proofs.Ytkhnkemmkedfcaa.Wtf
