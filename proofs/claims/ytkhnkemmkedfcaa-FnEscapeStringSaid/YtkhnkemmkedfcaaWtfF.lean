/- The reference's JSON escapes, where they are well formed. The walks. -/
import Derived.Test.YtkhnkemmkedfcaaWtfE
namespace Go.Proofs.Ytkhnkemmkedfcaa.Wtf
open Go.RowKit Go.Proofs.Ytkhnkemmkedfcaa.Aid Go.Proofs.Ytkhnkemmkedfcaa.Runes Go.Proofs.Ytkhnkemmkedfcaa.Bytes
attribute [local go_sem ↓] Go.wp_at_zero Go.wp_at_succ
set_option linter.unusedVariables false
theorem slice_to (u : ByteArray) (b : Nat) (hb : b ≤ u.size) (w : World) : (Instr.slice 9 (.string u) none (some (.int .i64 b)) none).run Try.prog w = .ok (.string (u.extract 0 b)) w := by
  have h2 : (0 : Int) ≤ (b : Int) := by omega
  have h1 : (b : Int) ≤ (u.size : Int) := by omega
  have ht : (b : Int).toNat = b := by omega
  simp [Instr.slice, run_underlying Try.underlying9, Instr.sliceBounds, run_sliceBound, *]
theorem byt_extract (s : ByteArray) (b j : Nat) (hb : b ≤ s.size) (hj : j < b) : byt (s.extract 0 b) j = byt s j := by
  have h1 : (nats (s.extract 0 b))[j]? = (nats s)[j]? := by rw [nats_extract, cut, List.drop_zero, List.getElem?_take_of_lt (by omega)]
  rw [nats_get _ _ (by rw [extract_size0 s 0 b (by omega) hb]; omega), nats_get _ _ (by omega)] at h1
  exact Option.some.inj h1
def hexAcc (s : ByteArray) (i : Nat) : Nat → Nat
  | 0 => 0
  | k + 1 => 16 * hexAcc s i k + (hexv (byt s (i + k))).getD 0
theorem getD_drop (s : ByteArray) (i j : Nat) : ((nats s).drop i).getD j 0 = byt s (i + j) := by
  rw [← getD_nats, List.getD, List.getD, List.getElem?_drop]
theorem hex4_at {s : ByteArray} {i v : Nat} (h : hex4 ((nats s).drop i) = some v) : i + 4 ≤ s.size ∧ (∀ j, j < 4 → ∃ x, hexv (byt s (i + j)) = some x) ∧ hexAcc s i 4 = v ∧ v < 65536 := by
  unfold hex4 at h
  rw [getD_drop, getD_drop, getD_drop, getD_drop] at h
  split at h
  · rename_i a b c d ha hb hc hd
    split at h
    · rename_i h4
      rw [List.length_drop, nats_length] at h4
      have a1 := hexv_lt ha
      have b1 := hexv_lt hb
      have c1 := hexv_lt hc
      have d1 := hexv_lt hd
      injection h with h
      refine ⟨by omega, fun j hj => ?_, ?_, by omega⟩
      · match j, hj with
        | 0, _ => exact ⟨_, ha⟩
        | 1, _ => exact ⟨_, hb⟩
        | 2, _ => exact ⟨_, hc⟩
        | 3, _ => exact ⟨_, hd⟩
      · simp only [hexAcc, ha, hb, hc, hd, Option.getD_some]
        omega
    · cases h
  · cases h
theorem hexAcc_lt (s : ByteArray) (i k : Nat) : hexAcc s i k < 16 ^ k := by
  induction k with
  | zero => simp [hexAcc]
  | succ k ih =>
    have : (hexv (byt s (i + k))).getD 0 < 16 := by
      cases h : hexv (byt s (i + k)) with
      | none => simp
      | some x => simpa using hexv_lt h
    simp only [hexAcc, Nat.pow_succ]
    omega
set_option maxRecDepth 100000 in
set_option maxHeartbeats 2000000 in
theorem jsonHex (s : ByteArray) (i v : Nat) (w : World) (hs : s.size ≤ 140737488351232) (h : hex4 ((nats s).drop i) = some v) :
    Calls Try.prog 46 #[.string s, .int .i64 i] w fun e w' => e = .returned (.tuple #[.int .u16 v, .bool true]) ∧ w' = w := by
  obtain ⟨h1, h2, h3, h4⟩ := hex4_at h
  have hsl : ∀ w, (Instr.slice 9 (.string s) none (some (.int .i64 ((i : Int) + 4))) none).run Try.prog w = .ok (.string (s.extract 0 (i + 4))) w := fun w => slice_to s (i + 4) h1 w
  have hesz : (s.extract 0 (i + 4)).size = i + 4 := extract_size0 s 0 (i + 4) (by omega) h1
  have HN := Lib.hid (fun w => numRun_four (s.extract 0 (i + 4)) i w (by omega) hesz (fun j hj => by rw [byt_extract s (i + 4) (i + j) h1 (by omega)]; exact h2 j hj))
  obtain ⟨E, hE⟩ : ∃ E, E = s.extract 0 (i + 4) := ⟨_, rfl⟩
  rw [← hE] at hsl HN
  have H2 := Lib.hid h2
  have H3 := Lib.hid h3
  have i1 : ¬ (s.size : Int) < (i : Int) + 4 := by omega
  have hib : i ≤ 140737488351232 := by omega
  have H1 := Lib.hid h1
  clear h h1 h2 h3 hE hesz
  go_enter Try.func46, Try.ntmps46
  go_wp2_with fail
  refine (HN.out _).mono ?_
  rintro e w' ⟨rfl, rfl⟩
  go_wp2_with fail
  go_loop [6, 7] (fun n j => ∃ k : Nat, k ≤ 4 ∧ j = .int .i64 ((i + k : Nat) : Int) ∧ n = .int .i64 (hexAcc s i k)) (fun _ j => i + 4 - (intOf j).toNat)
  case atStart => exact ⟨0, by omega, rfl, rfl⟩
  case round =>
    obtain ⟨k, hk, rfl, rfl⟩ := hrel
    have ha := hexAcc_lt s i k
    have hp : 16 ^ k ≤ 16 ^ 4 := Nat.pow_le_pow_right (by omega) (by omega)
    by_cases hlt : k < 4
    · obtain ⟨x, hx⟩ := H2.out k hlt
      obtain ⟨a, haa⟩ : ∃ a : Nat, a = i + k := ⟨_, rfl⟩
      have hlt2 : a < s.size := by have := H1.out; omega
      have i2 : (a : Int) < s.size := by omega
      have i3 : (a : Int) < (i : Int) + 4 := by omega
      obtain ⟨b, hb⟩ : ∃ b : Nat, b = byt s a := ⟨_, rfl⟩
      have eb : (s[a]'hlt2).toNat = b := by rw [hb, byt_eq s _ hlt2]
      have b255 := byt_lt s a
      rw [← haa, ← hb] at hx
      rw [← hb] at b255
      have hx16 := hexv_lt hx
      have HX := Lib.hid (fun w => hex_walk b x hx w)
      have HNX := Lib.hid (show hexAcc s i (k + 1) = 16 * hexAcc s i k + x by rw [hexAcc, ← haa, ← hb, hx]; rfl)
      rw [← haa]
      obtain ⟨y, hy⟩ : ∃ y, y = hexAcc s i k := ⟨_, rfl⟩
      rw [← hy] at ha HNX ⊢
      have y1 : y < 65536 := by omega
      have HLT := Lib.hid hlt
      have HA := Lib.hid haa
      clear hb hx ha hp hlt haa hy
      go_wp2_with fail
      refine (HX.out _).mono ?_
      rintro e w' ⟨rfl, rfl⟩
      go_wp2_with fail
      go_round
      case rel => exact ⟨k + 1, HLT.out, val_int (by have := HA.out; omega), by rw [HNX.out]; go_num⟩
      case measure => simp [intOf]; omega
    · have hk4 : k = 4 := by omega
      obtain ⟨y, hy⟩ : ∃ y, y = hexAcc s i k := ⟨_, rfl⟩
      have hacc : y = v := by rw [hy, hk4]; exact H3.out
      obtain ⟨a, haa⟩ : ∃ a : Nat, a = i + k := ⟨_, rfl⟩
      have i3 : ¬ (a : Int) < (i : Int) + 4 := by omega
      rw [← hy, ← haa, hacc]
      clear hacc ha hp hlt hy haa hk4 hk
      go_wp2_with fail
      go_returns
      exact ⟨rfl, rfl⟩
end Go.Proofs.Ytkhnkemmkedfcaa.Wtf
