/- The reference's letters of a base 64. The walk. -/
import Derived.Test.YtefippeaalkmeaaScE
namespace Go.Proofs.Ytefippeaalkmeaa.Scan
open Go.RowKit Go.Proofs.Ytefippeaalkmeaa.Aid Go.Proofs.Ytefippeaalkmeaa.Runes Go.Proofs.Ytefippeaalkmeaa.Bytes Go.Proofs.Ytefippeaalkmeaa.Nats
attribute [local go_sem ↓] Go.wp_at_zero Go.wp_at_succ
set_option linter.unusedVariables false
/-- The letters, as bytes. -/
def lets : ByteArray := ⟨#[65, 66, 67, 68, 69, 70, 71, 72, 73, 74, 75, 76, 77, 78, 79, 80, 81, 82, 83, 84, 85, 86, 87, 88, 89, 90, 97, 98, 99, 100, 101, 102, 103, 104, 105, 106, 107, 108, 109, 110, 111, 112, 113, 114, 115, 116, 117, 118, 119, 120, 121, 122, 48, 49, 50, 51, 52, 53, 54, 55, 56, 57, 43, 47]⟩
def MapPost (c : Nat) (w : World) (e : Ending) (w' : World) : Prop := w' = w ∧ ∃ x : Int, e = .returned (.int .i64 x) ∧ ((48 ≤ c ∧ c ≤ 57) ∨ (97 ≤ c ∧ c ≤ 122) ∨ (65 ≤ c ∧ c ≤ 90) → 0 ≤ x)
theorem lets_all (c : Nat) (h : (48 ≤ c ∧ c ≤ 57) ∨ (97 ≤ c ∧ c ≤ 122) ∨ (65 ≤ c ∧ c ≤ 90)) : ∃ j, j < 64 ∧ byt lets j = c := by
  have h1 : ∀ k : Fin 26, byt lets k.val = k.val + 65 := by decide +kernel
  have h2 : ∀ k : Fin 26, byt lets (k.val + 26) = k.val + 97 := by decide +kernel
  have h3 : ∀ k : Fin 10, byt lets (k.val + 52) = k.val + 48 := by decide +kernel
  rcases h with h | h | h
  · exact ⟨c - 48 + 52, by omega, by have := h3 ⟨c - 48, by omega⟩; simp only at this; omega⟩
  · exact ⟨c - 97 + 26, by omega, by have := h2 ⟨c - 97, by omega⟩; simp only at this; omega⟩
  · exact ⟨c - 65, by omega, by have := h1 ⟨c - 65, by omega⟩; simp only at this; omega⟩
theorem run_index (S : ByteArray) (i : Nat) (h : i < S.size) (w : World) : (Instr.index 9 (.string S) (.int .i64 i)).run Try.prog w = .ok (.int .u8 (byt S i : Nat)) w := by
  have h1 : (i : Int) < S.size := by omega
  rw [byt_eq S i h]
  have h0 : (0 : Int) ≤ (i : Int) := by omega
  simp [Instr.index, run_underlying Try.underlying9, asIntOf, *]
set_option maxRecDepth 100000 in
set_option maxHeartbeats 4000000 in
theorem mapDigit (c : Nat) (w : World) (hc : c < 256) : Calls Try.prog 11 #[.int .u8 c] w (MapPost c w) := by
  have HALL := Lib.hid (lets_all c)
  go_enter Try.func11, Try.ntmps11
  go_wp2_with fail
  go_loopw [3] (fun iv wr => ∃ i : Nat, iv = .int .i64 i ∧ i ≤ 64 ∧ (∀ j, j < i → byt lets j ≠ c) ∧ wr = w) (fun iv _ => 64 - (intOf iv).toNat)
  case atStart => exact ⟨0, rfl, by omega, fun j hj => by omega, rfl⟩
  case round =>
    obtain ⟨i, rfl, hi, hne, rfl⟩ := hrel
    have HNE := Lib.hid hne
    clear hne
    by_cases hlt : i < 64
    · have q1 : (i : Int) < 64 := by omega
      obtain ⟨a, ha⟩ : ∃ a, a = byt lets i := ⟨_, rfl⟩
      have hrun : ∀ w, (Instr.index 9 (.string ⟨#[65, 66, 67, 68, 69, 70, 71, 72, 73, 74, 75, 76, 77, 78, 79, 80, 81, 82, 83, 84, 85, 86, 87, 88, 89, 90, 97, 98, 99, 100, 101, 102, 103, 104, 105, 106, 107, 108, 109, 110, 111, 112, 113, 114, 115, 116, 117, 118, 119, 120, 121, 122, 48, 49, 50, 51, 52, 53, 54, 55, 56, 57, 43, 47]⟩) (.int .i64 i)).run Try.prog w = .ok (.int .u8 (a : Int)) w := fun w => by
        rw [ha]
        exact run_index lets i (show i < 64 from hlt) w
      have HA := Lib.hid ha
      have HLT := Lib.hid hlt
      clear ha hlt
      by_cases hac : a = c
      · have t1 : ((a : Int) == (c : Int)) = true := by rw [hac]; simp
        clear hac
        go_wp2_with fail
        go_returns
        exact ⟨rfl, (i : Int), rfl, fun _ => by omega⟩
      · have t1 : ((a : Int) == (c : Int)) = false := by rw [beq_eq_false_iff_ne]; omega
        have HAC := Lib.hid hac
        clear hac
        go_wp2_with fail
        go_roundw
        case rel =>
          refine ⟨i + 1, val_int (by omega), HLT.out, fun j hj => ?_, trivial⟩
          by_cases e : j = i
          · rw [e, ← HA.out]
            exact HAC.out
          · exact HNE.out j (by omega)
        case measure => have := HLT.out; simp [intOf]; omega
    · have q1 : ¬ (i : Int) < 64 := by omega
      have HI := Lib.hid (show i = 64 by omega)
      clear hlt
      go_wp2_with fail
      go_returns
      refine ⟨rfl, -1, rfl, fun h => ?_⟩
      obtain ⟨j, hj, hb⟩ := HALL.out h
      exact absurd hb (HNE.out j (by have := HI.out; omega))
end Go.Proofs.Ytefippeaalkmeaa.Scan
