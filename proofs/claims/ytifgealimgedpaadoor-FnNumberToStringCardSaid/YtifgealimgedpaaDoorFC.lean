/- The text of a whole number in a base: strconv.FormatInt at every base from 2 to 36. -/
import Derived.Test.YtifgealimgedpaaDoorFB
import Derived.Test.YtifgealimgedpaaDoorShelf
import Derived.Lib.AppendIntMem
namespace Go.Proofs.YtifgealimgedpaaDoor.Nats
open Go.RowKit Go.Proofs.YtifgealimgedpaaDoor.Aid Go.Proofs.YtifgealimgedpaaDoor.Runes Go.Proofs.YtifgealimgedpaaDoor.Bytes Go.Proofs.YtifgealimgedpaaDoor.Flo
attribute [local go_sem ↓] Go.wp_at_zero Go.wp_at_succ
set_option linter.unusedVariables false
/-- A whole number in a base. -/
def fmtR (r : Nat) (n : Int) : List UInt8 := if n < 0 then 45 :: rad r n.natAbs else rad r n.natAbs
theorem rad_ten (n : Nat) : rad 10 n = Lib.decDigits n := by
  induction n using Nat.strongRecOn with
  | ind n ih =>
    rcases Nat.lt_or_ge n 10 with h | h
    · rw [rad_lo h, Lib.decDigits, dif_pos h, dgt, if_pos h]
    · rw [rad_hi h (by omega), Lib.decDigits, dif_neg (by omega), ih (n / 10) (by omega), dgt, if_pos (by omega)]
theorem fmt_ten (n : Int) : Lib.itoa n = fmtR 10 n := by
  unfold Lib.itoa fmtR
  split
  · rw [rad_ten]
  · rw [rad_ten, show n.toNat = n.natAbs by omega]
theorem radix_cases (r : Nat) (h2 : 2 ≤ r) (h36 : r ≤ 36) : r = 10 ∨ r = 2 ∨ r = 4 ∨ r = 8 ∨ r = 16 ∨ r = 32 ∨ (r ≠ 10 ∧ (bits .and .i64 (r : Int) ((r : Int) - 1) == 0) = false) := by
  have key : ∀ r : Fin 37, r.val < 2 ∨ r.val = 10 ∨ r.val = 2 ∨ r.val = 4 ∨ r.val = 8 ∨ r.val = 16 ∨ r.val = 32 ∨ (r.val ≠ 10 ∧ (bits .and .i64 (r.val : Int) ((r.val : Int) - 1) == 0) = false) := by decide +kernel
  have := key ⟨r, by omega⟩
  simp only at this
  rcases this with h | h
  · exact absurd h (by omega)
  · exact h
theorem formatBits (r : Nat) (h2 : 2 ≤ r) (h36 : r ≤ 36) (h10 : r ≠ 10) (n : Int) (h0 : -9223372036854775808 ≤ n) (h1 : n ≤ 9223372036854775807) (w : World) (hT : Tz w) (h3 : 3 < w.heap.size) :
    Calls Tryd.prog 26 #[.slice none 0 0, .int .u64 (IntKind.u64.wrap n), .int .i64 r, .bool (decide (n < 0)), .bool false] w fun e w' => Below w.heap.size w w' ∧ e = .returned (.tuple #[.slice none 0 0, .string ⟨(fmtR r n).toArray⟩]) := by
  by_cases hn : n < 0
  · obtain ⟨U, hU⟩ : ∃ U, U = n.natAbs := ⟨_, rfl⟩
    have hX : IntKind.u64.wrap (-(IntKind.u64.wrap n)) = (U : Int) := by rw [IntKind.wrap_u64, IntKind.wrap_u64]; omega
    rw [show decide (n < 0) = true from decide_eq_true hn, fmtR, if_pos hn, ← hU]
    rcases radix_cases r h2 h36 with rfl | rfl | rfl | rfl | rfl | rfl | ⟨_, hp⟩
    · exact absurd rfl h10
    · exact formatBits_p1N U _ w hT h3 (by omega) hX
    · exact formatBits_p2N U _ w hT h3 (by omega) hX
    · exact formatBits_p3N U _ w hT h3 (by omega) hX
    · exact formatBits_p4N U _ w hT h3 (by omega) hX
    · exact formatBits_p5N U _ w hT h3 (by omega) hX
    · exact formatBits_anyN r U _ w h2 h36 h10 hp (by omega) hX
  · obtain ⟨U, rfl⟩ : ∃ U : Nat, n = (U : Int) := ⟨n.toNat, by omega⟩
    rw [show decide ((U : Int) < 0) = false from decide_eq_false hn, fmtR, if_neg hn, show ((U : Int)).natAbs = U by omega, show IntKind.u64.wrap (U : Int) = (U : Int) by rw [IntKind.wrap_u64]; omega]
    rcases radix_cases r h2 h36 with rfl | rfl | rfl | rfl | rfl | rfl | ⟨_, hp⟩
    · exact absurd rfl h10
    · exact formatBits_p1 U w hT h3 (by omega)
    · exact formatBits_p2 U w hT h3 (by omega)
    · exact formatBits_p3 U w hT h3 (by omega)
    · exact formatBits_p4 U w hT h3 (by omega)
    · exact formatBits_p5 U w hT h3 (by omega)
    · exact formatBits_any r U w h2 h36 h10 hp (by omega)
theorem formatIn (r : Nat) (h2 : 2 ≤ r) (h36 : r ≤ 36) (h10 : r ≠ 10) (n : Int) (h0 : -9223372036854775808 ≤ n) (h1 : n ≤ 9223372036854775807) (w : World) (hT : Tz w) (h3 : 3 < w.heap.size) :
    Calls Tryd.prog 18 #[.int .i64 n, .int .i64 r] w fun e w' => Below w.heap.size w w' ∧ e = .returned (.string ⟨(fmtR r n).toArray⟩) := by
  have h10' : ((r : Int) == 10) = false := by simp; omega
  have HFB := Lib.hid (formatBits r h2 h36 h10 n h0 h1 w hT h3)
  clear hT h3
  obtain ⟨F, hF⟩ : ∃ F : ByteArray, F = ⟨(fmtR r n).toArray⟩ := ⟨_, rfl⟩
  rw [← hF] at HFB ⊢
  clear hF
  go_enter Tryd.func18, Tryd.ntmps18
  go_wp2_with (go_at_call 26; refine HFB.out.mono ?_; rintro e W ⟨hb, rfl⟩; have HB := Lib.hid hb; clear hb)
  go_returns
  exact ⟨HB.out, rfl⟩
theorem fmtInt (r : Nat) (h2 : 2 ≤ r) (h36 : r ≤ 36) (n : Int) (h0 : -9223372036854775808 ≤ n) (h1 : n ≤ 9223372036854775807) (w : World) (hT : Tz w) (h3 : 3 < w.heap.size) (htab : Lib.TabIs Tryd.prog w "internal/strconv.uint64pow10" .u64 Lib.pow10Tab) :
    Calls Tryd.prog 12 #[.int .i64 n, .int .i64 r] w fun e w' => Below w.heap.size w w' ∧ e = .returned (.string ⟨(fmtR r n).toArray⟩) := by
  by_cases h10 : r = 10
  · subst h10
    refine (Tryd.strconv_FormatInt_10 n h0 h1 w htab).mono ?_
    rintro e w' ⟨rfl, k, os, rfl⟩
    exact ⟨Lib.below_grow _ _ (Nat.le_refl _) k os, by rw [fmt_ten]⟩
  · have HFB := Lib.hid (formatIn r h2 h36 h10 n h0 h1 w hT h3)
    clear hT h3 htab
    obtain ⟨F, hF⟩ : ∃ F : ByteArray, F = ⟨(fmtR r n).toArray⟩ := ⟨_, rfl⟩
    rw [← hF] at HFB ⊢
    clear hF
    go_enter Tryd.func12, Tryd.ntmps12
    go_wp2_with (go_at_call 18; refine HFB.out.mono ?_; rintro e W ⟨hb, rfl⟩; have HB := Lib.hid hb; clear hb)
    go_returns
    exact ⟨HB.out, rfl⟩
end Go.Proofs.YtifgealimgedpaaDoor.Nats
