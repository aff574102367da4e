/- The reference's digits, and numbers of digits. The walks. -/
import Derived.Test.YtefippeaalkmeaaNatJ
import Derived.Test.YtefippeaalkmeaaBytes
namespace Go.Proofs.Ytefippeaalkmeaa.Nats
open Go.RowKit Go.Proofs.Ytefippeaalkmeaa.Aid Go.Proofs.Ytefippeaalkmeaa.Runes Go.Proofs.Ytefippeaalkmeaa.Bytes
attribute [local go_sem ↓] Go.wp_at_zero Go.wp_at_succ
set_option linter.unusedVariables false
/-- What a digit is worth. -/
def hexv (n : Nat) : Option Nat := if 48 ≤ n ∧ n ≤ 57 then some (n - 48) else if 97 ≤ n ∧ n ≤ 102 then some (n - 87) else if 65 ≤ n ∧ n ≤ 70 then some (n - 55) else none
theorem hexv_lt {n v : Nat} (h : hexv n = some v) : v < 16 := by
  unfold hexv at h
  repeat' split at h
  all_goals first | (injection h with h; omega) | cases h
set_option maxRecDepth 100000 in
set_option maxHeartbeats 1000000 in
theorem between_walk (a n b : Nat) (w : World) : Calls Try.prog 29 #[.int .i64 a, .int .i64 n, .int .i64 b] w fun e w' => e = .returned (.bool (decide (a ≤ n) && decide (n ≤ b))) ∧ w' = w := by
  obtain ⟨B, hB⟩ : ∃ B, B = (decide (a ≤ n) && decide (n ≤ b)) := ⟨_, rfl⟩
  rw [← hB]
  by_cases h1 : a ≤ n
  · by_cases h2 : n ≤ b
    · have HE := Lib.hid (show B = true by rw [hB]; simp [h1, h2])
      have d2 : decide (n ≤ b) = true := by simp [h2]
      clear hB
      go_enter Try.func29, Try.ntmps29
      go_wp2_with fail
      go_returns
      exact ⟨by rw [HE.out]; rfl, rfl⟩
    · have HE := Lib.hid (show B = false by rw [hB]; simp [h1, h2])
      have d2 : decide (n ≤ b) = false := by simp; omega
      clear hB
      go_enter Try.func29, Try.ntmps29
      go_wp2_with fail
      go_returns
      exact ⟨by rw [HE.out]; rfl, rfl⟩
  · have HE := Lib.hid (show B = false by rw [hB]; simp [h1])
    have d2 : decide (a ≤ n) = false := by simp; omega
    clear hB
    go_enter Try.func29, Try.ntmps29
    go_wp2_with fail
    go_returns
    exact ⟨by rw [HE.out]; rfl, rfl⟩
theorem between_is {a n b : Nat} {v : Bool} (h : (decide (a ≤ n) && decide (n ≤ b)) = v) (w : World) : Calls Try.prog 29 #[.int .i64 a, .int .i64 n, .int .i64 b] w fun e w' => e = .returned (.bool v) ∧ w' = w := by
  rw [← h]
  exact between_walk a n b w
/-- Whether a code point is a decimal digit. -/
def isDig (r : Nat) : Bool := decide (48 ≤ r) && decide (r ≤ 57)
theorem digit_walk (r : Nat) (w : World) : Calls Try.prog 21 #[.int .i64 r] w fun e w' => e = .returned (.bool (isDig r)) ∧ w' = w := by
  have H := Lib.hid (between_walk 48 r 57 w)
  obtain ⟨B, hB⟩ : ∃ B, B = isDig r := ⟨_, rfl⟩
  rw [show (decide (48 ≤ r) && decide (r ≤ 57)) = B from hB.symm] at H
  rw [← hB]
  clear hB
  go_enter Try.func21, Try.ntmps21
  go_wp2_with fail
  refine (H.out).mono ?_
  rintro e w' ⟨rfl, rfl⟩
  go_wp2_with fail
  go_returns
  exact ⟨rfl, rfl⟩
/-- What Hex hands back. -/
def hexi (r : Nat) : Int := match hexv r with | some v => (v : Int) | none => -1
set_option maxRecDepth 100000 in
set_option maxHeartbeats 1000000 in
theorem hex_walk (r : Nat) (w : World) (hr : r < 1000000000) : Calls Try.prog 47 #[.int .i64 r] w fun e w' => e = .returned (.int .i64 (hexi r)) ∧ w' = w := by
  have HD := Lib.hid (digit_walk r w)
  have HB := Lib.hid (between_walk 97 r 102 w)
  have HC := Lib.hid (between_walk 65 r 70 w)
  by_cases h1 : 48 ≤ r ∧ r ≤ 57
  · have HE := Lib.hid (show hexi r = (r : Int) - 48 by rw [hexi, hexv, if_pos h1]; simp only; omega)
    rw [show isDig r = true by simp [isDig, h1]] at HD
    have b1 : 48 ≤ r := h1.1
    clear h1
    go_enter Try.func47, Try.ntmps47
    go_wp2_with fail
    refine (HD.out).mono ?_
    rintro e w' ⟨rfl, rfl⟩
    go_wp2_with fail
    go_returns
    exact ⟨by rw [HE.out]; rfl, rfl⟩
  · rw [show isDig r = false by simp [isDig]; omega] at HD
    by_cases h2 : 97 ≤ r ∧ r ≤ 102
    · have HE := Lib.hid (show hexi r = (r : Int) - 97 + 10 by rw [hexi, hexv, if_neg h1, if_pos h2]; simp only; omega)
      rw [show (decide (97 ≤ r) && decide (r ≤ 102)) = true by simp [h2]] at HB
      have b1 : 97 ≤ r := h2.1
      clear h1 h2
      go_enter Try.func47, Try.ntmps47
      go_wp2_with fail
      refine (HD.out).mono ?_
      rintro e w' ⟨rfl, rfl⟩
      go_wp2_with fail
      refine (HB.out).mono ?_
      rintro e w' ⟨rfl, rfl⟩
      go_wp2_with fail
      go_returns
      exact ⟨by rw [HE.out]; rfl, rfl⟩
    · rw [show (decide (97 ≤ r) && decide (r ≤ 102)) = false by simp; omega] at HB
      by_cases h3 : 65 ≤ r ∧ r ≤ 70
      · have HE := Lib.hid (show hexi r = (r : Int) - 65 + 10 by rw [hexi, hexv, if_neg h1, if_neg h2, if_pos h3]; simp only; omega)
        rw [show (decide (65 ≤ r) && decide (r ≤ 70)) = true by simp [h3]] at HC
        have b1 : 65 ≤ r := h3.1
        clear h1 h2 h3
        go_enter Try.func47, Try.ntmps47
        go_wp2_with fail
        refine (HD.out).mono ?_
        rintro e w' ⟨rfl, rfl⟩
        go_wp2_with fail
        refine (HB.out).mono ?_
        rintro e w' ⟨rfl, rfl⟩
        go_wp2_with fail
        refine (HC.out).mono ?_
        rintro e w' ⟨rfl, rfl⟩
        go_wp2_with fail
        go_returns
        exact ⟨by rw [HE.out]; rfl, rfl⟩
      · have HE := Lib.hid (show hexi r = -1 by rw [hexi, hexv, if_neg h1, if_neg h2, if_neg h3])
        rw [show (decide (65 ≤ r) && decide (r ≤ 70)) = false by simp; omega] at HC
        clear h1 h2 h3
        go_enter Try.func47, Try.ntmps47
        go_wp2_with fail
        refine (HD.out).mono ?_
        rintro e w' ⟨rfl, rfl⟩
        go_wp2_with fail
        refine (HB.out).mono ?_
        rintro e w' ⟨rfl, rfl⟩
        go_wp2_with fail
        refine (HC.out).mono ?_
        rintro e w' ⟨rfl, rfl⟩
        go_wp2_with fail
        go_returns
        exact ⟨by rw [HE.out]; rfl, rfl⟩
/-- The number of digits of a base. -/
def natOf (base : Nat) (l : List Nat) : Nat := l.foldl (fun a b => a * base + (hexv b).getD 0) 0
theorem natOf_snoc (base : Nat) (l : List Nat) (b : Nat) : natOf base (l ++ [b]) = natOf base l * base + (hexv b).getD 0 := by simp [natOf]
theorem hexd_lt (b : Nat) : (hexv b).getD 0 < 16 := by
  cases h : hexv b with
  | none => simp
  | some v => simpa using hexv_lt h
theorem fold_lt (base : Nat) (hb : base ≤ 16) (l : List Nat) : ∀ a, l.foldl (fun a b => a * base + (hexv b).getD 0) a < (a + 1) * 16 ^ l.length := by
  induction l with
  | nil => intro a; simp
  | cons b l ih =>
    intro a
    rw [List.foldl_cons, List.length_cons, Nat.pow_succ, Nat.mul_comm (16 ^ l.length), ← Nat.mul_assoc]
    refine Nat.lt_of_lt_of_le (ih _) (Nat.mul_le_mul_right _ ?_)
    have h1 := hexd_lt b
    have h2 := Nat.mul_le_mul_left a hb
    rw [Nat.add_mul]
    omega
theorem natOf_lt (base : Nat) (hb : base ≤ 16) (l : List Nat) : natOf base l < 16 ^ l.length := by
  have := fold_lt base hb l 0
  rwa [Nat.zero_add, Nat.one_mul] at this
theorem natOf_blen (base : Nat) (hb : base ≤ 16) (l : List Nat) : blen (natOf base l) ≤ 4 * l.length := by
  refine blen_le_of_lt ?_
  rw [Nat.pow_mul]
  exact natOf_lt base hb l
theorem take_byt (s : ByteArray) (j : Nat) (h : j < s.size) : (nats s).take (j + 1) = (nats s).take j ++ [byt s j] := by
  rw [List.take_add_one, nats_get s j h]
  rfl
set_option maxRecDepth 100000 in
set_option maxHeartbeats 4000000 in
theorem natural_walk (s : ByteArray) (base : Nat) (w : World) (hb : base ≤ 16) (hs : s.size ≤ 5000) (hd : ∀ i, i < s.size → (hexv (byt s i)).isSome = true) :
    Calls Try.prog 34 #[.string s, .int .i64 base] w (Gives (natOf base (nats s)) w) := by
  have HT := Lib.hid (fun (u : Value) (U m r : Nat) (w : World) (h : Num w u U) (hU : blen U < 31000000) (hm : m < 4294967296) (hr : r < 4294967296) => times_walk u U m r w h hU hm hr)
  have HD := Lib.hid hd
  have HTK := Lib.hid (take_byt s)
  have HBL := Lib.hid (fun l => natOf_blen base hb l)
  have HSN := Lib.hid (fun l b => natOf_snoc base l b)
  have HAL := Lib.hid (show (nats s).take s.size = nats s by rw [← nats_length, List.take_length])
  have HBY := Lib.hid (byt_lt s)
  have HEQ := Lib.hid (byt_eq s)
  clear hd
  go_enter Try.func34, Try.ntmps34
  go_wp2_with fail
  go_loopw [5, 6] (fun ov iv wr => ∃ j : Nat, iv = .int .i64 j ∧ j ≤ s.size ∧ Num wr ov (natOf base ((nats s).take j)) ∧ Below w.heap.size w wr) (fun _ iv _ => s.size - (intOf iv).toNat)
  case atStart => exact ⟨0, rfl, Nat.zero_le _, ⟨none, 0, 0, fun _ => 0, rfl, ⟨Nat.le_refl _, by omega, fun i hi => by omega⟩, fun i hi => by omega, fun h => by omega, rfl⟩, Below.refl _ _⟩
  case round =>
    obtain ⟨j, rfl, hj, hn, hb2⟩ := hrel
    have HN := Lib.hid hn
    have HB := Lib.hid hb2
    clear hn hb2
    by_cases hlt : j < s.size
    · have q1 : (j : Int) < (s.size : Int) := by omega
      obtain ⟨b, hbb⟩ : ∃ b : Nat, b = byt s j := ⟨_, rfl⟩
      have eb : (s[j]'hlt).toNat = b := by rw [hbb, HEQ.out _ hlt]
      have b255 := HBY.out j
      have hds := HD.out j hlt
      rw [← hbb] at b255 hds
      obtain ⟨v, hv⟩ := Option.isSome_iff_exists.1 hds
      have hv16 := hexv_lt hv
      have HX := Lib.hid (fun w => hex_walk b w (by omega))
      have hxi : hexi b = (v : Int) := by rw [hexi, hv]
      rw [hxi] at HX
      have HNX := Lib.hid (show natOf base ((nats s).take (j + 1)) = natOf base ((nats s).take j) * base + v by rw [HTK.out j hlt, HSN.out, ← hbb, hv]; rfl)
      have HTJ := Lib.hid (show blen (natOf base ((nats s).take j)) < 31000000 by
        have h1 := HBL.out ((nats s).take j)
        have h2 := List.length_take_le j (nats s)
        omega)
      obtain ⟨V, hV⟩ : ∃ V, V = natOf base ((nats s).take j) := ⟨_, rfl⟩
      rw [← hV] at HN HNX HTJ
      have HLT := Lib.hid hlt
      clear hbb hds hv hxi hV
      go_wp2_with fail
      refine (HX.out _).mono ?_
      rintro e w' ⟨rfl, rfl⟩
      go_wp2_with fail
      refine (HT.out _ _ base v _ HN.out HTJ.out (by omega) (by omega)).mono ?_
      rintro e w2 ⟨hb2, v2, rfl, hn2⟩
      have HB2 := Lib.hid (HB.out.trans (hb2.mono HB.out.size))
      have HN2 := Lib.hid hn2
      clear hb2 hn2
      go_wp2_with fail
      go_roundw
      case rel => exact ⟨j + 1, rfl, HLT.out, by rw [HNX.out]; exact HN2.out, HB2.out⟩
      case measure => have := HLT.out; simp [intOf]; omega
    · have q1 : ¬ (j : Int) < (s.size : Int) := by omega
      have HJ := Lib.hid (show j = s.size by omega)
      clear hlt
      go_wp2_with fail
      go_returns
      exact ⟨HB.out, _, rfl, by have := HN.out; rw [HJ.out, HAL.out] at this; exact this⟩
/-- The double nearest to a whole number. -/
theorem whole_walk (u : Value) (U : Nat) (w : World) (h : Num w u U) (hU : blen U ≤ 100000) : Calls Try.prog 46 #[u] w (RoundPost (roundP U 1) w) := by
  have HS := Lib.hid (show Calls Try.prog 51 #[.int .i64 1] w (Gives 1 w) from natSmall 1 w (by omega))
  have HR := Lib.hid (fun (v : Value) (w : World) (h : Num w u U) (h' : Num w v 1) => round_walk u v U 1 w h h' (by omega) hU (by decide))
  have HN := Lib.hid h
  clear h
  go_enter Try.func46, Try.ntmps46
  go_wp2_with fail
  refine HS.out.mono ?_
  rintro e w2 ⟨hb2, v2, rfl, hn2⟩
  have HB2 := Lib.hid hb2
  have HN2 := Lib.hid hn2
  clear hb2 hn2
  go_wp2_with fail
  refine (HR.out v2 w2 (HN.out.below HB2.out) HN2.out).mono ?_
  rintro e w3 ⟨hb3, rfl⟩
  have HB3 := Lib.hid (HB2.out.trans (hb3.mono HB2.out.size))
  clear hb3
  go_wp2_with fail
  go_returns
  exact ⟨HB3.out, rfl⟩
end Go.Proofs.Ytefippeaalkmeaa.Nats
