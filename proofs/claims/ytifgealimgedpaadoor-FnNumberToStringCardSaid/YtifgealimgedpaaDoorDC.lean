/- The text of a double, by its word. The walks. -/
import Derived.Test.YtifgealimgedpaaDoorFA
namespace Go.Proofs.YtifgealimgedpaaDoor.Nats
open Go.RowKit Go.Proofs.YtifgealimgedpaaDoor.Aid Go.Proofs.YtifgealimgedpaaDoor.Runes Go.Proofs.YtifgealimgedpaaDoor.Bytes Go.Proofs.YtifgealimgedpaaDoor.Flo
attribute [local go_sem ↓] Go.wp_at_zero Go.wp_at_succ
set_option linter.unusedVariables false
def zer0 (n : Nat) : ByteArray := ⟨(List.replicate n 48).toArray⟩
theorem zer0_size (n : Nat) : (zer0 n).size = n := by simp [zer0, ByteArray.size]
theorem zer0_succ (n : Nat) : zer0 n ++ ⟨#[48]⟩ = zer0 (n + 1) := by
  apply ByteArray.ext
  rw [ByteArray.data_append]
  apply Array.toList_inj.1
  simp [zer0, List.replicate_succ']
set_option maxRecDepth 100000 in
set_option maxHeartbeats 2000000 in
theorem zeros (n : Int) (w : World) (hn : n ≤ 4000) : Calls Tryd.prog 21 #[.int .i64 n] w fun e w' => e = .returned (.string (zer0 n.toNat)) ∧ w' = w := by
  have HSU := Lib.hid zer0_succ
  have HSZ := Lib.hid zer0_size
  go_enter Tryd.func21, Tryd.ntmps21
  go_wp2_with fail
  go_loopw [3, 4] (fun ov iv wr => ∃ i : Nat, ov = .string (zer0 i) ∧ iv = .int .i64 i ∧ (i ≤ n.toNat) ∧ wr = w) (fun _ iv _ => (n - intOf iv).toNat)
  case atStart => exact ⟨0, rfl, rfl, by omega, rfl⟩
  case round =>
    obtain ⟨i, rfl, rfl, hi, rfl⟩ := hrel
    have hz := HSZ.out i
    obtain ⟨Z, hZ⟩ : ∃ Z, Z = zer0 i := ⟨_, rfl⟩
    have HZ := Lib.hid hZ
    rw [← hZ] at hz ⊢
    have hzz : Z.size ≤ 4000 := by omega
    have HZZ := Lib.hid hz
    clear hZ hz
    by_cases hlt : (i : Int) < n
    · have hx : Z.size + 1 ≤ 9223372036854775807 := by omega
      have HLT := Lib.hid hlt
      go_wp2_with fail
      go_roundw
      case rel => exact ⟨i + 1, by rw [HZ.out, HSU.out], val_int (by omega), by have := HLT.out; omega, trivial⟩
      case measure => have := HLT.out; simp [intOf]; omega
    · have HI := Lib.hid (show n.toNat = i by omega)
      go_wp2_with fail
      go_returns
      exact ⟨by rw [HI.out, ← HZ.out]; rfl, rfl⟩
def SomeStr (b : Nat) (w : World) (e : Ending) (w' : World) : Prop := Below w.heap.size w w' ∧ ∃ t : ByteArray, e = .returned (.string t) ∧ t.size ≤ b
theorem str_len (u : Nat) (h : u < 4294967296) : (⟨(Lib.decDigits u).toArray⟩ : ByteArray).size ≤ 400 := by
  have := digits_len u (by omega)
  simpa [ByteArray.size] using this
set_option maxRecDepth 100000 in
set_option maxHeartbeats 2000000 in
theorem intText (x : Int) (w : World) (h0 : -4000 ≤ x) (h1 : x ≤ 4000) : Calls Tryd.prog 22 #[.int .i64 x] w (SomeStr 500 w) := by
  have HDG := Lib.hid (fun v V w (h : Num w v V) (hb : blen V ≤ 100000) => digits_walk v V w h hb)
  by_cases hn : x < 0
  · obtain ⟨m, hm⟩ : ∃ m : Nat, m = (-x).toNat := ⟨_, rfl⟩
    have em : -x = (m : Int) := by omega
    have HSM := Lib.hid (natSmall m w (by omega))
    have HMB := Lib.hid (show blen m ≤ 64 from blen_le_of_lt (by omega))
    have HSL := Lib.hid (str_len m (by omega))
    clear hm
    go_enter Tryd.func22, Tryd.ntmps22
    go_wp2_with fail
    refine HSM.out.mono ?_
    rintro e W ⟨hb, v, rfl, hv⟩
    have HB := Lib.hid hb
    have HV := Lib.hid hv
    clear hb hv
    go_wp2_with fail
    refine (HDG.out _ _ _ HV.out (by have := HMB.out; omega)).mono ?_
    rintro e W2 ⟨hb2, rfl⟩
    have HB2 := Lib.hid (HB.out.trans (hb2.mono HB.out.size))
    clear hb2
    obtain ⟨T, hT⟩ : ∃ T : ByteArray, T = ⟨(Lib.decDigits m).toArray⟩ := ⟨_, rfl⟩
    rw [← hT] at HSL ⊢
    clear hT
    have hts := HSL.out
    have hx : 1 + T.size ≤ 9223372036854775807 := by omega
    go_wp2_with fail
    go_returns
    exact ⟨HB2.out, _, rfl, by rw [ByteArray.size_append]; show 1 + T.size ≤ 500; omega⟩
  · obtain ⟨m, rfl⟩ : ∃ m : Nat, x = (m : Int) := ⟨x.toNat, by omega⟩
    have HSM := Lib.hid (natSmall m w (by omega))
    have HMB := Lib.hid (show blen m ≤ 64 from blen_le_of_lt (by omega))
    have HSL := Lib.hid (str_len m (by omega))
    go_enter Tryd.func22, Tryd.ntmps22
    go_wp2_with fail
    refine HSM.out.mono ?_
    rintro e W ⟨hb, v, rfl, hv⟩
    have HB := Lib.hid hb
    have HV := Lib.hid hv
    clear hb hv
    go_wp2_with fail
    refine (HDG.out _ _ _ HV.out (by have := HMB.out; omega)).mono ?_
    rintro e W2 ⟨hb2, rfl⟩
    have HB2 := Lib.hid (HB.out.trans (hb2.mono HB.out.size))
    clear hb2
    go_wp2_with fail
    go_returns
    exact ⟨HB2.out, _, rfl, by have := HSL.out; omega⟩
/-- The text of a double: where it is told to be a whole number below 2^32, its digits; else some text. -/
def TextIs (R : Nat) (t : ByteArray) : Prop := t.size ≤ 5000 ∧ ∀ N, 0 < N → N < 4294967296 → exA R = N * exB R → t = ⟨(Lib.decDigits N).toArray⟩
theorem dec_mul (c z : Nat) (hc : 0 < c) : Lib.decDigits (c * 10 ^ z) = Lib.decDigits c ++ List.replicate z 48 := by
  induction z with
  | zero => simp
  | succ z ih =>
    have hp := Nat.mul_pos hc (ten_pos z)
    rw [Lib.decDigits, Nat.pow_succ, ← Nat.mul_assoc, dif_neg (by omega), Nat.mul_div_cancel _ (by omega), ih, Nat.mul_mod_left, List.replicate_succ', ← List.append_assoc]
    rfl
theorem dec_len (k : Nat) : ∀ c, c < 10 ^ (k + 1) → 10 ^ k ≤ c → (Lib.decDigits c).length = k + 1 := by
  induction k with
  | zero =>
    intro c h1 h2
    rw [Lib.decDigits, dif_pos (by omega)]
    rfl
  | succ k ih =>
    intro c h1 h2
    have hp := ten_pos k
    rw [Lib.decDigits, dif_neg (by rw [Nat.pow_succ] at h2; omega), List.length_append, ih (c / 10) (by rw [Nat.pow_succ] at h1; omega) (by rw [Nat.pow_succ] at h2; omega)]
    rfl
/-- Of a whole number the shortest digits are its own. -/
theorem short_whole {R N c k z : Nat} {n : Int} {s : ByteArray} (hR : R < 9218868437227405312) (hN : 0 < N) (hN2 : N < 4294967296) (hex : exA R = N * exB R) (hl : LoN R n) (hh : HiN R n) (k1 : 1 ≤ k) (k17 : k ≤ 17)
    (c0 : 10 ^ (k - 1) ≤ c) (c1 : c ≤ 10 ^ k) (hbk : backP c (n - (k : Int)) = R) (hno : ∀ j : Nat, 1 ≤ j → j < k → backP (bestP R (n - (j : Int))) (n - (j : Int)) ≠ R) (hd : Lib.decDigits c = s.data.toList ++ List.replicate z 48) :
    ∃ m : Nat, n = (m : Int) ∧ m ≤ 10 ∧ (Lib.decDigits c).length = k ∧ k ≤ m ∧ s.size ≤ m ∧ s ++ zer0 (m - s.size) = ⟨(Lib.decDigits N).toArray⟩ := by
  obtain ⟨h1, h2, h3⟩ := n_bd hN hex hl hh
  obtain ⟨m, rfl⟩ : ∃ m : Nat, n = (m : Int) := ⟨n.toNat, by omega⟩
  rw [Int.toNat_natCast] at h2 h3
  have hm10 : m ≤ 10 := by
    by_cases h : m ≤ 10
    · exact h
    · have h5 := Nat.pow_le_pow_right (n := 10) (by omega) (show 10 ≤ m - 1 by omega)
      have e : (10 : Nat) ^ 10 = 10000000000 := by decide
      omega
  have hkm : k ≤ m := by
    by_cases h : k ≤ m
    · exact h
    · exfalso
      have h5 := hno m (by omega) (by omega)
      rw [Int.sub_self, best_whole hex] at h5
      exact h5 (back_self hR hN hex)
  have c1p : 1 ≤ c := Nat.le_trans (ten_pos (k - 1)) c0
  have hcb : c * 10 ^ (m - k) ≤ 10 ^ m := by
    have := Nat.mul_le_mul_right (10 ^ (m - k)) c1
    rwa [← Nat.pow_add, show k + (m - k) = m by omega] at this
  have hm : 10 ^ m ≤ 10000000000 := by
    have h5 := Nat.pow_le_pow_right (n := 10) (by omega) hm10
    exact h5
  have hcN := back_whole hR hN (by omega) hex hkm c1p (by omega) hbk
  have hck : c < 10 ^ k := by
    by_cases h : c < 10 ^ k
    · exact h
    · have h5 := Nat.mul_le_mul_right (10 ^ (m - k)) (show 10 ^ k ≤ c by omega)
      rw [← Nat.pow_add, show k + (m - k) = m by omega] at h5
      omega
  have hlen : (Lib.decDigits c).length = k := by
    have := dec_len (k - 1) c (by rw [show k - 1 + 1 = k by omega]; exact hck) c0
    omega
  have hsz : s.size + z = k := by
    have h5 := congrArg List.length hd
    rw [hlen, List.length_append, List.length_replicate, Array.length_toList] at h5
    exact h5.symm
  refine ⟨m, rfl, hm10, hlen, hkm, by omega, ?_⟩
  apply ByteArray.ext
  rw [ByteArray.data_append]
  apply Array.toList_inj.1
  rw [Array.toList_append, ← hcN, dec_mul c (m - k) c1p, hd, List.append_assoc, List.replicate_append_replicate]
  show s.data.toList ++ List.replicate (m - s.size) 48 = s.data.toList ++ List.replicate (z + (m - k)) 48
  congr 2
  omega
end Go.Proofs.YtifgealimgedpaaDoor.Nats
