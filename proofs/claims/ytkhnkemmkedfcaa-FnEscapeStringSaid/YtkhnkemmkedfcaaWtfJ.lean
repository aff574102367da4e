/- Helpers of the quoting: which code points need no escape, how many bytes a code point has, the reading of WTF-8. The walks. -/
import Derived.Test.YtkhnkemmkedfcaaWtfI
namespace Go.Proofs.Ytkhnkemmkedfcaa.Wtf
open Go.RowKit Go.Proofs.Ytkhnkemmkedfcaa.Aid Go.Proofs.Ytkhnkemmkedfcaa.Runes Go.Proofs.Ytkhnkemmkedfcaa.Bytes
attribute [local go_sem ↓] Go.wp_at_zero Go.wp_at_succ
set_option linter.unusedVariables false
set_option maxRecDepth 100000 in
set_option maxHeartbeats 2000000 in
theorem can_walk (r : Nat) (ascii : Bool) (hr : r ≤ 1114111) (w : World) : Calls Try.prog 67 #[.int .i32 r, .bool ascii] w fun e w' => e = .returned (.bool (can r ascii)) ∧ w' = w := by
  obtain ⟨B, hB⟩ : ∃ B, B = can r ascii := ⟨_, rfl⟩
  rw [← hB]
  by_cases h0 : r ≤ 126
  · have t0 : (r : Int) ≤ 126 := by omega
    by_cases h1 : 32 ≤ r
    · have t1 : (32 : Int) ≤ r := by omega
      by_cases h2 : r = 92
      · have HE := Lib.hid (show B = false by rw [hB]; simp [can, h2])
        have t2 : ((r : Int) != 92) = false := by simp; omega
        clear hB h0 h1 h2
        go_enter Try.func67, Try.ntmps67
        go_wp2_with fail
        go_returns
        exact ⟨by rw [HE.out]; rfl, rfl⟩
      · by_cases h3 : r = 34
        · have HE := Lib.hid (show B = false by rw [hB]; simp [can, h3])
          have t2 : ((r : Int) != 92) = true := by simp; omega
          have t3 : ((r : Int) != 34) = false := by simp; omega
          clear hB h0 h1 h2 h3
          go_enter Try.func67, Try.ntmps67
          go_wp2_with fail
          go_returns
          exact ⟨by rw [HE.out]; rfl, rfl⟩
        · have HE := Lib.hid (show B = true by rw [hB]; simp [can, h0, h1, h2, h3])
          have t2 : ((r : Int) != 92) = true := by simp; omega
          have t3 : ((r : Int) != 34) = true := by simp; omega
          clear hB h0 h1 h2 h3
          go_enter Try.func67, Try.ntmps67
          go_wp2_with fail
          go_returns
          exact ⟨by rw [HE.out]; rfl, rfl⟩
    · have HE := Lib.hid (show B = false by rw [hB]; simp [can, h0, h1])
      have t1 : ¬ (32 : Int) ≤ r := by omega
      clear hB h0 h1
      go_enter Try.func67, Try.ntmps67
      go_wp2_with fail
      go_returns
      exact ⟨by rw [HE.out]; rfl, rfl⟩
  · have t0 : ¬ (r : Int) ≤ 126 := by omega
    cases ascii with
    | true =>
      have HE := Lib.hid (show B = false by rw [hB]; simp [can, h0])
      clear hB h0
      go_enter Try.func67, Try.ntmps67
      go_wp2_with fail
      go_returns
      exact ⟨by rw [HE.out]; rfl, rfl⟩
    | false =>
      by_cases h2 : r = 65279
      · have HE := Lib.hid (show B = false by rw [hB]; simp [can, h2])
        have t2 : ((r : Int) != 65279) = false := by simp; omega
        clear hB h0 h2
        go_enter Try.func67, Try.ntmps67
        go_wp2_with fail
        go_returns
        exact ⟨by rw [HE.out]; rfl, rfl⟩
      · have t2 : ((r : Int) != 65279) = true := by simp; omega
        by_cases h3 : r < 55296
        · have HE := Lib.hid (show B = true by rw [hB]; simp [can, h0, h2, h3])
          have t3 : decide ((r : Int) < 55296) = true := by simp; omega
          clear hB h0 h2
          go_enter Try.func67, Try.ntmps67
          go_wp2_with fail
          go_returns
          exact ⟨by rw [HE.out]; rfl, rfl⟩
        · have t3 : decide ((r : Int) < 55296) = false := by simp; omega
          have t3' : ¬ (r : Int) < 55296 := by omega
          by_cases h4 : 57343 < r
          · have HE := Lib.hid (show B = true by rw [hB]; simp [can, h0, h2, h3, h4])
            have t4 : (57343 : Int) < r := by omega
            clear hB h0 h2 h3 h4
            go_enter Try.func67, Try.ntmps67
            go_wp2_with fail
            go_returns
            exact ⟨by rw [HE.out]; rfl, rfl⟩
          · have HE := Lib.hid (show B = false by rw [hB]; simp [can, h0, h2, h3, h4])
            have t4 : ¬ (57343 : Int) < r := by omega
            clear hB h0 h2 h3 h4
            go_enter Try.func67, Try.ntmps67
            go_wp2_with fail
            go_returns
            exact ⟨by rw [HE.out]; rfl, rfl⟩
set_option maxRecDepth 100000 in
set_option maxHeartbeats 2000000 in
theorem runeLen (r : Nat) (hr : r ≤ 1114111) (hs : ¬ (55296 ≤ r ∧ r ≤ 57343)) (w : World) : Calls Try.prog 68 #[.int .i32 r] w fun e w' => (∃ n : Nat, n ≤ 4 ∧ e = .returned (.int .i64 n)) ∧ w' = w := by
  have t0 : ¬ (r : Int) < 0 := by omega
  by_cases h0 : r ≤ 127
  · have t1 : (r : Int) ≤ 127 := by omega
    clear h0 hs
    go_enter Try.func68, Try.ntmps68
    go_wp2_with fail
    go_returns
    exact ⟨⟨1, by omega, rfl⟩, rfl⟩
  have t1 : ¬ (r : Int) ≤ 127 := by omega
  by_cases h1 : r ≤ 2047
  · have t2 : (r : Int) ≤ 2047 := by omega
    clear h0 h1 hs
    go_enter Try.func68, Try.ntmps68
    go_wp2_with fail
    go_returns
    exact ⟨⟨2, by omega, rfl⟩, rfl⟩
  have t2 : ¬ (r : Int) ≤ 2047 := by omega
  by_cases h2 : 55296 ≤ r
  · have t3 : (55296 : Int) ≤ r := by omega
    have t4 : ¬ (r : Int) ≤ 57343 := by omega
    by_cases h3 : r ≤ 65535
    · have t5 : (r : Int) ≤ 65535 := by omega
      clear h0 h1 h2 h3 hs
      go_enter Try.func68, Try.ntmps68
      go_wp2_with fail
      go_returns
      exact ⟨⟨3, by omega, rfl⟩, rfl⟩
    · have t5 : ¬ (r : Int) ≤ 65535 := by omega
      have t6 : (r : Int) ≤ 1114111 := by omega
      clear h0 h1 h2 h3 hs
      go_enter Try.func68, Try.ntmps68
      go_wp2_with fail
      go_returns
      exact ⟨⟨4, by omega, rfl⟩, rfl⟩
  · have t3 : ¬ (55296 : Int) ≤ r := by omega
    have t5 : (r : Int) ≤ 65535 := by omega
    clear h0 h1 h2 hs
    go_enter Try.func68, Try.ntmps68
    go_wp2_with fail
    go_returns
    exact ⟨⟨3, by omega, rfl⟩, rfl⟩
theorem lrune_cases {s : ByteArray} {r n : Nat} (h : lrune (nats s) = (r, n)) (hn : 0 < n) :
    (n = 1 ∧ 1 ≤ s.size ∧ byt s 0 < 128 ∧ r = byt s 0)
    ∨ (n = 2 ∧ 2 ≤ s.size ∧ (194 ≤ byt s 0 ∧ byt s 0 ≤ 223) ∧ byt s 1 / 64 = 2 ∧ r = byt s 0 % 32 * 64 + byt s 1 % 64)
    ∨ (n = 3 ∧ 3 ≤ s.size ∧ (224 ≤ byt s 0 ∧ byt s 0 ≤ 239) ∧ byt s 1 / 64 = 2 ∧ byt s 2 / 64 = 2 ∧ 2048 ≤ r ∧ r = byt s 0 % 16 * 4096 + byt s 1 % 64 * 64 + byt s 2 % 64)
    ∨ (n = 4 ∧ 4 ≤ s.size ∧ (240 ≤ byt s 0 ∧ byt s 0 ≤ 244) ∧ byt s 1 / 64 = 2 ∧ byt s 2 / 64 = 2 ∧ byt s 3 / 64 = 2 ∧ 65536 ≤ r ∧ r ≤ 1114111 ∧ r = byt s 0 % 8 * 262144 + byt s 1 % 64 * 4096 + byt s 2 % 64 * 64 + byt s 3 % 64) := by
  unfold lrune at h
  simp only [getD_nats, nats_length] at h
  repeat' split at h
  · injection h with ha hb
    omega
  · injection h with ha hb
    exact .inl ⟨by omega, by omega, by omega, by omega⟩
  · injection h with ha hb
    exact .inr (.inl ⟨by omega, by omega, by omega, by omega, by omega⟩)
  · injection h with ha hb
    exact .inr (.inr (.inl ⟨by omega, by omega, by omega, by omega, by omega, by omega, by omega⟩))
  · injection h with ha hb
    exact .inr (.inr (.inr ⟨by omega, by omega, by omega, by omega, by omega, by omega, by omega, by omega, by omega⟩))
  · injection h with ha hb
    omega
theorem and8 (x k : Nat) (h : x < 256) (hk : k < 256) : bits .and .u8 (x : Int) (k : Int) = ((x &&& k : Nat) : Int) := (bits_nat .u8 8 (by decide) wraps_u8 x k (by omega) (by omega)).1
theorem and8_224 (x : Nat) (h : x < 256) : bits .and .u8 (x : Int) 224 = ((x / 32 * 32 : Nat) : Int) := by
  have h2 : ∀ y : Fin 256, (y.val &&& 224) = y.val / 32 * 32 := by decide +kernel
  rw [← h2 ⟨x, h⟩]; exact and8 x 224 h (by omega)
theorem and8_240 (x : Nat) (h : x < 256) : bits .and .u8 (x : Int) 240 = ((x / 16 * 16 : Nat) : Int) := by
  have h2 : ∀ y : Fin 256, (y.val &&& 240) = y.val / 16 * 16 := by decide +kernel
  rw [← h2 ⟨x, h⟩]; exact and8 x 240 h (by omega)
theorem and8_248 (x : Nat) (h : x < 256) : bits .and .u8 (x : Int) 248 = ((x / 8 * 8 : Nat) : Int) := by
  have h2 : ∀ y : Fin 256, (y.val &&& 248) = y.val / 8 * 8 := by decide +kernel
  rw [← h2 ⟨x, h⟩]; exact and8 x 248 h (by omega)
theorem and8_31 (x : Nat) (h : x < 256) : bits .and .u8 (x : Int) 31 = ((x % 32 : Nat) : Int) := by
  have h2 : ∀ y : Fin 256, (y.val &&& 31) = y.val % 32 := by decide +kernel
  rw [← h2 ⟨x, h⟩]; exact and8 x 31 h (by omega)
theorem and8_15 (x : Nat) (h : x < 256) : bits .and .u8 (x : Int) 15 = ((x % 16 : Nat) : Int) := by
  have h2 : ∀ y : Fin 256, (y.val &&& 15) = y.val % 16 := by decide +kernel
  rw [← h2 ⟨x, h⟩]; exact and8 x 15 h (by omega)
theorem and8_7 (x : Nat) (h : x < 256) : bits .and .u8 (x : Int) 7 = ((x % 8 : Nat) : Int) := by
  have h2 : ∀ y : Fin 256, (y.val &&& 7) = y.val % 8 := by decide +kernel
  rw [← h2 ⟨x, h⟩]; exact and8 x 7 h (by omega)
theorem wraps_i32 (n : Int) (h0 : 0 ≤ n) (h1 : n < 2 ^ 31) : IntKind.i32.wrap n = n := by rw [IntKind.wrap_i32]; omega
theorem or6 (a b : Int) (ha : 0 ≤ a) (ha2 : a < 33554432) (hb : 0 ≤ b) (hb2 : b < 64) : bits .or .i32 (a * 64) b = a * 64 + b :=
  bits_join .i32 31 (by decide) wraps_i32 6 (a * 64) b (by omega) (by omega) (by omega) (by omega) (by omega) (by omega)
end Go.Proofs.Ytkhnkemmkedfcaa.Wtf
