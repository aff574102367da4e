/- Helpers of the quoting: which code points need no escape, how many bytes a code point has, the reading of WTF-8. The walks. -/
import Derived.Test.YtobhlppdolekoaaWtfH
namespace Go.Proofs.Ytobhlppdolekoaa.Wtf
open Go.RowKit Go.Proofs.Ytobhlppdolekoaa.Aid Go.Proofs.Ytobhlppdolekoaa.Runes Go.Proofs.Ytobhlppdolekoaa.Bytes
attribute [local go_sem ↓] Go.wp_at_zero Go.wp_at_succ
set_option linter.unusedVariables false
set_option maxRecDepth 100000 in
set_option maxHeartbeats 2000000 in
theorem can_walk (r : Nat) (ascii : Bool) (hr : r ≤ 1114111) (w : World) : Calls Try.prog 57 #[.int .i32 r, .bool ascii] w fun e w' => e = .returned (.bool (can r ascii)) ∧ w' = w := by
  obtain ⟨B, hB⟩ : ∃ B, B = can r ascii := ⟨_, rfl⟩
  rw [← hB]
  by_cases h0 : r ≤ 126
  · have t0 : (r : Int) ≤ 126 := by omega
    by_cases h1 : 32 ≤ r
    · have t1 : (32 : Int) ≤ r := by omega
      by_cases h2 : r = 92
      · have HE := Lib.hid (show B = false by rw [hB]; simp [can, h2])
        have t2 : ((r : Int) != 92) = false := by simp; omega
        clear hB h0 h1 h2
        go_enter Try.func57, Try.ntmps57
        go_wp2_with fail
        go_returns
        exact ⟨by rw [HE.out]; rfl, rfl⟩
      · by_cases h3 : r = 34
        · have HE := Lib.hid (show B = false by rw [hB]; simp [can, h3])
          have t2 : ((r : Int) != 92) = true := by simp; omega
          have t3 : ((r : Int) != 34) = false := by simp; omega
          clear hB h0 h1 h2 h3
          go_enter Try.func57, Try.ntmps57
          go_wp2_with fail
          go_returns
          exact ⟨by rw [HE.out]; rfl, rfl⟩
        · have HE := Lib.hid (show B = true by rw [hB]; simp [can, h0, h1, h2, h3])
          have t2 : ((r : Int) != 92) = true := by simp; omega
          have t3 : ((r : Int) != 34) = true := by simp; omega
          clear hB h0 h1 h2 h3
          go_enter Try.func57, Try.ntmps57
          go_wp2_with fail
          go_returns
          exact ⟨by rw [HE.out]; rfl, rfl⟩
    · have HE := Lib.hid (show B = false by rw [hB]; simp [can, h0, h1])
      have t1 : ¬ (32 : Int) ≤ r := by omega
      clear hB h0 h1
      go_enter Try.func57, Try.ntmps57
      go_wp2_with fail
      go_returns
      exact ⟨by rw [HE.out]; rfl, rfl⟩
  · have t0 : ¬ (r : Int) ≤ 126 := by omega
    cases ascii with
    | true =>
      have HE := Lib.hid (show B = false by rw [hB]; simp [can, h0])
      clear hB h0
      go_enter Try.func57, Try.ntmps57
      go_wp2_with fail
      go_returns
      exact ⟨by rw [HE.out]; rfl, rfl⟩
    | false =>
      by_cases h2 : r = 65279
      · have HE := Lib.hid (show B = false by rw [hB]; simp [can, h2])
        have t2 : ((r : Int) != 65279) = false := by simp; omega
        clear hB h0 h2
        go_enter Try.func57, Try.ntmps57
        go_wp2_with fail
        go_returns
        exact ⟨by rw [HE.out]; rfl, rfl⟩
      · have t2 : ((r : Int) != 65279) = true := by simp; omega
        by_cases h3 : r < 55296
        · have HE := Lib.hid (show B = true by rw [hB]; simp [can, h0, h2, h3])
          have t3 : decide ((r : Int) < 55296) = true := by simp; omega
          clear hB h0 h2
          go_enter Try.func57, Try.ntmps57
          go_wp2_with fail
          go_returns
          exact ⟨by rw [HE.out]; rfl, rfl⟩
        · have t3 : decide ((r : Int) < 55296) = false := by simp; omega
          have t3' : ¬ (r : Int) < 55296 := by omega
          by_cases h4 : 57343 < r
          · have HE := Lib.hid (show B = true by rw [hB]; simp [can, h0, h2, h3, h4])
            have t4 : (57343 : Int) < r := by omega
            clear hB h0 h2 h3 h4
            go_enter Try.func57, Try.ntmps57
            go_wp2_with fail
            go_returns
            exact ⟨by rw [HE.out]; rfl, rfl⟩
          · have HE := Lib.hid (show B = false by rw [hB]; simp [can, h0, h2, h3, h4])
            have t4 : ¬ (57343 : Int) < r := by omega
            clear hB h0 h2 h3 h4
            go_enter Try.func57, Try.ntmps57
            go_wp2_with fail
            go_returns
            exact ⟨by rw [HE.out]; rfl, rfl⟩
set_option maxRecDepth 100000 in
set_option maxHeartbeats 2000000 in
theorem runeLen (r : Nat) (hr : r ≤ 1114111) (hs : ¬ (55296 ≤ r ∧ r ≤ 57343)) (w : World) : Calls Try.prog 58 #[.int .i32 r] w fun e w' => (∃ n : Nat, n ≤ 4 ∧ e = .returned (.int .i64 n)) ∧ w' = w := by
  have t0 : ¬ (r : Int) < 0 := by omega
  by_cases h0 : r ≤ 127
  · have t1 : (r : Int) ≤ 127 := by omega
    clear h0 hs
    go_enter Try.func58, Try.ntmps58
    go_wp2_with fail
    go_returns
    exact ⟨⟨1, by omega, rfl⟩, rfl⟩
  have t1 : ¬ (r : Int) ≤ 127 := by omega
  by_cases h1 : r ≤ 2047
  · have t2 : (r : Int) ≤ 2047 := by omega
    clear h0 h1 hs
    go_enter Try.func58, Try.ntmps58
    go_wp2_with fail
    go_returns
    exact ⟨⟨2, by omega, rfl⟩, rfl⟩
  have t2 : ¬ (r : Int) ≤ 2047 := by omega
  by_cases h2 : 55296 ≤ r
  · have t3 : (55296 : Int) ≤ r := by omega
    have t4 : ¬ (r : Int) ≤ 57343 := by omega
    by_cases h3 : r ≤ 65535
    · have t5 : (r : Int) ≤ 65535 := by omega
      clear h0 h1 h2 h3 hs
      go_enter Try.func58, Try.ntmps58
      go_wp2_with fail
      go_returns
      exact ⟨⟨3, by omega, rfl⟩, rfl⟩
    · have t5 : ¬ (r : Int) ≤ 65535 := by omega
      have t6 : (r : Int) ≤ 1114111 := by omega
      clear h0 h1 h2 h3 hs
      go_enter Try.func58, Try.ntmps58
      go_wp2_with fail
      go_returns
      exact ⟨⟨4, by omega, rfl⟩, rfl⟩
  · have t3 : ¬ (55296 : Int) ≤ r := by omega
    have t5 : (r : Int) ≤ 65535 := by omega
    clear h0 h1 h2 hs
    go_enter Try.func58, Try.ntmps58
    go_wp2_with fail
    go_returns
    exact ⟨⟨3, by omega, rfl⟩, rfl⟩
theorem lrune_cases {s : ByteArray} {r n : Nat} (h : lrune (nats s) = (r, n)) (hn : 0 < n) :
    (n = 1 ∧ 1 ≤ s.size ∧ byt s 0 < 128 ∧ r = byt s 0)
    ∨ (n = 2 ∧ 2 ≤ s.size ∧ (194 ≤ byt s 0 ∧ byt s 0 ≤ 223) ∧ byt s 1 / 64 = 2 ∧ r = byt s 0 % 32 * 64 + byt s 1 % 64)
    ∨ (n = 3 ∧ 3 ≤ s.size ∧ (224 ≤ byt s 0 ∧ byt s 0 ≤ 239) ∧ byt s 1 / 64 = 2 ∧ byt s 2 / 64 = 2 ∧ 2048 ≤ r ∧ r = byt s 0 % 16 * 4096 + byt s 1 % 64 * 64 + byt s 2 % 64)
    ∨ (n = 4 ∧ 4 ≤ s.size ∧ (240 ≤ byt s 0 ∧ byt s 0 ≤ 244) ∧ byt s 1 / 64 = 2 ∧ byt s 2 / 64 = 2 ∧ byt s 3 / 64 = 2 ∧ 65536 ≤ r ∧ r ≤ 1114111 ∧ r = byt s 0 % 8 * 262144 + byt s 1 % 64 * 4096 + byt s 2 % 64 * 64 + byt s 3 % 64) := by
  unfold lrune at h
  simp only [getD_nats, nats_length] at h
  repeat' split at h
  · injection h with ha hb
    omega
  · injection h with ha hb
    exact .inl ⟨by omega, by omega, by omega, by omega⟩
  · injection h with ha hb
    exact .inr (.inl ⟨by omega, by omega, by omega, by omega, by omega⟩)
  · injection h with ha hb
    exact .inr (.inr (.inl ⟨by omega, by omega, by omega, by omega, by omega, by omega, by omega⟩))
  · injection h with ha hb
    exact .inr (.inr (.inr ⟨by omega, by omega, by omega, by omega, by omega, by omega, by omega, by omega, by omega⟩))
  · injection h with ha hb
    omega
theorem and8 (x k : Nat) (h : x < 256) (hk : k < 256) : bits .and .u8 (x : Int) (k : Int) = ((x &&& k : Nat) : Int) := (bits_nat .u8 8 (by decide) wraps_u8 x k (by omega) (by omega)).1
theorem and8_224 (x : Nat) (h : x < 256) : bits .and .u8 (x : Int) 224 = ((x / 32 * 32 : Nat) : Int) := by
  have h2 : ∀ y : Fin 256, (y.val &&& 224) = y.val / 32 * 32 := by decide +kernel
  rw [← h2 ⟨x, h⟩]; exact and8 x 224 h (by omega)
theorem and8_240 (x : Nat) (h : x < 256) : bits .and .u8 (x : Int) 240 = ((x / 16 * 16 : Nat) : Int) := by
  have h2 : ∀ y : Fin 256, (y.val &&& 240) = y.val / 16 * 16 := by decide +kernel
  rw [← h2 ⟨x, h⟩]; exact and8 x 240 h (by omega)
theorem and8_248 (x : Nat) (h : x < 256) : bits .and .u8 (x : Int) 248 = ((x / 8 * 8 : Nat) : Int) := by
  have h2 : ∀ y : Fin 256, (y.val &&& 248) = y.val / 8 * 8 := by decide +kernel
  rw [← h2 ⟨x, h⟩]; exact and8 x 248 h (by omega)
theorem and8_31 (x : Nat) (h : x < 256) : bits .and .u8 (x : Int) 31 = ((x % 32 : Nat) : Int) := by
  have h2 : ∀ y : Fin 256, (y.val &&& 31) = y.val % 32 := by decide +kernel
  rw [← h2 ⟨x, h⟩]; exact and8 x 31 h (by omega)
theorem and8_15 (x : Nat) (h : x < 256) : bits .and .u8 (x : Int) 15 = ((x % 16 : Nat) : Int) := by
  have h2 : ∀ y : Fin 256, (y.val &&& 15) = y.val % 16 := by decide +kernel
  rw [← h2 ⟨x, h⟩]; exact and8 x 15 h (by omega)
theorem and8_7 (x : Nat) (h : x < 256) : bits .and .u8 (x : Int) 7 = ((x % 8 : Nat) : Int) := by
  have h2 : ∀ y : Fin 256, (y.val &&& 7) = y.val % 8 := by decide +kernel
  rw [← h2 ⟨x, h⟩]; exact and8 x 7 h (by omega)
theorem wraps_i32 (n : Int) (h0 : 0 ≤ n) (h1 : n < 2 ^ 31) : IntKind.i32.wrap n = n := by rw [IntKind.wrap_i32]; omega
theorem or6 (a b : Int) (ha : 0 ≤ a) (ha2 : a < 33554432) (hb : 0 ≤ b) (hb2 : b < 64) : bits .or .i32 (a * 64) b = a * 64 + b :=
  bits_join .i32 31 (by decide) wraps_i32 6 (a * 64) b (by omega) (by omega) (by omega) (by omega) (by omega) (by omega)
end Go.Proofs.Ytobhlppdolekoaa.Wtf
/- The reading of WTF-8, at a code point. The walk. -/
namespace Go.Proofs.Ytobhlppdolekoaa.Wtf
open Go.RowKit Go.Proofs.Ytobhlppdolekoaa.Aid Go.Proofs.Ytobhlppdolekoaa.Runes Go.Proofs.Ytobhlppdolekoaa.Bytes
attribute [local go_sem ↓] Go.wp_at_zero Go.wp_at_succ
set_option linter.unusedVariables false
def Dec (r n : Nat) (w : World) (e : Ending) (w' : World) : Prop := e = .returned (.tuple #[.int .i32 r, .int .i64 n]) ∧ w' = w
set_option maxRecDepth 100000 in
set_option maxHeartbeats 2000000 in
theorem dec1 (s : ByteArray) (hs : s.size ≤ 140737488351232) (w : World) (h1 : 1 ≤ s.size) (h2 : byt s 0 < 128) : Calls Try.prog 59 #[.string s] w (Dec (byt s 0) 1 w) := by
  obtain ⟨a, ha⟩ : ∃ a : Nat, a = byt s 0 := ⟨_, rfl⟩
  have g0 : 0 < s.size := by omega
  have z0 : (0 : Int) < s.size := by omega
  have ea : (s[0]'g0).toNat = a := by rw [ha, byt_eq s 0 g0]
  have a255 : a < 256 := by have := byt_lt s 0; omega
  rw [← ha] at h2 ⊢
  have t0 : ¬ (s.size : Int) < 1 := by omega
  have t1 : (a : Int) < 128 := by omega
  clear ha h2
  go_enter Try.func59, Try.ntmps59
  go_wp2_with fail
  go_returns
  exact ⟨rfl, rfl⟩
set_option maxRecDepth 100000 in
set_option maxHeartbeats 2000000 in
theorem dec2 (s : ByteArray) (hs : s.size ≤ 140737488351232) (w : World) (r : Nat) (h1 : 2 ≤ s.size) (h2 : 194 ≤ byt s 0 ∧ byt s 0 ≤ 223) (h3 : byt s 1 / 64 = 2) (hr : r = byt s 0 % 32 * 64 + byt s 1 % 64) : Calls Try.prog 59 #[.string s] w (Dec r 2 w) := by
  obtain ⟨a, ha⟩ : ∃ a : Nat, a = byt s 0 := ⟨_, rfl⟩
  have g0 : 0 < s.size := by omega
  have z0 : (0 : Int) < s.size := by omega
  have ea : (s[0]'g0).toNat = a := by rw [ha, byt_eq s 0 g0]
  have a255 : a < 256 := by have := byt_lt s 0; omega
  obtain ⟨b, hb⟩ : ∃ b : Nat, b = byt s 1 := ⟨_, rfl⟩
  have g1 : 1 < s.size := by omega
  have z1 : (1 : Int) < s.size := by omega
  have eb : (s[1]'g1).toNat = b := by rw [hb, byt_eq s 1 g1]
  have b255 : b < 256 := by have := byt_lt s 1; omega
  rw [← ha] at h2 hr
  rw [← hb] at h3 hr
  have t0 : ¬ (s.size : Int) < 1 := by omega
  have t1 : ¬ (a : Int) < 128 := by omega
  have t2 : ¬ (s.size : Int) < 2 := by omega
  have k1 : bits .and .u8 (a : Int) 224 = 192 := by rw [and8_224 a a255]; omega
  have k2 : bits .and .u8 (b : Int) 192 = 128 := by rw [and192_8 b b255]; omega
  have k3 := and8_31 a a255
  have k4 := and63_8 b b255
  obtain ⟨p, hp⟩ : ∃ p, p = a % 32 := ⟨_, rfl⟩
  obtain ⟨q, hq⟩ : ∃ q, q = b % 64 := ⟨_, rfl⟩
  rw [← hp] at k3 hr
  rw [← hq] at k4 hr
  have pb : p < 32 := by omega
  have qb : q < 64 := by omega
  have o1 : bits .or .i32 ((p : Int) * 64) (q : Int) = (r : Int) := by rw [or6 _ _ (by omega) (by omega) (by omega) (by omega)]; omega
  have rb : ¬ (r : Int) < 128 := by omega
  clear ha hb h2 h3 hp hq hr
  go_enter Try.func59, Try.ntmps59
  go_wp2_with fail
  go_returns
  exact ⟨rfl, rfl⟩
set_option maxRecDepth 100000 in
set_option maxHeartbeats 4000000 in
theorem dec3 (s : ByteArray) (hs : s.size ≤ 140737488351232) (w : World) (r : Nat) (h1 : 3 ≤ s.size) (h2 : 224 ≤ byt s 0 ∧ byt s 0 ≤ 239) (h3 : byt s 1 / 64 = 2) (h4 : byt s 2 / 64 = 2) (h5 : 2048 ≤ r) (hr : r = byt s 0 % 16 * 4096 + byt s 1 % 64 * 64 + byt s 2 % 64) : Calls Try.prog 59 #[.string s] w (Dec r 3 w) := by
  obtain ⟨a, ha⟩ : ∃ a : Nat, a = byt s 0 := ⟨_, rfl⟩
  have g0 : 0 < s.size := by omega
  have z0 : (0 : Int) < s.size := by omega
  have ea : (s[0]'g0).toNat = a := by rw [ha, byt_eq s 0 g0]
  have a255 : a < 256 := by have := byt_lt s 0; omega
  obtain ⟨b, hb⟩ : ∃ b : Nat, b = byt s 1 := ⟨_, rfl⟩
  have g1 : 1 < s.size := by omega
  have z1 : (1 : Int) < s.size := by omega
  have eb : (s[1]'g1).toNat = b := by rw [hb, byt_eq s 1 g1]
  have b255 : b < 256 := by have := byt_lt s 1; omega
  obtain ⟨c, hc⟩ : ∃ c : Nat, c = byt s 2 := ⟨_, rfl⟩
  have g2 : 2 < s.size := by omega
  have z2 : (2 : Int) < s.size := by omega
  have ec : (s[2]'g2).toNat = c := by rw [hc, byt_eq s 2 g2]
  have c255 : c < 256 := by have := byt_lt s 2; omega
  rw [← ha] at h2 hr
  rw [← hb] at h3 hr
  rw [← hc] at h4 hr
  have t0 : ¬ (s.size : Int) < 1 := by omega
  have t1 : ¬ (a : Int) < 128 := by omega
  have t2 : ¬ (s.size : Int) < 3 := by omega
  have k1 : bits .and .u8 (a : Int) 224 = 224 := by rw [and8_224 a a255]; omega
  have k1' : bits .and .u8 (a : Int) 240 = 224 := by rw [and8_240 a a255]; omega
  have k2 : bits .and .u8 (b : Int) 192 = 128 := by rw [and192_8 b b255]; omega
  have k2' : bits .and .u8 (c : Int) 192 = 128 := by rw [and192_8 c c255]; omega
  have k3 := and8_15 a a255
  have k4 := and63_8 b b255
  have k5 := and63_8 c c255
  obtain ⟨p, hp⟩ : ∃ p, p = a % 16 := ⟨_, rfl⟩
  obtain ⟨q, hq⟩ : ∃ q, q = b % 64 := ⟨_, rfl⟩
  obtain ⟨u, hu⟩ : ∃ u, u = c % 64 := ⟨_, rfl⟩
  rw [← hp] at k3 hr
  rw [← hq] at k4 hr
  rw [← hu] at k5 hr
  have pb : p < 16 := by omega
  have qb : q < 64 := by omega
  have ub : u < 64 := by omega
  obtain ⟨m, hm⟩ : ∃ m, m = p * 64 + q := ⟨_, rfl⟩
  have o1 : bits .or .i32 ((p : Int) * 4096) ((q : Int) * 64) = (m : Int) * 64 := by
    rw [bits_join .i32 31 (by decide) wraps_i32 12 ((p : Int) * 4096) ((q : Int) * 64) (by omega) (by omega) (by omega) (by omega) (by omega) (by omega)]; omega
  have o2 : bits .or .i32 ((m : Int) * 64) (u : Int) = (r : Int) := by rw [or6 _ _ (by omega) (by omega) (by omega) (by omega)]; omega
  have rb : ¬ (r : Int) < 2048 := by omega
  clear ha hb hc h2 h3 h4 h5 hp hq hu hr hm
  go_enter Try.func59, Try.ntmps59
  go_wp2_with fail
  go_returns
  exact ⟨rfl, rfl⟩
set_option maxRecDepth 100000 in
set_option maxHeartbeats 4000000 in
theorem dec4 (s : ByteArray) (hs : s.size ≤ 140737488351232) (w : World) (r : Nat) (h1 : 4 ≤ s.size) (h2 : 240 ≤ byt s 0 ∧ byt s 0 ≤ 244) (h3 : byt s 1 / 64 = 2) (h4 : byt s 2 / 64 = 2) (h4' : byt s 3 / 64 = 2) (h5 : 65536 ≤ r) (h6 : r ≤ 1114111)
    (hr : r = byt s 0 % 8 * 262144 + byt s 1 % 64 * 4096 + byt s 2 % 64 * 64 + byt s 3 % 64) : Calls Try.prog 59 #[.string s] w (Dec r 4 w) := by
  obtain ⟨a, ha⟩ : ∃ a : Nat, a = byt s 0 := ⟨_, rfl⟩
  have g0 : 0 < s.size := by omega
  have z0 : (0 : Int) < s.size := by omega
  have ea : (s[0]'g0).toNat = a := by rw [ha, byt_eq s 0 g0]
  have a255 : a < 256 := by have := byt_lt s 0; omega
  obtain ⟨b, hb⟩ : ∃ b : Nat, b = byt s 1 := ⟨_, rfl⟩
  have g1 : 1 < s.size := by omega
  have z1 : (1 : Int) < s.size := by omega
  have eb : (s[1]'g1).toNat = b := by rw [hb, byt_eq s 1 g1]
  have b255 : b < 256 := by have := byt_lt s 1; omega
  obtain ⟨c, hc⟩ : ∃ c : Nat, c = byt s 2 := ⟨_, rfl⟩
  have g2 : 2 < s.size := by omega
  have z2 : (2 : Int) < s.size := by omega
  have ec : (s[2]'g2).toNat = c := by rw [hc, byt_eq s 2 g2]
  have c255 : c < 256 := by have := byt_lt s 2; omega
  obtain ⟨d, hd⟩ : ∃ d : Nat, d = byt s 3 := ⟨_, rfl⟩
  have g3 : 3 < s.size := by omega
  have z3 : (3 : Int) < s.size := by omega
  have ed : (s[3]'g3).toNat = d := by rw [hd, byt_eq s 3 g3]
  have d255 : d < 256 := by have := byt_lt s 3; omega
  rw [← ha] at h2 hr
  rw [← hb] at h3 hr
  rw [← hc] at h4 hr
  rw [← hd] at h4' hr
  have t0 : ¬ (s.size : Int) < 1 := by omega
  have t1 : ¬ (a : Int) < 128 := by omega
  have t2 : ¬ (s.size : Int) < 4 := by omega
  have k1 : bits .and .u8 (a : Int) 224 = 224 := by rw [and8_224 a a255]; omega
  have k1' : bits .and .u8 (a : Int) 240 = 240 := by rw [and8_240 a a255]; omega
  have k1'' : bits .and .u8 (a : Int) 248 = 240 := by rw [and8_248 a a255]; omega
  have k2 : bits .and .u8 (b : Int) 192 = 128 := by rw [and192_8 b b255]; omega
  have k2' : bits .and .u8 (c : Int) 192 = 128 := by rw [and192_8 c c255]; omega
  have k2'' : bits .and .u8 (d : Int) 192 = 128 := by rw [and192_8 d d255]; omega
  have k3 := and8_7 a a255
  have k4 := and63_8 b b255
  have k5 := and63_8 c c255
  have k6 := and63_8 d d255
  obtain ⟨p, hp⟩ : ∃ p, p = a % 8 := ⟨_, rfl⟩
  obtain ⟨q, hq⟩ : ∃ q, q = b % 64 := ⟨_, rfl⟩
  obtain ⟨u, hu⟩ : ∃ u, u = c % 64 := ⟨_, rfl⟩
  obtain ⟨v, hv⟩ : ∃ v, v = d % 64 := ⟨_, rfl⟩
  rw [← hp] at k3 hr
  rw [← hq] at k4 hr
  rw [← hu] at k5 hr
  rw [← hv] at k6 hr
  have pb : p < 8 := by omega
  have qb : q < 64 := by omega
  have ub : u < 64 := by omega
  have vb : v < 64 := by omega
  obtain ⟨m, hm⟩ : ∃ m, m = p * 64 + q := ⟨_, rfl⟩
  obtain ⟨l, hl⟩ : ∃ l, l = m * 64 + u := ⟨_, rfl⟩
  have o1 : bits .or .i32 ((p : Int) * 262144) ((q : Int) * 4096) = (m : Int) * 4096 := by
    rw [bits_join .i32 31 (by decide) wraps_i32 18 ((p : Int) * 262144) ((q : Int) * 4096) (by omega) (by omega) (by omega) (by omega) (by omega) (by omega)]; omega
  have o2 : bits .or .i32 ((m : Int) * 4096) ((u : Int) * 64) = (l : Int) * 64 := by
    rw [bits_join .i32 31 (by decide) wraps_i32 12 ((m : Int) * 4096) ((u : Int) * 64) (by omega) (by omega) (by omega) (by omega) (by omega) (by omega)]; omega
  have o3 : bits .or .i32 ((l : Int) * 64) (v : Int) = (r : Int) := by rw [or6 _ _ (by omega) (by omega) (by omega) (by omega)]; omega
  have rb : ¬ (r : Int) < 65536 := by omega
  have rb' : ¬ (1114111 : Int) < r := by omega
  clear ha hb hc hd h2 h3 h4 h4' h5 h6 hp hq hu hv hr hm hl
  go_enter Try.func59, Try.ntmps59
  go_wp2_with fail
  go_returns
  exact ⟨rfl, rfl⟩
theorem decode_wtf (s : ByteArray) (hs : s.size ≤ 140737488351232) (w : World) (r n : Nat) (h : lrune (nats s) = (r, n)) (hn : 0 < n) : Calls Try.prog 59 #[.string s] w fun e w' => e = .returned (.tuple #[.int .i32 r, .int .i64 n]) ∧ w' = w := by
  rcases lrune_cases h hn with ⟨rfl, a, b, rfl⟩ | ⟨rfl, a, b, c, d⟩ | ⟨rfl, a, b, c, d, e, f⟩ | ⟨rfl, a, b, c, d, e, f, g, i⟩
  · exact dec1 s hs w a b
  · exact dec2 s hs w r a b c d
  · exact dec3 s hs w r a b c d e f
  · exact dec4 s hs w r a b c d e f g i
end Go.Proofs.Ytobhlppdolekoaa.Wtf
