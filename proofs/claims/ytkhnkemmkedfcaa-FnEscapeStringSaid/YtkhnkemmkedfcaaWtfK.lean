/- The reading of WTF-8, at a code point. The walk. -/
import Derived.Test.YtkhnkemmkedfcaaWtfJ
namespace Go.Proofs.Ytkhnkemmkedfcaa.Wtf
open Go.RowKit Go.Proofs.Ytkhnkemmkedfcaa.Aid Go.Proofs.Ytkhnkemmkedfcaa.Runes Go.Proofs.Ytkhnkemmkedfcaa.Bytes
attribute [local go_sem ↓] Go.wp_at_zero Go.wp_at_succ
set_option linter.unusedVariables false
def Dec (r n : Nat) (w : World) (e : Ending) (w' : World) : Prop := e = .returned (.tuple #[.int .i32 r, .int .i64 n]) ∧ w' = w
set_option maxRecDepth 100000 in
set_option maxHeartbeats 2000000 in
theorem dec1 (s : ByteArray) (hs : s.size ≤ 140737488351232) (w : World) (h1 : 1 ≤ s.size) (h2 : byt s 0 < 128) : Calls Try.prog 69 #[.string s] w (Dec (byt s 0) 1 w) := by
  obtain ⟨a, ha⟩ : ∃ a : Nat, a = byt s 0 := ⟨_, rfl⟩
  have g0 : 0 < s.size := by omega
  have z0 : (0 : Int) < s.size := by omega
  have ea : (s[0]'g0).toNat = a := by rw [ha, byt_eq s 0 g0]
  have a255 : a < 256 := by have := byt_lt s 0; omega
  rw [← ha] at h2 ⊢
  have t0 : ¬ (s.size : Int) < 1 := by omega
  have t1 : (a : Int) < 128 := by omega
  clear ha h2
  go_enter Try.func69, Try.ntmps69
  go_wp2_with fail
  go_returns
  exact ⟨rfl, rfl⟩
set_option maxRecDepth 100000 in
set_option maxHeartbeats 2000000 in
theorem dec2 (s : ByteArray) (hs : s.size ≤ 140737488351232) (w : World) (r : Nat) (h1 : 2 ≤ s.size) (h2 : 194 ≤ byt s 0 ∧ byt s 0 ≤ 223) (h3 : byt s 1 / 64 = 2) (hr : r = byt s 0 % 32 * 64 + byt s 1 % 64) : Calls Try.prog 69 #[.string s] w (Dec r 2 w) := by
  obtain ⟨a, ha⟩ : ∃ a : Nat, a = byt s 0 := ⟨_, rfl⟩
  have g0 : 0 < s.size := by omega
  have z0 : (0 : Int) < s.size := by omega
  have ea : (s[0]'g0).toNat = a := by rw [ha, byt_eq s 0 g0]
  have a255 : a < 256 := by have := byt_lt s 0; omega
  obtain ⟨b, hb⟩ : ∃ b : Nat, b = byt s 1 := ⟨_, rfl⟩
  have g1 : 1 < s.size := by omega
  have z1 : (1 : Int) < s.size := by omega
  have eb : (s[1]'g1).toNat = b := by rw [hb, byt_eq s 1 g1]
  have b255 : b < 256 := by have := byt_lt s 1; omega
  rw [← ha] at h2 hr
  rw [← hb] at h3 hr
  have t0 : ¬ (s.size : Int) < 1 := by omega
  have t1 : ¬ (a : Int) < 128 := by omega
  have t2 : ¬ (s.size : Int) < 2 := by omega
  have k1 : bits .and .u8 (a : Int) 224 = 192 := by rw [and8_224 a a255]; omega
  have k2 : bits .and .u8 (b : Int) 192 = 128 := by rw [and192_8 b b255]; omega
  have k3 := and8_31 a a255
  have k4 := and63_8 b b255
  obtain ⟨p, hp⟩ : ∃ p, p = a % 32 := ⟨_, rfl⟩
  obtain ⟨q, hq⟩ : ∃ q, q = b % 64 := ⟨_, rfl⟩
  rw [← hp] at k3 hr
  rw [← hq] at k4 hr
  have pb : p < 32 := by omega
  have qb : q < 64 := by omega
  have o1 : bits .or .i32 ((p : Int) * 64) (q : Int) = (r : Int) := by rw [or6 _ _ (by omega) (by omega) (by omega) (by omega)]; omega
  have rb : ¬ (r : Int) < 128 := by omega
  clear ha hb h2 h3 hp hq hr
  go_enter Try.func69, Try.ntmps69
  go_wp2_with fail
  go_returns
  exact ⟨rfl, rfl⟩
set_option maxRecDepth 100000 in
set_option maxHeartbeats 4000000 in
theorem dec3 (s : ByteArray) (hs : s.size ≤ 140737488351232) (w : World) (r : Nat) (h1 : 3 ≤ s.size) (h2 : 224 ≤ byt s 0 ∧ byt s 0 ≤ 239) (h3 : byt s 1 / 64 = 2) (h4 : byt s 2 / 64 = 2) (h5 : 2048 ≤ r) (hr : r = byt s 0 % 16 * 4096 + byt s 1 % 64 * 64 + byt s 2 % 64) : Calls Try.prog 69 #[.string s] w (Dec r 3 w) := by
  obtain ⟨a, ha⟩ : ∃ a : Nat, a = byt s 0 := ⟨_, rfl⟩
  have g0 : 0 < s.size := by omega
  have z0 : (0 : Int) < s.size := by omega
  have ea : (s[0]'g0).toNat = a := by rw [ha, byt_eq s 0 g0]
  have a255 : a < 256 := by have := byt_lt s 0; omega
  obtain ⟨b, hb⟩ : ∃ b : Nat, b = byt s 1 := ⟨_, rfl⟩
  have g1 : 1 < s.size := by omega
  have z1 : (1 : Int) < s.size := by omega
  have eb : (s[1]'g1).toNat = b := by rw [hb, byt_eq s 1 g1]
  have b255 : b < 256 := by have := byt_lt s 1; omega
  obtain ⟨c, hc⟩ : ∃ c : Nat, c = byt s 2 := ⟨_, rfl⟩
  have g2 : 2 < s.size := by omega
  have z2 : (2 : Int) < s.size := by omega
  have ec : (s[2]'g2).toNat = c := by rw [hc, byt_eq s 2 g2]
  have c255 : c < 256 := by have := byt_lt s 2; omega
  rw [← ha] at h2 hr
  rw [← hb] at h3 hr
  rw [← hc] at h4 hr
  have t0 : ¬ (s.size : Int) < 1 := by omega
  have t1 : ¬ (a : Int) < 128 := by omega
  have t2 : ¬ (s.size : Int) < 3 := by omega
  have k1 : bits .and .u8 (a : Int) 224 = 224 := by rw [and8_224 a a255]; omega
  have k1' : bits .and .u8 (a : Int) 240 = 224 := by rw [and8_240 a a255]; omega
  have k2 : bits .and .u8 (b : Int) 192 = 128 := by rw [and192_8 b b255]; omega
  have k2' : bits .and .u8 (c : Int) 192 = 128 := by rw [and192_8 c c255]; omega
  have k3 := and8_15 a a255
  have k4 := and63_8 b b255
  have k5 := and63_8 c c255
  obtain ⟨p, hp⟩ : ∃ p, p = a % 16 := ⟨_, rfl⟩
  obtain ⟨q, hq⟩ : ∃ q, q = b % 64 := ⟨_, rfl⟩
  obtain ⟨u, hu⟩ : ∃ u, u = c % 64 := ⟨_, rfl⟩
  rw [← hp] at k3 hr
  rw [← hq] at k4 hr
  rw [← hu] at k5 hr
  have pb : p < 16 := by omega
  have qb : q < 64 := by omega
  have ub : u < 64 := by omega
  obtain ⟨m, hm⟩ : ∃ m, m = p * 64 + q := ⟨_, rfl⟩
  have o1 : bits .or .i32 ((p : Int) * 4096) ((q : Int) * 64) = (m : Int) * 64 := by
    rw [bits_join .i32 31 (by decide) wraps_i32 12 ((p : Int) * 4096) ((q : Int) * 64) (by omega) (by omega) (by omega) (by omega) (by omega) (by omega)]; omega
  have o2 : bits .or .i32 ((m : Int) * 64) (u : Int) = (r : Int) := by rw [or6 _ _ (by omega) (by omega) (by omega) (by omega)]; omega
  have rb : ¬ (r : Int) < 2048 := by omega
  clear ha hb hc h2 h3 h4 h5 hp hq hu hr hm
  go_enter Try.func69, Try.ntmps69
  go_wp2_with fail
  go_returns
  exact ⟨rfl, rfl⟩
set_option maxRecDepth 100000 in
set_option maxHeartbeats 4000000 in
theorem dec4 (s : ByteArray) (hs : s.size ≤ 140737488351232) (w : World) (r : Nat) (h1 : 4 ≤ s.size) (h2 : 240 ≤ byt s 0 ∧ byt s 0 ≤ 244) (h3 : byt s 1 / 64 = 2) (h4 : byt s 2 / 64 = 2) (h4' : byt s 3 / 64 = 2) (h5 : 65536 ≤ r) (h6 : r ≤ 1114111)
    (hr : r = byt s 0 % 8 * 262144 + byt s 1 % 64 * 4096 + byt s 2 % 64 * 64 + byt s 3 % 64) : Calls Try.prog 69 #[.string s] w (Dec r 4 w) := by
  obtain ⟨a, ha⟩ : ∃ a : Nat, a = byt s 0 := ⟨_, rfl⟩
  have g0 : 0 < s.size := by omega
  have z0 : (0 : Int) < s.size := by omega
  have ea : (s[0]'g0).toNat = a := by rw [ha, byt_eq s 0 g0]
  have a255 : a < 256 := by have := byt_lt s 0; omega
  obtain ⟨b, hb⟩ : ∃ b : Nat, b = byt s 1 := ⟨_, rfl⟩
  have g1 : 1 < s.size := by omega
  have z1 : (1 : Int) < s.size := by omega
  have eb : (s[1]'g1).toNat = b := by rw [hb, byt_eq s 1 g1]
  have b255 : b < 256 := by have := byt_lt s 1; omega
  obtain ⟨c, hc⟩ : ∃ c : Nat, c = byt s 2 := ⟨_, rfl⟩
  have g2 : 2 < s.size := by omega
  have z2 : (2 : Int) < s.size := by omega
  have ec : (s[2]'g2).toNat = c := by rw [hc, byt_eq s 2 g2]
  have c255 : c < 256 := by have := byt_lt s 2; omega
  obtain ⟨d, hd⟩ : ∃ d : Nat, d = byt s 3 := ⟨_, rfl⟩
  have g3 : 3 < s.size := by omega
  have z3 : (3 : Int) < s.size := by omega
  have ed : (s[3]'g3).toNat = d := by rw [hd, byt_eq s 3 g3]
  have d255 : d < 256 := by have := byt_lt s 3; omega
  rw [← ha] at h2 hr
  rw [← hb] at h3 hr
  rw [← hc] at h4 hr
  rw [← hd] at h4' hr
  have t0 : ¬ (s.size : Int) < 1 := by omega
  have t1 : ¬ (a : Int) < 128 := by omega
  have t2 : ¬ (s.size : Int) < 4 := by omega
  have k1 : bits .and .u8 (a : Int) 224 = 224 := by rw [and8_224 a a255]; omega
  have k1' : bits .and .u8 (a : Int) 240 = 240 := by rw [and8_240 a a255]; omega
  have k1'' : bits .and .u8 (a : Int) 248 = 240 := by rw [and8_248 a a255]; omega
  have k2 : bits .and .u8 (b : Int) 192 = 128 := by rw [and192_8 b b255]; omega
  have k2' : bits .and .u8 (c : Int) 192 = 128 := by rw [and192_8 c c255]; omega
  have k2'' : bits .and .u8 (d : Int) 192 = 128 := by rw [and192_8 d d255]; omega
  have k3 := and8_7 a a255
  have k4 := and63_8 b b255
  have k5 := and63_8 c c255
  have k6 := and63_8 d d255
  obtain ⟨p, hp⟩ : ∃ p, p = a % 8 := ⟨_, rfl⟩
  obtain ⟨q, hq⟩ : ∃ q, q = b % 64 := ⟨_, rfl⟩
  obtain ⟨u, hu⟩ : ∃ u, u = c % 64 := ⟨_, rfl⟩
  obtain ⟨v, hv⟩ : ∃ v, v = d % 64 := ⟨_, rfl⟩
  rw [← hp] at k3 hr
  rw [← hq] at k4 hr
  rw [← hu] at k5 hr
  rw [← hv] at k6 hr
  have pb : p < 8 := by omega
  have qb : q < 64 := by omega
  have ub : u < 64 := by omega
  have vb : v < 64 := by omega
  obtain ⟨m, hm⟩ : ∃ m, m = p * 64 + q := ⟨_, rfl⟩
  obtain ⟨l, hl⟩ : ∃ l, l = m * 64 + u := ⟨_, rfl⟩
  have o1 : bits .or .i32 ((p : Int) * 262144) ((q : Int) * 4096) = (m : Int) * 4096 := by
    rw [bits_join .i32 31 (by decide) wraps_i32 18 ((p : Int) * 262144) ((q : Int) * 4096) (by omega) (by omega) (by omega) (by omega) (by omega) (by omega)]; omega
  have o2 : bits .or .i32 ((m : Int) * 4096) ((u : Int) * 64) = (l : Int) * 64 := by
    rw [bits_join .i32 31 (by decide) wraps_i32 12 ((m : Int) * 4096) ((u : Int) * 64) (by omega) (by omega) (by omega) (by omega) (by omega) (by omega)]; omega
  have o3 : bits .or .i32 ((l : Int) * 64) (v : Int) = (r : Int) := by rw [or6 _ _ (by omega) (by omega) (by omega) (by omega)]; omega
  have rb : ¬ (r : Int) < 65536 := by omega
  have rb' : ¬ (1114111 : Int) < r := by omega
  clear ha hb hc hd h2 h3 h4 h4' h5 h6 hp hq hu hv hr hm hl
  go_enter Try.func69, Try.ntmps69
  go_wp2_with fail
  go_returns
  exact ⟨rfl, rfl⟩
theorem decode_wtf (s : ByteArray) (hs : s.size ≤ 140737488351232) (w : World) (r n : Nat) (h : lrune (nats s) = (r, n)) (hn : 0 < n) : Calls Try.prog 69 #[.string s] w fun e w' => e = .returned (.tuple #[.int .i32 r, .int .i64 n]) ∧ w' = w := by
  rcases lrune_cases h hn with ⟨rfl, a, b, rfl⟩ | ⟨rfl, a, b, c, d⟩ | ⟨rfl, a, b, c, d, e, f⟩ | ⟨rfl, a, b, c, d, e, f, g, i⟩
  · exact dec1 s hs w a b
  · exact dec2 s hs w r a b c d
  · exact dec3 s hs w r a b c d e f
  · exact dec4 s hs w r a b c d e f g i
end Go.Proofs.Ytkhnkemmkedfcaa.Wtf
