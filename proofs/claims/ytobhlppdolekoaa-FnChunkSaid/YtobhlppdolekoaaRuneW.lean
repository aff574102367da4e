/- The reference Rune: the code point that begins at a byte of a text. The walk. -/
import Derived.Test.YtobhlppdolekoaaProg
import Derived.Test.YtobhlppdolekoaaAid
import Derived.Test.YtobhlppdolekoaaBytes
import Derived.Handy
import Derived.WalkLawsBesides
import Derived.Deep.DrawnRows
import Derived.Laws.BitsLemmas
import Derived.Lib.EndianBits
namespace Go.Proofs.Ytobhlppdolekoaa.Runes
open Go.RowKit Go.Proofs.Ytobhlppdolekoaa.Aid
set_option linter.unusedVariables false
attribute [local go_sem ↓] Go.wp_at_zero Go.wp_at_succ
theorem wraps_i64 (n : Int) (h0 : 0 ≤ n) (h1 : n < 2 ^ 63) : IntKind.i64.wrap n = n := by rw [IntKind.wrap_i64]; omega
theorem and_low (k x : Nat) (h : x < 256) (hk : k = 31 ∨ k = 15 ∨ k = 7 ∨ k = 63) : bits .and .i64 (x : Int) (k : Int) = ((x % (k + 1) : Nat) : Int) := by
  have h1 := (bits_nat .i64 63 (by decide) wraps_i64 x k (by omega) (by omega)).1
  rw [h1]
  have h2 : ∀ y : Fin 256, (y.val &&& 31) = y.val % 32 ∧ (y.val &&& 15) = y.val % 16 ∧ (y.val &&& 7) = y.val % 8 ∧ (y.val &&& 63) = y.val % 64 := by decide +kernel
  have h3 := h2 ⟨x, h⟩
  rcases hk with rfl | rfl | rfl | rfl
  · rw [h3.1]
  · rw [h3.2.1]
  · rw [h3.2.2.1]
  · rw [h3.2.2.2]
theorem and_high (x : Nat) (h : x < 256) : bits .and .i64 (x : Int) 192 = ((x / 64 * 64 : Nat) : Int) := by
  have h1 := (bits_nat .i64 63 (by decide) wraps_i64 x 192 (by omega) (by decide)).1
  rw [show ((192 : Nat) : Int) = 192 from rfl] at h1
  rw [h1]
  have h2 : ∀ y : Fin 256, (y.val &&& 192) = y.val / 64 * 64 := by decide +kernel
  rw [h2 ⟨x, h⟩]
theorem or_six (r c : Nat) (hr : r < 1073741824) (hc : c < 64) : bits .or .i64 ((r : Int) * 64) (c : Int) = ((r * 64 + c : Nat) : Int) := by
  have := bits_join .i64 63 (by decide) wraps_i64 6 ((r : Int) * 64) (c : Int) (by omega) (by omega) (by omega) (by omega) (by omega) (by omega)
  rw [this]
  omega
/-- What has been read behind j bytes. -/
def acc (s : ByteArray) (i m : Nat) : Nat → Nat
  | 0 => byt s i % m
  | j + 1 => acc s i m j * 64 + byt s (i + (j + 1)) % 64
set_option maxRecDepth 100000 in
set_option maxHeartbeats 2000000 in
theorem rune_low (s : ByteArray) (i : Nat) (w : World) (hi : i < s.size) (hs : s.size ≤ 140737488351232) (hb : byt s i < 128) :
    Calls Try.prog 24 #[.string s, .int .i64 i] w fun e w' => e = .returned (.tuple #[.int .i64 (rune s i).1, .int .i64 (rune s i).2]) ∧ w' = w := by
  obtain ⟨b, eb⟩ : ∃ b : Nat, (s[i]'hi).toNat = b := ⟨_, rfl⟩
  have hr := rune_ascii s i hi hb
  rw [byt_eq s i hi, eb] at hb hr
  rw [hr]
  have i1 : (i : Int) < s.size := by omega
  clear hr
  go_enter Try.func24, Try.ntmps24
  go_wp2_with fail
  go_returns
  exact ⟨rfl, rfl⟩
set_option maxRecDepth 100000 in
set_option maxHeartbeats 2000000 in
theorem rune_head (s : ByteArray) (i : Nat) (w : World) (hi : i < s.size) (hs : s.size ≤ 140737488351232) (hb : 128 ≤ byt s i) (hb' : byt s i < 194 ∨ 245 ≤ byt s i) :
    Calls Try.prog 24 #[.string s, .int .i64 i] w fun e w' => e = .returned (.tuple #[.int .i64 (rune s i).1, .int .i64 (rune s i).2]) ∧ w' = w := by
  obtain ⟨b, eb⟩ : ∃ b : Nat, (s[i]'hi).toNat = b := ⟨_, rfl⟩
  have hr := none_head s i hb hb'
  have b255 := byt_lt s i
  rw [byt_eq s i hi, eb] at hb hb' b255
  rw [hr]
  have i1 : (i : Int) < s.size := by omega
  clear hr
  rcases hb' with hb' | hb'
  · go_enter Try.func24, Try.ntmps24
    go_wp2_with fail
    go_returns
    exact ⟨rfl, rfl⟩
  · go_enter Try.func24, Try.ntmps24
    go_wp2_with fail
    go_returns
    exact ⟨rfl, rfl⟩
theorem acc_lt (s : ByteArray) (i m j : Nat) (hm : m ≤ 32) (h0 : 0 < m) (hj : j ≤ 3) : acc s i m j < 32 * 64 ^ j := by
  have h := Nat.mod_lt (byt s i) h0
  have h1 := Nat.mod_lt (byt s (i + 1)) (show 0 < 64 by omega)
  have h2 := Nat.mod_lt (byt s (i + 2)) (show 0 < 64 by omega)
  have h3 := Nat.mod_lt (byt s (i + 3)) (show 0 < 64 by omega)
  match j, hj with
  | 0, _ => simp only [acc]; omega
  | 1, _ => simp only [acc]; omega
  | 2, _ => simp only [acc]; omega
  | 3, _ => simp only [acc]; omega
set_option maxRecDepth 100000 in
set_option maxHeartbeats 4000000 in
theorem rune_2 (s : ByteArray) (i : Nat) (w : World) (hi : i < s.size) (hs : s.size ≤ 140737488351232) (hb : 194 ≤ byt s i) (hb' : byt s i ≤ 223) :
    Calls Try.prog 24 #[.string s, .int .i64 i] w fun e w' => e = .returned (.tuple #[.int .i64 (rune s i).1, .int .i64 (rune s i).2]) ∧ w' = w := by
  obtain ⟨R, hR⟩ : ∃ R, R = rune s i := ⟨_, rfl⟩
  rw [← hR]
  have HR := Lib.hid hR
  have HB := Lib.hid (And.intro hb hb')
  obtain ⟨b, eb⟩ : ∃ b : Nat, (s[i]'hi).toNat = b := ⟨_, rfl⟩
  have eb' := byt_eq s i hi
  rw [eb] at eb'
  rw [eb'] at hb hb'
  have HEB := Lib.hid eb'
  have hm := and_low 31 b (by omega) (by decide)
  rw [show ((31 : Nat) : Int) = 31 from rfl] at hm
  obtain ⟨q, hq⟩ : ∃ q : Nat, q = b % (31 + 1) := ⟨_, rfl⟩
  rw [← hq] at hm
  have HQ := Lib.hid hq
  have i1 : (i : Int) < s.size := by omega
  clear hR hq eb'
  by_cases hsz : s.size < i + 2
  · have he : R = (0, 0) := by rw [HR.out]; exact none_two s i HB.out.1 HB.out.2 (.inl (by omega))
    rw [he]
    clear he
    have hz : (s.size : Int) < (i : Int) + 2 := by omega
    go_enter Try.func24, Try.ntmps24
    go_wp2_with fail
    go_returns
    exact ⟨rfl, rfl⟩
  · have hz : (i : Int) + 2 ≤ (s.size : Int) := by omega
    have t1 : decide ((b : Int) ≤ 223) = true := by simp; omega
    have t2 : decide ((b : Int) < 128) = false := by simp; omega
    have t3 : decide ((i : Int) < 0) = false := by simp
    go_enter Try.func24, Try.ntmps24
    go_wp2_with fail
    go_loop [8, 10] (fun r j => ∃ k : Nat, k ≤ 1 ∧ j = .int .i64 ((k + 1 : Nat) : Int) ∧ r = .int .i64 (acc s i 32 k) ∧ ∀ x, x < k → byt s (i + (x + 1)) / 64 = 2) (fun _ j => 6 - (intOf j).toNat)
    case atStart => exact ⟨0, by omega, rfl, by rw [acc, HEB.out, HQ.out], by omega⟩
    case round =>
      obtain ⟨k, hk, rfl, rfl, hall⟩ := hrel
      have HALL := Lib.hid hall
      have hal := acc_lt s i 32 k (by omega) (by omega) (by omega)
      have hp : 64 ^ k ≤ 64 ^ 3 := Nat.pow_le_pow_right (by omega) (by omega)
      obtain ⟨rr, hrr⟩ : ∃ rr, rr = acc s i 32 k := ⟨_, rfl⟩
      obtain ⟨a, ea⟩ : ∃ a : Nat, a = k + 1 := ⟨_, rfl⟩
      rw [← hrr] at hal ⊢
      rw [← ea]
      have hrb : rr ≤ 8388608 := by omega
      have HRR := Lib.hid hrr
      clear hall hal hp hrr
      by_cases hlt : k < 1
      · have ha : i + a < s.size := by omega
        have ha' : ((i + a : Nat) : Int) < s.size := by omega
        obtain ⟨c, ec⟩ : ∃ c : Nat, (s[i + a]'ha).toNat = c := ⟨_, rfl⟩
        have ec' := byt_eq s (i + a) ha
        rw [ec] at ec'
        have hc := byt_lt s (i + a)
        rw [ec'] at hc
        have a1 : (a : Int) < 2 := by omega
        have a0 : 1 ≤ a := by omega
        by_cases hg : c / 64 = 2
        · have h192 : bits .and .i64 (c : Int) 192 = 128 := by rw [and_high c hc, hg]; rfl
          have h63 := and_low 63 c hc (by decide)
          rw [show ((63 : Nat) : Int) = 63 from rfl] at h63
          obtain ⟨d, hd⟩ : ∃ d, d = c % (63 + 1) := ⟨_, rfl⟩
          rw [← hd] at h63
          have hdl : d < 64 := by omega
          have HOR := Lib.hid (or_six rr d (by omega) hdl)
          have HEA := Lib.hid ea
          have HEC := Lib.hid ec'
          have HG := Lib.hid hg
          have HD := Lib.hid hd
          have HLT := Lib.hid hlt
          clear ea ec' hg hd hlt hk
          go_wp2_with fail
          go_round
          case rel =>
            refine ⟨k + 1, HLT.out, val_int (by have := HEA.out; omega), ?_, ?_⟩
            · rw [HOR.out, acc, ← HRR.out, HD.out, ← HEC.out, HEA.out]
            · intro x hx
              rcases Nat.lt_or_ge x k with h | h
              · exact HALL.out x h
              · have hxk : x = k := by omega
                have h1 := HEC.out
                have h2 := HG.out
                rw [HEA.out] at h1
                rw [hxk, h1, h2]
          case measure => simp [intOf]; omega
        · have hh := and_high c hc
          obtain ⟨y, hy⟩ : ∃ y, y = c / 64 * 64 := ⟨_, rfl⟩
          rw [← hy] at hh
          have hne : ((y : Int) != 128) = true := by simp; omega
          have he : R = (0, 0) := by
            rw [HR.out]
            have hbad : byt s (i + (k + 1)) / 64 ≠ 2 := by rw [← ea, ec']; exact hg
            exact none_two s i HB.out.1 HB.out.2 (by
              have : k < 1 := hlt
              rcases (by omega : k = 0) with rfl <;> simp_all)
          have HE := Lib.hid he
          have y1 : y ≤ 192 := by omega
          clear he ea ec' hg hy hlt hk
          go_wp2_with fail
          go_returns
          exact ⟨by rw [HE.out]; rfl, rfl⟩
      · have hk1 : k = 1 := by omega
        have a1 : (a : Int) = 2 := by omega
        have hre := HRR.out
        have hall := HALL.out
        rw [hk1] at hre hall
        have g1 : byt s (i + 1) / 64 = 2 := hall 0 (by omega)
        have hre' : rr = byt s i % 32 * 64 + byt s (i + 1) % 64 := by
          rw [hre]
          first
            | (simp only [acc, Nat.zero_add]; done)
            | (simp only [acc, Nat.zero_add, Nat.reduceAdd]; omega)
        have r0 : 128 ≤ rr := by have := HB.out; omega
        have r1 : rr ≤ 2047 := by have := HB.out; omega
        have he : R = (rr, 2) := by
          rw [HR.out, hre']
          exact rune_two s i (by omega) HB.out.1 HB.out.2 g1 
        have HE := Lib.hid he
        clear hre hre' hall hk1 g1 he
        go_wp2_with fail
        go_returns
        exact ⟨by rw [HE.out]; rfl, rfl⟩
set_option maxRecDepth 100000 in
set_option maxHeartbeats 4000000 in
theorem rune_3 (s : ByteArray) (i : Nat) (w : World) (hi : i < s.size) (hs : s.size ≤ 140737488351232) (hb : 224 ≤ byt s i) (hb' : byt s i ≤ 239) :
    Calls Try.prog 24 #[.string s, .int .i64 i] w fun e w' => e = .returned (.tuple #[.int .i64 (rune s i).1, .int .i64 (rune s i).2]) ∧ w' = w := by
  obtain ⟨R, hR⟩ : ∃ R, R = rune s i := ⟨_, rfl⟩
  rw [← hR]
  have HR := Lib.hid hR
  have HB := Lib.hid (And.intro hb hb')
  obtain ⟨b, eb⟩ : ∃ b : Nat, (s[i]'hi).toNat = b := ⟨_, rfl⟩
  have eb' := byt_eq s i hi
  rw [eb] at eb'
  rw [eb'] at hb hb'
  have HEB := Lib.hid eb'
  have hm := and_low 15 b (by omega) (by decide)
  rw [show ((15 : Nat) : Int) = 15 from rfl] at hm
  obtain ⟨q, hq⟩ : ∃ q : Nat, q = b % (15 + 1) := ⟨_, rfl⟩
  rw [← hq] at hm
  have HQ := Lib.hid hq
  have i1 : (i : Int) < s.size := by omega
  clear hR hq eb'
  by_cases hsz : s.size < i + 3
  · have he : R = (0, 0) := by rw [HR.out]; exact none_three s i HB.out.1 HB.out.2 (.inl (by omega))
    rw [he]
    clear he
    have hz : (s.size : Int) < (i : Int) + 3 := by omega
    go_enter Try.func24, Try.ntmps24
    go_wp2_with fail
    go_returns
    exact ⟨rfl, rfl⟩
  · have hz : (i : Int) + 3 ≤ (s.size : Int) := by omega
    have t1 : decide ((b : Int) ≤ 239) = true := by simp; omega
    have t2 : decide ((b : Int) < 128) = false := by simp; omega
    have t3 : decide ((i : Int) < 0) = false := by simp
    have t4 : decide ((b : Int) ≤ 223) = false := by simp; omega
    go_enter Try.func24, Try.ntmps24
    go_wp2_with fail
    go_loop [8, 10] (fun r j => ∃ k : Nat, k ≤ 2 ∧ j = .int .i64 ((k + 1 : Nat) : Int) ∧ r = .int .i64 (acc s i 16 k) ∧ ∀ x, x < k → byt s (i + (x + 1)) / 64 = 2) (fun _ j => 6 - (intOf j).toNat)
    case atStart => exact ⟨0, by omega, rfl, by rw [acc, HEB.out, HQ.out], by omega⟩
    case round =>
      obtain ⟨k, hk, rfl, rfl, hall⟩ := hrel
      have HALL := Lib.hid hall
      have hal := acc_lt s i 16 k (by omega) (by omega) (by omega)
      have hp : 64 ^ k ≤ 64 ^ 3 := Nat.pow_le_pow_right (by omega) (by omega)
      obtain ⟨rr, hrr⟩ : ∃ rr, rr = acc s i 16 k := ⟨_, rfl⟩
      obtain ⟨a, ea⟩ : ∃ a : Nat, a = k + 1 := ⟨_, rfl⟩
      rw [← hrr] at hal ⊢
      rw [← ea]
      have hrb : rr ≤ 8388608 := by omega
      have HRR := Lib.hid hrr
      clear hall hal hp hrr
      by_cases hlt : k < 2
      · have ha : i + a < s.size := by omega
        have ha' : ((i + a : Nat) : Int) < s.size := by omega
        obtain ⟨c, ec⟩ : ∃ c : Nat, (s[i + a]'ha).toNat = c := ⟨_, rfl⟩
        have ec' := byt_eq s (i + a) ha
        rw [ec] at ec'
        have hc := byt_lt s (i + a)
        rw [ec'] at hc
        have a1 : (a : Int) < 3 := by omega
        have a0 : 1 ≤ a := by omega
        by_cases hg : c / 64 = 2
        · have h192 : bits .and .i64 (c : Int) 192 = 128 := by rw [and_high c hc, hg]; rfl
          have h63 := and_low 63 c hc (by decide)
          rw [show ((63 : Nat) : Int) = 63 from rfl] at h63
          obtain ⟨d, hd⟩ : ∃ d, d = c % (63 + 1) := ⟨_, rfl⟩
          rw [← hd] at h63
          have hdl : d < 64 := by omega
          have HOR := Lib.hid (or_six rr d (by omega) hdl)
          have HEA := Lib.hid ea
          have HEC := Lib.hid ec'
          have HG := Lib.hid hg
          have HD := Lib.hid hd
          have HLT := Lib.hid hlt
          clear ea ec' hg hd hlt hk
          go_wp2_with fail
          go_round
          case rel =>
            refine ⟨k + 1, HLT.out, val_int (by have := HEA.out; omega), ?_, ?_⟩
            · rw [HOR.out, acc, ← HRR.out, HD.out, ← HEC.out, HEA.out]
            · intro x hx
              rcases Nat.lt_or_ge x k with h | h
              · exact HALL.out x h
              · have hxk : x = k := by omega
                have h1 := HEC.out
                have h2 := HG.out
                rw [HEA.out] at h1
                rw [hxk, h1, h2]
          case measure => simp [intOf]; omega
        · have hh := and_high c hc
          obtain ⟨y, hy⟩ : ∃ y, y = c / 64 * 64 := ⟨_, rfl⟩
          rw [← hy] at hh
          have hne : ((y : Int) != 128) = true := by simp; omega
          have he : R = (0, 0) := by
            rw [HR.out]
            have hbad : byt s (i + (k + 1)) / 64 ≠ 2 := by rw [← ea, ec']; exact hg
            exact none_three s i HB.out.1 HB.out.2 (by
              have : k < 2 := hlt
              rcases (by omega : k = 0 ∨ k = 1) with rfl | rfl <;> simp_all)
          have HE := Lib.hid he
          have y1 : y ≤ 192 := by omega
          clear he ea ec' hg hy hlt hk
          go_wp2_with fail
          go_returns
          exact ⟨by rw [HE.out]; rfl, rfl⟩
      · have hk1 : k = 2 := by omega
        have a1 : (a : Int) = 3 := by omega
        have hre := HRR.out
        have hall := HALL.out
        rw [hk1] at hre hall
        have g1 : byt s (i + 1) / 64 = 2 := hall 0 (by omega)
        have g2 : byt s (i + 2) / 64 = 2 := hall 1 (by omega)
        have hre' : rr = byt s i % 16 * 4096 + byt s (i + 1) % 64 * 64 + byt s (i + 2) % 64 := by
          rw [hre]
          first
            | (simp only [acc, Nat.zero_add]; done)
            | (simp only [acc, Nat.zero_add, Nat.reduceAdd]; omega)
        have r9 : rr ≤ 65535 := by have := HB.out; omega
        by_cases r0 : rr < 2048
        · have he : R = (0, 0) := by
            rw [HR.out]
            exact none_three' s i HB.out.1 HB.out.2 (by rw [← hre']; exact .inl r0)
          have HE := Lib.hid he
          clear hre hre' hall hk1 g1 g2 he
          go_wp2_with fail
          go_returns
          exact ⟨by rw [HE.out]; rfl, rfl⟩
        by_cases r1 : rr < 55296
        · have r2 : 2048 ≤ rr := by omega
          have he : R = (rr, 3) := by
            rw [HR.out, hre']
            exact rune_three s i (by omega) HB.out.1 HB.out.2 g1 g2 (by rw [← hre']; omega) (by rw [← hre']; omega)
          have HE := Lib.hid he
          clear hre hre' hall hk1 g1 g2 he
          go_wp2_with fail
          go_returns
          exact ⟨by rw [HE.out]; rfl, rfl⟩
        by_cases r2 : 57343 < rr
        · have r3 : 2048 ≤ rr := by omega
          have he : R = (rr, 3) := by
            rw [HR.out, hre']
            exact rune_three s i (by omega) HB.out.1 HB.out.2 g1 g2 (by rw [← hre']; omega) (by rw [← hre']; omega)
          have HE := Lib.hid he
          clear hre hre' hall hk1 g1 g2 he
          go_wp2_with fail
          go_returns
          exact ⟨by rw [HE.out]; rfl, rfl⟩
        · have r3 : 55296 ≤ rr := by omega
          have r4 : rr ≤ 57343 := by omega
          have he : R = (0, 0) := by
            rw [HR.out]
            exact none_three' s i HB.out.1 HB.out.2 (by rw [← hre']; exact .inr ⟨r3, r4⟩)
          have HE := Lib.hid he
          clear hre hre' hall hk1 g1 g2 he
          go_wp2_with fail
          go_returns
          exact ⟨by rw [HE.out]; rfl, rfl⟩
set_option maxRecDepth 100000 in
set_option maxHeartbeats 4000000 in
theorem rune_4 (s : ByteArray) (i : Nat) (w : World) (hi : i < s.size) (hs : s.size ≤ 140737488351232) (hb : 240 ≤ byt s i) (hb' : byt s i ≤ 244) :
    Calls Try.prog 24 #[.string s, .int .i64 i] w fun e w' => e = .returned (.tuple #[.int .i64 (rune s i).1, .int .i64 (rune s i).2]) ∧ w' = w := by
  obtain ⟨R, hR⟩ : ∃ R, R = rune s i := ⟨_, rfl⟩
  rw [← hR]
  have HR := Lib.hid hR
  have HB := Lib.hid (And.intro hb hb')
  obtain ⟨b, eb⟩ : ∃ b : Nat, (s[i]'hi).toNat = b := ⟨_, rfl⟩
  have eb' := byt_eq s i hi
  rw [eb] at eb'
  rw [eb'] at hb hb'
  have HEB := Lib.hid eb'
  have hm := and_low 7 b (by omega) (by decide)
  rw [show ((7 : Nat) : Int) = 7 from rfl] at hm
  obtain ⟨q, hq⟩ : ∃ q : Nat, q = b % (7 + 1) := ⟨_, rfl⟩
  rw [← hq] at hm
  have HQ := Lib.hid hq
  have i1 : (i : Int) < s.size := by omega
  clear hR hq eb'
  by_cases hsz : s.size < i + 4
  · have he : R = (0, 0) := by rw [HR.out]; exact none_four s i HB.out.1 HB.out.2 (.inl (by omega))
    rw [he]
    clear he
    have hz : (s.size : Int) < (i : Int) + 4 := by omega
    go_enter Try.func24, Try.ntmps24
    go_wp2_with fail
    go_returns
    exact ⟨rfl, rfl⟩
  · have hz : (i : Int) + 4 ≤ (s.size : Int) := by omega
    have t1 : decide ((b : Int) ≤ 244) = true := by simp; omega
    have t2 : decide ((b : Int) < 128) = false := by simp; omega
    have t3 : decide ((i : Int) < 0) = false := by simp
    have t4 : decide ((b : Int) ≤ 223) = false := by simp; omega
    have t5 : decide ((b : Int) ≤ 239) = false := by simp; omega
    go_enter Try.func24, Try.ntmps24
    go_wp2_with fail
    go_loop [8, 10] (fun r j => ∃ k : Nat, k ≤ 3 ∧ j = .int .i64 ((k + 1 : Nat) : Int) ∧ r = .int .i64 (acc s i 8 k) ∧ ∀ x, x < k → byt s (i + (x + 1)) / 64 = 2) (fun _ j => 6 - (intOf j).toNat)
    case atStart => exact ⟨0, by omega, rfl, by rw [acc, HEB.out, HQ.out], by omega⟩
    case round =>
      obtain ⟨k, hk, rfl, rfl, hall⟩ := hrel
      have HALL := Lib.hid hall
      have hal := acc_lt s i 8 k (by omega) (by omega) (by omega)
      have hp : 64 ^ k ≤ 64 ^ 3 := Nat.pow_le_pow_right (by omega) (by omega)
      obtain ⟨rr, hrr⟩ : ∃ rr, rr = acc s i 8 k := ⟨_, rfl⟩
      obtain ⟨a, ea⟩ : ∃ a : Nat, a = k + 1 := ⟨_, rfl⟩
      rw [← hrr] at hal ⊢
      rw [← ea]
      have hrb : rr ≤ 8388608 := by omega
      have HRR := Lib.hid hrr
      clear hall hal hp hrr
      by_cases hlt : k < 3
      · have ha : i + a < s.size := by omega
        have ha' : ((i + a : Nat) : Int) < s.size := by omega
        obtain ⟨c, ec⟩ : ∃ c : Nat, (s[i + a]'ha).toNat = c := ⟨_, rfl⟩
        have ec' := byt_eq s (i + a) ha
        rw [ec] at ec'
        have hc := byt_lt s (i + a)
        rw [ec'] at hc
        have a1 : (a : Int) < 4 := by omega
        have a0 : 1 ≤ a := by omega
        by_cases hg : c / 64 = 2
        · have h192 : bits .and .i64 (c : Int) 192 = 128 := by rw [and_high c hc, hg]; rfl
          have h63 := and_low 63 c hc (by decide)
          rw [show ((63 : Nat) : Int) = 63 from rfl] at h63
          obtain ⟨d, hd⟩ : ∃ d, d = c % (63 + 1) := ⟨_, rfl⟩
          rw [← hd] at h63
          have hdl : d < 64 := by omega
          have HOR := Lib.hid (or_six rr d (by omega) hdl)
          have HEA := Lib.hid ea
          have HEC := Lib.hid ec'
          have HG := Lib.hid hg
          have HD := Lib.hid hd
          have HLT := Lib.hid hlt
          clear ea ec' hg hd hlt hk
          go_wp2_with fail
          go_round
          case rel =>
            refine ⟨k + 1, HLT.out, val_int (by have := HEA.out; omega), ?_, ?_⟩
            · rw [HOR.out, acc, ← HRR.out, HD.out, ← HEC.out, HEA.out]
            · intro x hx
              rcases Nat.lt_or_ge x k with h | h
              · exact HALL.out x h
              · have hxk : x = k := by omega
                have h1 := HEC.out
                have h2 := HG.out
                rw [HEA.out] at h1
                rw [hxk, h1, h2]
          case measure => simp [intOf]; omega
        · have hh := and_high c hc
          obtain ⟨y, hy⟩ : ∃ y, y = c / 64 * 64 := ⟨_, rfl⟩
          rw [← hy] at hh
          have hne : ((y : Int) != 128) = true := by simp; omega
          have he : R = (0, 0) := by
            rw [HR.out]
            have hbad : byt s (i + (k + 1)) / 64 ≠ 2 := by rw [← ea, ec']; exact hg
            exact none_four s i HB.out.1 HB.out.2 (by
              have : k < 3 := hlt
              rcases (by omega : k = 0 ∨ k = 1 ∨ k = 2) with rfl | rfl | rfl <;> simp_all)
          have HE := Lib.hid he
          have y1 : y ≤ 192 := by omega
          clear he ea ec' hg hy hlt hk
          go_wp2_with fail
          go_returns
          exact ⟨by rw [HE.out]; rfl, rfl⟩
      · have hk1 : k = 3 := by omega
        have a1 : (a : Int) = 4 := by omega
        have hre := HRR.out
        have hall := HALL.out
        rw [hk1] at hre hall
        have g1 : byt s (i + 1) / 64 = 2 := hall 0 (by omega)
        have g2 : byt s (i + 2) / 64 = 2 := hall 1 (by omega)
        have g3 : byt s (i + 3) / 64 = 2 := hall 2 (by omega)
        have hre' : rr = byt s i % 8 * 262144 + byt s (i + 1) % 64 * 4096 + byt s (i + 2) % 64 * 64 + byt s (i + 3) % 64 := by
          rw [hre]
          first
            | (simp only [acc, Nat.zero_add]; done)
            | (simp only [acc, Nat.zero_add, Nat.reduceAdd]; omega)
        by_cases r0 : rr < 65536
        · have he : R = (0, 0) := by
            rw [HR.out]
            exact none_four' s i HB.out.1 HB.out.2 (by rw [← hre']; exact .inl r0)
          have HE := Lib.hid he
          clear hre hre' hall hk1 g1 g2 g3 he
          go_wp2_with fail
          go_returns
          exact ⟨by rw [HE.out]; rfl, rfl⟩
        by_cases r1 : 1114111 < rr
        · have r2 : 65536 ≤ rr := by omega
          have he : R = (0, 0) := by
            rw [HR.out]
            exact none_four' s i HB.out.1 HB.out.2 (by rw [← hre']; exact .inr r1)
          have HE := Lib.hid he
          clear hre hre' hall hk1 g1 g2 g3 he
          go_wp2_with fail
          go_returns
          exact ⟨by rw [HE.out]; rfl, rfl⟩
        · have r2 : 65536 ≤ rr := by omega
          have r3 : rr ≤ 1114111 := by omega
          have he : R = (rr, 4) := by
            rw [HR.out, hre']
            exact rune_four s i (by omega) HB.out.1 HB.out.2 g1 g2 g3 (by rw [← hre']; omega) (by rw [← hre']; omega)
          have HE := Lib.hid he
          clear hre hre' hall hk1 g1 g2 g3 he
          go_wp2_with fail
          go_returns
          exact ⟨by rw [HE.out]; rfl, rfl⟩
set_option maxRecDepth 100000 in
theorem rune_out_walk (s : ByteArray) (i : Nat) (w : World) (hi : s.size ≤ i) (hl : i ≤ 4611686018427387904) :
    Calls Try.prog 24 #[.string s, .int .i64 i] w fun e w' => e = .returned (.tuple #[.int .i64 (rune s i).1, .int .i64 (rune s i).2]) ∧ w' = w := by
  have hr := rune_out s i hi
  rw [hr]
  clear hr
  have i1 : (s.size : Int) ≤ i := by omega
  go_enter Try.func24, Try.ntmps24
  go_wp2_with fail
  go_returns
  exact ⟨rfl, rfl⟩
/-- The reference Rune, at every place. -/
theorem rune_walk (s : ByteArray) (i : Nat) (w : World) (hs : s.size ≤ 140737488351232) (hl : i ≤ 4611686018427387904) :
    Calls Try.prog 24 #[.string s, .int .i64 i] w fun e w' => e = .returned (.tuple #[.int .i64 (rune s i).1, .int .i64 (rune s i).2]) ∧ w' = w := by
  by_cases hi : i < s.size
  · by_cases h1 : byt s i < 128
    · exact rune_low s i w hi hs h1
    by_cases h2 : byt s i < 194
    · exact rune_head s i w hi hs (by omega) (.inl h2)
    by_cases h3 : byt s i ≤ 223
    · exact rune_2 s i w hi hs (by omega) h3
    by_cases h4 : byt s i ≤ 239
    · exact rune_3 s i w hi hs (by omega) h4
    by_cases h5 : byt s i ≤ 244
    · exact rune_4 s i w hi hs (by omega) h5
    · exact rune_head s i w hi hs (by omega) (.inr (by omega))
  · exact rune_out_walk s i w (by omega) hl
end Go.Proofs.Ytobhlppdolekoaa.Runes
