/- Whole numbers of any size, as rows of limbs: the small functions. The walks. -/
import Derived.Test.YtifgealimgedpaaDoorProg
import Derived.Test.YtifgealimgedpaaDoorAid
import Derived.Handy
import Derived.WalkLawsBesides
import Derived.Deep.DrawnRows
import Derived.Laws.BitsLemmas
import Derived.Lib.EndianBits
import Derived.Deep.RegionHeld
namespace Go.Proofs.YtifgealimgedpaaDoor.Nats
open Go.RowKit Go.Proofs.YtifgealimgedpaaDoor.Aid
attribute [local go_sem ↓] Go.wp_at_zero Go.wp_at_succ
set_option linter.unusedVariables false
/-- A row of limbs that may be read. -/
def NatAt (w : World) (A : Option Addr) (n c : Nat) (f : Nat → Nat) : Prop := n ≤ c ∧ n ≤ 1000000 ∧ Reads w A n fun i => .int .u64 (f i)
theorem NatAt.below {w w' : World} {A : Option Addr} {n c : Nat} {f : Nat → Nat} (h : NatAt w A n c f) (hb : Below w.heap.size w w') : NatAt w' A n c f := ⟨h.1, h.2.1, h.2.2.below hb⟩
/-- What natTrim leaves: k limbs, the last not 0; those behind are. -/
def Trimmed (f : Nat → Nat) (n k : Nat) : Prop := k ≤ n ∧ (∀ j, k ≤ j → j < n → f j = 0) ∧ (0 < k → f (k - 1) ≠ 0)
set_option maxRecDepth 100000 in
theorem natTrim (A : Option Addr) (n c : Nat) (f : Nat → Nat) (w : World) (h : NatAt w A n c f) :
    Calls Tryd.prog 41 #[.slice A n c] w fun e w' => w' = w ∧ ∃ k, Trimmed f n k ∧ e = .returned (.slice A k c) := by
  obtain ⟨h1, h2, h3⟩ := h
  have HR := Lib.hid h3
  clear h3
  go_enter Tryd.func41, Tryd.ntmps41
  go_wp2_with fail
  go_loop [3] (fun v => ∃ k : Nat, v = .int .i64 k ∧ k ≤ n ∧ ∀ j, k ≤ j → j < n → f j = 0) (fun v => (intOf v).toNat)
  case atStart => exact ⟨n, rfl, Nat.le_refl _, fun j h1 h2 => by omega⟩
  case round =>
    obtain ⟨k, rfl, hk, hz⟩ := hrel
    have HZ := Lib.hid hz
    clear hz
    cases k with
    | zero =>
      go_wp2_with fail
      go_returns
      exact ⟨rfl, 0, ⟨Nat.zero_le _, HZ.out, fun h => by omega⟩, rfl⟩
    | succ k =>
      obtain ⟨b, o, rfl, hlt, hc⟩ := HR.out k (by omega)
      replace hc : w.cell? ⟨b, o + k, none⟩ = some (.int .u64 (f k : Int)) := hc
      have q1 : ((k + 1 : Nat) : Int) - 1 = (k : Int) := by omega
      have q2 : (0 : Int) < ((k + 1 : Nat) : Int) := by omega
      have q3 : (k : Int) < (n : Int) := by omega
      by_cases hf : f k = 0
      · have t0 : (((f k : Nat) : Int) == 0) = true := by simp [hf]
        obtain ⟨x, hx⟩ : ∃ x, x = f k := ⟨_, rfl⟩
        rw [← hx] at t0 hc
        have HF := Lib.hid hf
        clear hx hf
        go_wp2_with fail
        go_round
        case rel =>
          refine ⟨k, rfl, by omega, fun j h1 h2 => ?_⟩
          by_cases e : j = k
          · rw [e]; exact HF.out
          · exact HZ.out j (by omega) h2
        case measure => simp [intOf]
      · have t0 : (((f k : Nat) : Int) == 0) = false := by simp; omega
        obtain ⟨x, hx⟩ : ∃ x, x = f k := ⟨_, rfl⟩
        rw [← hx] at t0 hc
        have HF := Lib.hid hf
        clear hx hf
        go_wp2_with fail
        go_returns
        exact ⟨rfl, k + 1, ⟨hk, HZ.out, fun _ => HF.out⟩, rfl⟩
/-- How many bits a limb has. -/
def blen (x : Nat) : Nat := if x = 0 then 0 else x.log2 + 1
theorem blen_half {x : Nat} (h : 0 < x) : blen x = blen (x / 2) + 1 := by
  unfold blen
  rw [if_neg (by omega)]
  by_cases h2 : 2 ≤ x
  · rw [if_neg (by omega), Nat.log2_def x, if_pos h2]
  · rw [if_pos (by omega), Nat.log2_def x, if_neg h2]
theorem blen_le {x : Nat} (h : x < 18446744073709551616) : blen x ≤ 64 := by
  unfold blen
  split
  · omega
  · have := (Nat.log2_lt (n := x) (k := 64) (by omega)).2 (by simpa using h)
    omega
/-- How many bits a number has, by its row. -/
def bitsOf (n : Nat) (f : Nat → Nat) : Nat := if n = 0 then 0 else 32 * (n - 1) + blen (f (n - 1))
set_option maxRecDepth 100000 in
set_option maxHeartbeats 2000000 in
theorem natBits (A : Option Addr) (n c : Nat) (f : Nat → Nat) (w : World) (h : NatAt w A n c f) (hf : ∀ i, i < n → f i < 18446744073709551616) :
    Calls Tryd.prog 43 #[.slice A n c] w fun e w' => w' = w ∧ e = .returned (.int .i64 (bitsOf n f)) := by
  obtain ⟨h1, h2, h3⟩ := h
  cases n with
  | zero =>
    clear h3 hf
    go_enter Tryd.func43, Tryd.ntmps43
    go_wp2_with fail
    go_returns
    exact ⟨rfl, rfl⟩
  | succ n =>
    have hx := hf n (by omega)
    obtain ⟨b, o, rfl, hlt, hc⟩ := h3 n (by omega)
    replace hc : w.cell? ⟨b, o + n, none⟩ = some (.int .u64 (f n : Int)) := hc
    have HR := Lib.hid (show bitsOf (n + 1) f = 32 * n + blen (f n) by unfold bitsOf; rw [if_neg (by omega), Nat.add_sub_cancel])
    obtain ⟨x, hxe⟩ : ∃ x, x = f n := ⟨_, rfl⟩
    rw [← hxe] at hc hx HR
    have q0 : (((n + 1 : Nat) : Int) == 0) = false := by simp; omega
    have q1 : ((n + 1 : Nat) : Int) - 1 = (n : Int) := by omega
    have q2 : (n : Int) < ((n + 1 : Nat) : Int) := by omega
    have hbl := blen_le hx
    clear hxe h3 hf
    go_enter Tryd.func43, Tryd.ntmps43
    go_wp2_with fail
    go_loop [3, 4] (fun v u => ∃ m y : Nat, v = .int .i64 m ∧ u = .int .u64 y ∧ y < 18446744073709551616 ∧ m + blen y = blen x) (fun _ u => (intOf u).toNat)
    case atStart => exact ⟨0, x, rfl, rfl, hx, by omega⟩
    case round =>
      obtain ⟨m, y, rfl, rfl, hy, hm⟩ := hrel
      by_cases h0 : y = 0
      · subst h0
        have HM := Lib.hid (show m = blen x by rw [← hm]; rfl)
        have hm64 : m ≤ 64 := by omega
        clear hm hy
        go_wp2_with fail
        go_returns
        exact ⟨rfl, by rw [HR.out, ← HM.out]; simp⟩
      · have hpos : (0 : Int) < (y : Int) := by omega
        have hm2 : m + 1 + blen (y / 2) = blen x := by
          have := blen_half (x := y) (by omega)
          omega
        have HM := Lib.hid hm2
        have hm64 : m ≤ 64 := by omega
        clear hm hm2 hbl hx q1 q2
        go_wp2_with fail
        go_round
        case rel => exact ⟨m + 1, y / 2, rfl, rfl, by omega, HM.out⟩
        case measure =>
          first
          | (show ((y / 2 : Nat) : Int).toNat < (y : Int).toNat; omega)
          | (show ((y : Int) / 2).toNat < (y : Int).toNat; omega)
end Go.Proofs.YtifgealimgedpaaDoor.Nats
