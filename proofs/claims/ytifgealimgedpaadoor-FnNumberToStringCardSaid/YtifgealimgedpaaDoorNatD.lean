/- Whole numbers of any size: small ones, powers. The walks. -/
import Derived.Test.YtifgealimgedpaaDoorNatC
namespace Go.Proofs.YtifgealimgedpaaDoor.Nats
open Go.RowKit Go.Proofs.YtifgealimgedpaaDoor.Aid
attribute [local go_sem ↓] Go.wp_at_zero Go.wp_at_succ
set_option linter.unusedVariables false
set_option maxRecDepth 100000 in
theorem natSmall (x : Nat) (w : World) (hx : x < 4294967296) : Calls Tryd.prog 35 #[.int .i64 x] w (Gives x w) := by
  have hb := Blk.new w 28 [.int .u64 (x : Int)]
  have HN := Lib.hid (show NatAt (w.alloc (.cells #[.int .u64 (x : Int)] 28)) (some ⟨w.heap.size, 0, none⟩) 1 1 (fun _ => x) from ⟨Nat.le_refl _, by omega, reads_blk hb 1 fun i hi => by
    obtain rfl : i = 0 := by omega
    rfl⟩)
  have HT := Lib.hid (fun (w : World) h => natTrim (some ⟨w.heap.size, 0, none⟩) 1 1 (fun _ => x) (w.alloc (.cells #[.int .u64 (x : Int)] 28)) h)
  have HB := Lib.hid (show Below w.heap.size w (w.alloc (.cells #[.int .u64 (x : Int)] 28)) from (Below.refl _ w).alloc (Nat.le_refl _) _)
  have HX := Lib.hid hx
  have hxx : (x : Int) < 4294967296 := by omega
  clear hb hx
  go_enter Tryd.func35, Tryd.ntmps35
  go_wp2_with fail
  refine (HT.out w HN.out).mono ?_
  rintro e w' ⟨rfl, k, hk, rfl⟩
  have HK := Lib.hid hk
  clear hk
  go_wp2_with fail
  go_returns
  exact ⟨HB.out, _, rfl, _, k, 1, _, rfl, ⟨HK.out.1, by have := HK.out.1; omega, fun i hi => HN.out.2.2 i (by have := HK.out.1; omega)⟩, fun i hi => HX.out, HK.out.2.2, by
    rw [← val_trim (fun _ => x) 1 k HK.out.1 HK.out.2.1]
    simp [val]⟩
/-- Powers grow by no more than the bits of the base. -/
theorem blen_pow (V m j b : Nat) (hm : m ≤ 2 ^ b) : blen (V * m ^ j) ≤ blen V + b * j := by
  apply blen_le_of_lt
  rw [Nat.pow_add, Nat.pow_mul]
  exact Nat.mul_lt_mul_of_lt_of_le (lt_blen V) (Nat.pow_le_pow_left hm j) (Nat.pow_pos (Nat.two_pow_pos b))
set_option maxRecDepth 100000 in
set_option maxHeartbeats 4000000 in
theorem natPower (v : Value) (V m q : Nat) (w : World) (h : Num w v V) (hV : blen V + 32 * q < 31000000) (hm : m < 4294967296) :
    Calls Tryd.prog 29 #[v, .int .i64 m, .int .i64 q] w (Gives (V * m ^ q) w) := by
  have HT := Lib.hid (fun (u : Value) (U : Nat) (w : World) (h : Num w u U) (hU : blen U < 31000000) => times_walk u U m 0 w h hU hm (by omega))
  have HG := Lib.hid (fun j => blen_pow V m j 32 (by omega))
  have H0 := Lib.hid h
  have hq : q < 1000000 := by omega
  have hmm : (m : Int) < 4294967296 := by omega
  clear h
  go_enter Tryd.func29, Tryd.ntmps29
  go_wp2_with fail
  go_loopw [0, 7] (fun av iv wr => ∃ j : Nat, iv = .int .i64 j ∧ j ≤ q ∧ Num wr av (V * m ^ j) ∧ Below w.heap.size w wr) (fun _ iv _ => q - (intOf iv).toNat)
  case atStart => exact ⟨0, rfl, by omega, by rw [Nat.pow_zero, Nat.mul_one]; exact H0.out, Below.refl _ _⟩
  case round =>
    obtain ⟨j, rfl, hj, h1, hb⟩ := hrel
    have HB := Lib.hid hb
    have H1 := Lib.hid h1
    clear h1 hb
    by_cases hlt : j < q
    · have q1 : (j : Int) < (q : Int) := by omega
      have hj6 : j < 1000000 := by omega
      have HLT := Lib.hid hlt
      have HBL := Lib.hid (show blen (V * m ^ j) < 31000000 by have := HG.out j; omega)
      clear hlt
      go_wp2_with fail
      refine (HT.out _ _ _ H1.out HBL.out).mono ?_
      rintro e w2 ⟨hb2, v2, rfl, g1⟩
      have HB2 := Lib.hid (HB.out.trans (hb2.mono HB.out.size))
      have H2 := Lib.hid g1
      clear hb2 g1
      go_wp2_with fail
      go_roundw
      case rel => exact ⟨j + 1, rfl, HLT.out, by rw [Nat.pow_succ, ← Nat.mul_assoc]; exact H2.out, HB2.out⟩
      case measure => simp [intOf]; omega
    · have q1 : ¬ (j : Int) < (q : Int) := by omega
      have hj6 : j < 1000000 := by omega
      have HJ := Lib.hid (show j = q by omega)
      clear hlt
      go_wp2_with fail
      go_returns
      exact ⟨HB.out, _, rfl, by rw [← HJ.out]; exact H1.out⟩
end Go.Proofs.YtifgealimgedpaaDoor.Nats
