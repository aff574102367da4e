/- The law FnInclude returns true, whatever the two lists; no condition. The walk of the law. -/
import Derived.Test.YtdcojgkblfobnaaInclC
import Derived.Deep.QuietTactic
import Derived.BigQuiet
import Derived.OpenShut
namespace Go.Proofs.Ytdcojgkblfobnaa.Incl
open Go.RowKit Go.Proofs.Ytdcojgkblfobnaa.Aid
set_option maxHeartbeats 1000000 in
theorem differ (g h c d : Nat) (w : World) (c0 : w.cell? ⟨g, 0, none⟩ = some (.int .i32 1)) (c1 : w.cell? ⟨h, 0, none⟩ = some (.int .i32 0)) :
    Calls Try.prog 52 #[.slice (some ⟨g, 0, none⟩) 64 c, .slice (some ⟨h, 0, none⟩) 64 d] w fun e' w' => e' = .returned (.bool false) ∧ ∃ n, w' = w.drewN n := by
  go_enter Try.func52, Try.ntmps52
  go_wp2_with fail
  refine wp_loop_rounds 1 ?_
  rw [rounds_succ]
  go_wp2
  go_quiet (fail)
  go_wp2
  go_ret
  exact ⟨rfl, _, rfl⟩
set_option maxRecDepth 100000 in
set_option maxHeartbeats 1000000 in
theorem scanned (w : World) : Calls Try.prog 27 #[] w fun e' w' => e' = .returned (.bool true) ∧ Below w.heap.size w w' := by
  have hmk : ∀ w, (Instr.makeSlice 48 (.int .i64 64) (.int .i64 64)).run Try.prog w = .ok (.slice (some ⟨w.heap.size, 0, none⟩) 64 64) (w.alloc (.cells (row 64 fun i => i32 (zf i)).toArray 21)) := fun _ => by kernel_rfl
  have HZ := Lib.hid (Blk.new w 21 (row 64 fun i => i32 (zf i)))
  have HB := Lib.hid (below_at (Below.refl _ w) (.cells (row 64 fun i => i32 (zf i)).toArray 21))
  go_enter Try.func27, Try.ntmps27
  go_wp2_with fail
  refine (impl_scan _ _ _ (reads_blk HZ.out 64 (row_get 64 _))).mono ?_
  rintro e1 w1 ⟨g, z, rfl, hown, hb⟩
  have c0 : w1.cell? ⟨g, 0, none⟩ = some (.int .i32 1) := (hown.cellAt 0 (by omega)).trans (row_get 64 _ 0 (by omega))
  have c1 : w1.cell? ⟨w.heap.size, 0, none⟩ = some (.int .i32 0) := (HZ.out.below hb HZ.out.lt).get 0 (row_get 64 _ 0 (by omega))
  have B : Below w.heap.size w w1 := HB.out.trans (hb.mono HB.out.size)
  clear hmk HZ HB hown hb
  go_wp2_with fail
  refine (differ g w.heap.size z 64 _ c0 c1).mono ?_
  rintro e2 w2 ⟨rfl, m, rfl⟩
  go_wp2_with fail
  go_ret
  exact ⟨rfl, below_drewN B _⟩
theorem freq (A : Option Addr) (n c : Nat) (w : World) : Calls Try.prog 26 #[.slice A n c] w fun e' w' => e' = .returned (.bool ((n : Int) == 64)) ∧ w = w' := by
  go_enter Try.func26, Try.ntmps26
  go_wp2_with fail
  go_ret
  exact ⟨rfl, rfl⟩
set_option maxHeartbeats 1000000 in
theorem law_some (A B : Option Addr) (n m c d : Nat) (w : World) (hn : n ≤ 2147483647) (hm : m ≤ 2147483647) (h : ¬ (n = 64 ∧ m = 64)) :
    Calls Try.prog 10 #[.slice A n c, .slice B m d] w fun e' w' => e' = .returned (.bool true) ∧ Below w.heap.size w w' := by
  by_cases h1 : n = 64
  · have h2 : ¬ m = 64 := fun e => h ⟨h1, e⟩
    have k1 : ((n : Int) == 64) = true := by simp; omega
    have k2 : ((m : Int) == 64) = false := by simp; omega
    clear h h1 h2
    go_enter Try.func10, Try.ntmps10
    go_wp2_with (first | (go_at_call_of 26 A; refine (freq A n c _).mono ?_; rintro e w1 ⟨rfl, rfl⟩) | (go_at_call 26; refine (freq B m d _).mono ?_; rintro e w1 ⟨rfl, rfl⟩) | (go_at_call 27; refine (scanned _).mono ?_; rintro e w1 ⟨rfl, hb⟩))
    go_ret
    exact ⟨rfl, hb⟩
  · have k1 : ((n : Int) == 64) = false := by simp; omega
    clear h h1
    go_enter Try.func10, Try.ntmps10
    go_wp2_with (first | (go_at_call 26; refine (freq A n c _).mono ?_; rintro e w1 ⟨rfl, rfl⟩) | (go_at_call 27; refine (scanned _).mono ?_; rintro e w1 ⟨rfl, hb⟩))
    go_ret
    exact ⟨rfl, hb⟩
theorem law_large (A B : Option Addr) (n m c d : Nat) (w : World) (h : ¬ (n ≤ 2147483647 ∧ m ≤ 2147483647)) :
    Calls Try.prog 10 #[.slice A n c, .slice B m d] w fun e' w' => e' = .returned (.bool true) ∧ Below w.heap.size w w' := by
  go_enter Try.func10, Try.ntmps10
  go_wp2_with fail
  all_goals first | (exfalso; omega) | (go_ret; exact ⟨rfl, Below.refl _ _⟩)
set_option maxRecDepth 100000 in
set_option maxHeartbeats 1000000 in
theorem law_main (A B : Option Addr) (c d : Nat) (f e : Nat → Int) (w : World) (hA : Reads w A 64 fun i => i32 (f i)) (hB : Reads w B 64 fun i => i32 (e i)) :
    Calls Try.prog 10 #[.slice A 64 c, .slice B 64 d] w fun e' w' => e' = .returned (.bool true) ∧ Below w.heap.size w w' := by
  have HA := Lib.hid hA
  have HB := Lib.hid hB
  clear hA hB
  have k1 : (((64 : Nat) : Int) == 64) = true := by decide
  go_enter Try.func10, Try.ntmps10
  go_wp2_with (first | (go_at_call_of 26 A; refine (freq A 64 c _).mono ?_; rintro e1 w1 ⟨rfl, rfl⟩) | (go_at_call 26; refine (freq B 64 d _).mono ?_; rintro e1 w1 ⟨rfl, rfl⟩))
  refine (impl_include A B c d f e _ HA.out HB.out).mono ?_
  rintro e2 w2 ⟨g, z, rfl, hown, hb⟩
  have HO := Lib.hid hown
  have HA2 := Lib.hid (HA.out.below hb)
  have HB2 := Lib.hid (HB.out.below hb)
  clear hown HA HB
  go_wp2_with fail
  go_loopw [32] (fun v wr => ∃ k : Nat, k ≤ 64 ∧ v = .int .i64 k ∧ ∃ m, wr = w2.drewN m) (fun v _ => 64 - (intOf v).toNat)
  case atStart => exact ⟨0, Nat.zero_le _, rfl, 0, rfl⟩
  case round =>
    obtain ⟨k, hk, rfl, m, rfl⟩ := hrel
    by_cases hlt : k < 64
    · obtain ⟨b1, o1, rfl, _, hc1⟩ := HA2.out k hlt
      obtain ⟨b2, o2, rfl, _, hc2⟩ := HB2.out k hlt
      have hc3 := (HO.out.cellAt k (by omega)).trans (row_get 64 _ k hlt)
      have e1 : addTo f e 64 k = wrap32 (f k + e k) := by simp [addTo, hlt]
      rw [e1] at hc3
      have c1 : w2.cell? ⟨b1, o1 + k, none⟩ = some (.int .i32 (f k)) := hc1
      have c2 : w2.cell? ⟨b2, o2 + k, none⟩ = some (.int .i32 (e k)) := hc2
      have c3 : w2.cell? ⟨g, k, none⟩ = some (.int .i32 (wrap32 (f k + e k))) := hc3
      clear hc1 hc2 hc3 e1
      go_wp2_with fail
      go_quiet (fail)
      go_wp2_with fail
      go_roundw
      case rel => exact ⟨k + 1, by omega, by go_num, _, rfl⟩
      case measure => simp [intOf]; omega
    · have hkk : k = 64 := by omega
      subst hkk
      go_wp2_with (go_at_call 27; refine (scanned _).mono ?_; rintro e1 w3 ⟨rfl, hb3⟩)
      go_ret
      exact ⟨rfl, (below_drewN hb m).trans (hb3.mono (by simp; exact hb.size))⟩
abbrev Row32 (w : World) (a : Option Addr) (len cap : Nat) (zs : List Int) : Prop :=
  (a = none ∧ len = 0 ∧ cap = 0 ∧ zs = []) ∨
  ∃ x, a = some x ∧ len ≤ cap ∧ cap ≤ maxLen ∧ zs.length = cap ∧ (∀ i, i < zs.length → w.cell? (x.add i) = some (.int .i32 (zs.getD i 0))) ∧ ∀ n ∈ zs, (Lit.int .i32 n).wf = true
theorem reads_row {w : World} {a : Option Addr} {len cap : Nat} {zs : List Int} (h : Row32 w a len cap zs) : Reads w a len fun i => i32 ((fun i => zs.getD i 0) i) := by
  rcases h with ⟨_, h, _⟩ | ⟨x, rfl, hl, _, hz, hc, hw⟩
  · intro i hi
    omega
  · intro i hi
    obtain ⟨b, off, rfl, hc'⟩ := ints_at hc (by omega)
    have h0 := hc' i (by omega)
    exact ⟨b, off, rfl, World.block_lt_of_cell? w _ h0, h0⟩
theorem whole (a1 : Option Addr) (len1 cap1 : Nat) (z1 : List Int) (a2 : Option Addr) (len2 cap2 : Nat) (z2 : List Int) (w : World) (w1 : Row32 w a1 len1 cap1 z1) (_ : len1 * 4 ≤ 140737488351232) (w2 : Row32 w a2 len2 cap2 z2) (_ : len2 * 4 ≤ 140737488351232) :
    Calls Try.prog 10 #[.slice a1 len1 cap1, .slice a2 len2 cap2] w fun e w' => e = .returned (.bool true) ∧ Below w.heap.size w w' := by
  by_cases hl : len1 ≤ 2147483647 ∧ len2 ≤ 2147483647
  · by_cases h4 : len1 = 64 ∧ len2 = 64
    · obtain ⟨rfl, rfl⟩ := h4
      exact law_main a1 a2 cap1 cap2 _ _ w (reads_row w1) (reads_row w2)
    · exact law_some a1 a2 len1 len2 cap1 cap2 w hl.1 hl.2 h4
  · exact law_large a1 a2 len1 len2 cap1 cap2 w hl
end Go.Proofs.Ytdcojgkblfobnaa.Incl
