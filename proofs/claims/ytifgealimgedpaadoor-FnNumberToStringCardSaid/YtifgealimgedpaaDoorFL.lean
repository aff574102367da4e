/- The law: what the package tells of a double is what the reference says. -/
import Derived.Test.YtifgealimgedpaaDoorFS
import Derived.Test.YtifgealimgedpaaDoorRows
import Derived.LaidMore
import Derived.Stop.Joined
import Derived.Stop.LaidErr
import Derived.Lib.TrailingZeros
namespace Go.Proofs.YtifgealimgedpaaDoor.Nats
open Ieee Go.RowKit Go.Proofs.YtifgealimgedpaaDoor.Aid Go.Proofs.YtifgealimgedpaaDoor.Runes Go.Proofs.YtifgealimgedpaaDoor.Bytes Go.Proofs.YtifgealimgedpaaDoor.Flo
attribute [local go_sem ↓] Go.wp_at_zero Go.wp_at_succ
set_option linter.unusedVariables false
theorem twelve (w : World) : (convert 22 21 (.float .f64 4622945017495814144)).run Tryd.prog w = .ok (.int .i32 12) w := run_convert_float_int w 22 21 .f64 .i32 _ 12 (by kernel_rfl) (by kernel_rfl) (by decide +kernel)
theorem tryTwelve (w : World) (hL : Laid w) : Calls Tryd.prog 4 #[.float .f64 4622945017495814144, .int .i64 10] w fun e w' => Below w.heap.size w w' ∧ e = .returned (.tuple #[.string ⟨#[49, 50]⟩, .bool true]) := by
  have HF := Lib.hid (fmtInt 10 (by omega) (by omega) 12 (by omega) (by omega) w hL.1 hL.2.1 hL.2.2)
  have e : (⟨(fmtR 10 12).toArray⟩ : ByteArray) = ⟨#[49, 50]⟩ := by
    rw [fmtR, if_neg (by omega), rad_hi (r := 10) (n := (12 : Int).natAbs) (by decide) (by omega), rad_lo (by decide)]
    decide
  rw [e] at HF
  have hc := twelve w
  have ho : (FloatKind.f64.format.order (floatOfInt .f64 12) 4622945017495814144 == some Ordering.eq) = true := by decide +kernel
  clear e hL
  have H6 : Calls Tryd.prog 6 #[.float .f64 4622945017495814144, .int .i64 10] w fun e w' => Below w.heap.size w w' ∧ e = .returned (.tuple #[.string ⟨#[49, 50]⟩, .bool true]) := by
    go_enter Tryd.func6, Tryd.ntmps6
    go_wp2_with fail
    refine HF.out.mono ?_
    rintro e W ⟨hb, rfl⟩
    have HB := Lib.hid hb
    clear hb
    go_wp2_with fail
    go_returns
    exact ⟨HB.out, rfl⟩
  have HH := Lib.hid H6
  clear H6 hc ho HF
  go_enter Tryd.func4, Tryd.ntmps4
  go_wp2_with fail
  refine HH.out.mono ?_
  rintro e W ⟨hb, rfl⟩
  have HB := Lib.hid hb
  clear hb
  go_wp2_with fail
  go_returns
  exact ⟨HB.out, rfl⟩
theorem agree {b r : Nat} {t u : ByteArray} {z : Bool} (h : SafeText b r t) (k : InAll b r u z) : u = t := by
  rcases h with ⟨n, hn, ht⟩ | ⟨hn, ht⟩ | ⟨hn, ht⟩
  · rw [ht]; exact (k.2.1 n hn).2
  · rw [ht]; exact (k.2.2.1 hn).2
  · rw [ht]; exact (k.2.2.2 hn).2
set_option maxRecDepth 100000 in
set_option maxHeartbeats 2000000 in
theorem law (b : Nat) (r : Int) (w : World) (h : b < 18446744073709551616) (h0 : -9223372036854775808 ≤ r) (h1 : r ≤ 9223372036854775807) (hL : Laid w) : Calls Tryd.prog 3 #[.float .f64 b, .int .i64 r] w fun e w' => e = .returned (.bool true) ∧ Below w.heap.size w w' := by
  have HT := Lib.hid (tryTwelve w hL)
  by_cases hr : 2 ≤ r ∧ r ≤ 36
  · obtain ⟨R, rfl⟩ : ∃ R : Nat, r = (R : Int) := ⟨r.toNat, by omega⟩
    have h2 : 2 ≤ R := by omega
    have h36 : R ≤ 36 := by omega
    have HI := Lib.hid (fun W (hb : Below w.heap.size w W) => implTry b R W h h2 h36 (hL.below hb))
    have HX := Lib.hid (fun W => textIn b R W h h2 h36)
    clear hL hr h h0 h1
    go_enter Tryd.func3, Tryd.ntmps3
    go_wp2_with fail
    refine HT.out.mono ?_
    rintro e W1 ⟨hb, rfl⟩
    have HB1 := Lib.hid hb
    clear hb
    go_wp2_with fail
    refine (HI.out W1 HB1.out).mono ?_
    rintro e W2 ⟨hb, t, z, rfl, hz⟩
    have HB2 := Lib.hid (HB1.out.trans (hb.mono HB1.out.size))
    have HZ := Lib.hid hz
    clear hb hz
    go_wp2_with fail
    refine (HX.out W2).mono ?_
    rintro e W3 ⟨hb, u, y, rfl, hy⟩
    have HB3 := Lib.hid (HB2.out.trans (hb.mono HB2.out.size))
    have HY := Lib.hid hy
    clear hb hy
    cases z
    · go_wp2_with fail
      go_returns
      exact ⟨rfl, HB3.out⟩
    · have hut : u = t := agree (HZ.out rfl) HY.out
      subst hut
      cases y
      · go_wp2_with fail
        go_returns
        exact ⟨rfl, HB3.out⟩
      · go_wp2_with fail
        go_returns
        exact ⟨rfl, HB3.out⟩
  · clear hL
    by_cases hlt : r < 2
    · clear hr h
      go_enter Tryd.func3, Tryd.ntmps3
      go_wp2_with fail
      refine HT.out.mono ?_
      rintro e W1 ⟨hb, rfl⟩
      have HB1 := Lib.hid hb
      clear hb
      go_wp2_with fail
      go_returns
      exact ⟨rfl, HB1.out⟩
    · have hgt : 36 < r := by omega
      clear hr h
      go_enter Tryd.func3, Tryd.ntmps3
      go_wp2_with fail
      refine HT.out.mono ?_
      rintro e W1 ⟨hb, rfl⟩
      have HB1 := Lib.hid hb
      clear hb
      go_wp2_with fail
      go_returns
      exact ⟨rfl, HB1.out⟩
theorem met_tail {P : Program} {x : String × DataW Unit} {r : List (String × DataW Unit)} {w : World} (h : laidMet P (x :: r) w) : laidMet P r w := laidMet.tail h
theorem laid_of {W : World} (h : laidMetH Tryd.prog Rows.fnNumberToStringRow.laid W) : Laid W := by
  rw [MakeChecks.laidMetH_plain _ _ _ (by kernel_rfl)] at h
  have e1 : (Rows.laid_math_bits_deBruijn64tab : DataW Unit) = Lib.tabData .u8 (Lib.deBruijn64tab.map fun (n : Nat) => (n : Int)) := by kernel_rfl
  have e2 : (Rows.laid_internal_strconv_uint64pow10 : DataW Unit) = Lib.tabData .u64 Lib.pow10Tab := by kernel_rfl
  have h0 : laidMet Tryd.prog [("math/bits.deBruijn32tab", Rows.laid_math_bits_deBruijn32tab), ("math/bits.deBruijn64tab", Rows.laid_math_bits_deBruijn64tab), ("internal/strconv.uint64pow10", Rows.laid_internal_strconv_uint64pow10)] W := h
  have h1 := laidMet.tail h0
  have h2 := laidMet.tail h1
  rw [e1] at h1
  rw [e2] at h2
  have t1 := Lib.tabIs_of_head (g := 3) (t := 75) (e := 5) (n := 64) (by kernel_rfl) (by kernel_rfl) (by kernel_rfl) (by kernel_rfl) (by kernel_rfl) (by kernel_rfl) h1
  have t2 := Lib.tabIs_of_head (g := 1) (t := 61) (e := 28) (n := 20) (by kernel_rfl) (by kernel_rfl) (by kernel_rfl) (by kernel_rfl) (by kernel_rfl) (by kernel_rfl) h2
  have hz : Tz W := fun k hk => by
    have hk2 : 2 ^ k - 1 < 32 := by
      have : 2 ^ k ≤ 2 ^ 5 := Nat.pow_le_pow_right (by omega) hk
      omega
    rw [t1.cell (g := 3) (by kernel_rfl) (2 ^ k - 1) (by simp [Lib.deBruijn64tab]; omega)]
    have key : ∀ k : Fin 6, (Lib.deBruijn64tab.map fun (n : Nat) => (n : Int)).getD (2 ^ k.val - 1) 0 = (k.val : Int) := by decide +kernel
    rw [key ⟨k, by omega⟩]
  refine ⟨hz, ?_, t2⟩
  have hc := hz 0 (by omega)
  rcases Nat.lt_or_ge 3 W.heap.size with q | q
  · exact q
  · simp [World.cell?, Array.getElem?_eq_none q] at hc
theorem lawRow (b : Nat) (r : Int) (W : World) (h : (Lit.float .f64 b).wf = true) (hr : (Lit.int .i64 r).wf = true) (hL : laidMetH Tryd.prog Rows.fnNumberToStringRow.laid W) : Calls Tryd.prog 3 #[.float .f64 b, .int .i64 r] W fun e w' => e = .returned (.bool true) ∧ Below W.heap.size W w' := by
  have hb : b < 18446744073709551616 := by
    have := h
    simpa [Lit.wf] using this
  have hr2 : -9223372036854775808 ≤ r ∧ r ≤ 9223372036854775807 := by
    have h1 : IntKind.i64.min ≤ r ∧ r ≤ IntKind.i64.max := by simpa [Lit.wf] using hr
    exact h1
  exact law b r W hb hr2.1 hr2.2 (laid_of hL)
end Go.Proofs.YtifgealimgedpaaDoor.Nats
