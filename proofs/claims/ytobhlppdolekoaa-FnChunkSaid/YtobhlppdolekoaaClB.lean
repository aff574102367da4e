/- Marks in memory; are they asked. The walks. -/
import Derived.Test.YtobhlppdolekoaaAddB
import Derived.Test.YtobhlppdolekoaaBytes
import Derived.Test.YtobhlppdolekoaaAid
import Derived.Deep.MidRow
import Derived.BigQuiet
import Derived.Deep.CutBlock
import Derived.Deep.DeepCutAuto
import Derived.Deep.CutRange
namespace Go.Proofs.Ytobhlppdolekoaa.Ch
open Go.RowKit Go.Proofs.Ytobhlppdolekoaa.Aid Go.Proofs.Ytobhlppdolekoaa.Bytes Go.Proofs.Ytobhlppdolekoaa.Runes
attribute [local go_sem ↓] Go.wp_at_zero Go.wp_at_succ
set_option linter.unusedVariables false
set_option linter.unusedSimpArgs false
/-- A mark as it came in. -/
structure Mr where
  «at» : Int
  loc : Int
  name : ByteArray
/-- What a list of marks reads as. -/
def RMk (w : World) (A : Option Addr) (n : Nat) (Y : Nat → Mr) : Prop := ∀ i, i < n → ∃ b o, A = some ⟨b, o, none⟩ ∧ b < w.heap.size ∧ (Y i).name.size ≤ 9223372036854775807 ∧
  w.cell? ⟨b, o + i * 3, none⟩ = some (.int .i64 (Y i).at) ∧ w.cell? ⟨b, o + i * 3 + 1, none⟩ = some (.int .i64 (Y i).loc) ∧ w.cell? ⟨b, o + i * 3 + 2, none⟩ = some (.string (Y i).name)
theorem RMk.below {w w' : World} {A : Option Addr} {n : Nat} {Y : Nat → Mr} (h : RMk w A n Y) (hb : Below w.heap.size w w') : RMk w' A n Y := fun i hi => by
  obtain ⟨b, o, hA, hlt, hs, h0, h1, h2⟩ := h i hi
  exact ⟨b, o, hA, Nat.lt_of_lt_of_le hlt hb.size, hs, bcell hb hlt h0, bcell hb hlt h1, bcell hb hlt h2⟩
theorem Below.mono_ {a b : Nat} {w W : World} (h : Below a w W) (hb : b ≤ a) : Below b w W := ⟨h.os, h.tape, h.output, h.size, fun i hi => h.block i (by omega)⟩
theorem up {w W V : World} (h : Below w.heap.size w W) (k : Below W.heap.size W V) : Below w.heap.size w V := h.trans (Below.mono_ k h.size)
set_option maxRecDepth 100000 in
theorem zzFits12 (a l : Int) (s : ByteArray) (w : World) (hs : s.size ≤ 9223372036854775807) :
    Calls Try.prog 13 #[.agg #[.int .i64 a, .int .i64 l, .string s]] w fun e w' => Below w.heap.size w w' ∧ ∃ z, e = .returned (.bool z) := by
  by_cases h : (2147483647 : Int) < (s.size : Int)
  · go_enter Try.func13, Try.ntmps13
    go_wp2_with fail
    go_returns
    exact ⟨below_at (Below.refl _ _) _, false, rfl⟩
  · go_enter Try.func13, Try.ntmps13
    go_wp2_with fail
    go_returns
    exact ⟨below_at (Below.refl _ _) _, .inr rfl⟩
set_option maxRecDepth 100000 in
theorem zzFits11 (A : Option Addr) (n c : Nat) (Y : Nat → Mr) (w : World) (h : RMk w A n Y) (hn : n ≤ 9223372036854775807) :
    Calls Try.prog 4 #[.slice A n c] w fun e w' => Below w.heap.size w w' ∧ ∃ z, e = .returned (.bool z) := by
  have HH := Lib.hid (fun W (hb : Below w.heap.size w W) => h.below hb)
  have HZ := Lib.hid zzFits12
  clear h
  by_cases hbig : (2147483647 : Int) < (n : Int)
  · go_enter Try.func4, Try.ntmps4
    go_wp2_with fail
    go_returns
    exact ⟨Below.refl _ _, false, rfl⟩
  · go_enter Try.func4, Try.ntmps4
    go_wp2_with fail
    go_loopw [10] (fun iv wr => ∃ i : Nat, iv = .int .i64 i ∧ i ≤ n ∧ Below w.heap.size w wr) (fun iv _ => ((n : Int) - intOf iv).toNat)
    case atStart => exact ⟨0, rfl, by omega, Below.refl _ _⟩
    case round =>
      obtain ⟨i, rfl, hi, hw⟩ := hrel
      by_cases hlt : i < n
      · obtain ⟨b, o, rfl, hb, hs, h0, h1, h2⟩ := HH.out _ hw i hlt
        have hlt' : (i : Int) < n := by omega
        go_wp2_with fail
        refine (HZ.out _ _ (Y i).name _ hs).mono ?_
        rintro e w' ⟨hb', z, rfl⟩
        have hw' : Below w.heap.size w w' := up (below_at hw _) hb'
        cases z
        · go_wp2_with fail
          go_returns
          exact ⟨hw', false, rfl⟩
        · go_wp2_with fail
          go_roundw
          case rel => exact ⟨i + 1, val_int (by omega), by omega, hw'⟩
          case measure => simp [intOf]; omega
      · go_wp2_with fail
        go_returns
        exact ⟨hw, true, rfl⟩
/-- Rounded, of any number. -/
def rnd (s : ByteArray) (i : Int) : Bool := decide (0 ≤ i) && (decide (i ≤ s.size) && rounded s i.toNat)
set_option maxRecDepth 100000 in
theorem roundedAny (s : ByteArray) (i : Int) (w : World) (hs : s.size ≤ 140737488351232) :
    Calls Try.prog 15 #[.string s, .int .i64 i] w fun e w' => e = .returned (.bool (rnd s i)) ∧ w' = w := by
  by_cases h0 : i < 0
  · have e : rnd s i = false := by unfold rnd; rw [decide_eq_false (by omega)]; rfl
    rw [e]
    clear e
    go_enter Try.func15, Try.ntmps15
    go_wp2_with fail
    go_returns
    exact ⟨rfl, rfl⟩
  · by_cases h1 : (s.size : Int) < i
    · have e : rnd s i = false := by unfold rnd; rw [decide_eq_false (p := i ≤ s.size) (by omega)]; simp
      rw [e]
      clear e
      go_enter Try.func15, Try.ntmps15
      go_wp2_with fail
      go_returns
      exact ⟨rfl, rfl⟩
    · obtain ⟨k, rfl⟩ : ∃ k : Nat, i = k := ⟨i.toNat, by omega⟩
      have e : rnd s k = rounded s k := by unfold rnd; rw [decide_eq_true (by omega), decide_eq_true (by omega)]; simp
      rw [e]
      exact rounded_walk s k w hs (by omega)
end Go.Proofs.Ytobhlppdolekoaa.Ch
/- marksFit. The walk. -/
namespace Go.Proofs.Ytobhlppdolekoaa.Ch
open Go.RowKit Go.Proofs.Ytobhlppdolekoaa.Aid Go.Proofs.Ytobhlppdolekoaa.Bytes Go.Proofs.Ytobhlppdolekoaa.Runes
attribute [local go_sem ↓] Go.wp_at_zero Go.wp_at_succ
set_option linter.unusedVariables false
set_option linter.unusedSimpArgs false
/-- A mark is asked. -/
def GoodMk (src out : ByteArray) (Y : Nat → Mr) (i : Nat) : Prop := (0 < i → (Y (i - 1)).at < (Y i).at) ∧ rnd out (Y i).at = true ∧ rnd src (Y i).loc = true ∧ (Y i).name.size ≤ 100 ∧ wf (Y i).name 0 = true
structure RFit (src out : ByteArray) (n : Nat) (Y : Nat → Mr) : Prop where
  srcs : src.size ≤ 16384
  outs : out.size ≤ 16384
  len : n ≤ 500
  wsrc : wf src 0 = true
  wout : wf out 0 = true
  each : ∀ i, i < n → GoodMk src out Y i
set_option maxRecDepth 100000 in
set_option maxHeartbeats 4000000 in
theorem marksFit (src out : ByteArray) (A : Option Addr) (n c : Nat) (Y : Nat → Mr) (w : World) (h : RMk w A n Y) (hn : n ≤ 9223372036854775807) (h1 : src.size ≤ 140737488351232) (h2 : out.size ≤ 140737488351232) :
    Calls Try.prog 5 #[.string src, .string out, .slice A n c] w fun e w' => Below w.heap.size w w' ∧ ∃ z, e = .returned (.bool z) ∧ (z = true → RFit src out n Y) := by
  have HH := Lib.hid (fun W (hb : Below w.heap.size w W) => h.below hb)
  have HR := Lib.hid roundedAny
  have HWF := Lib.hid wellFormed
  clear h
  obtain ⟨v1, hv1⟩ : ∃ v, v = wf src 0 := ⟨_, rfl⟩
  obtain ⟨v2, hv2⟩ : ∃ v, v = wf out 0 := ⟨_, rfl⟩
  have W1 : Hid (∀ w, Calls Try.prog 14 #[.string src] w fun e w' => e = .returned (.bool v1) ∧ w' = w) := Lib.hid (by rw [hv1]; exact fun w => wellFormed src w h1)
  have W2 : Hid (∀ w, Calls Try.prog 14 #[.string out] w fun e w' => e = .returned (.bool v2) ∧ w' = w) := Lib.hid (by rw [hv2]; exact fun w => wellFormed out w h2)
  have H1 := Lib.hid h1
  have H2 := Lib.hid h2
  have HV1 := Lib.hid hv1
  have HV2 := Lib.hid hv2
  clear h1 h2 hv1 hv2
  go_enter Try.func5, Try.ntmps5
  go_upto_region 1 with fail
  go_cut [31] (fun t wx => ∃ z, t = .bool z ∧ wx = w ∧ (z = false → src.size ≤ 16384 ∧ out.size ≤ 16384 ∧ n ≤ 500 ∧ v1 = true ∧ v2 = true))
  case first =>
    by_cases c1 : (16384 : Int) < (src.size : Int)
    · go_wp2_with fail
      go_meet
      exact ⟨true, rfl, rfl, fun h => by cases h⟩
    by_cases c2 : (16384 : Int) < (out.size : Int)
    · go_wp2_with fail
      go_meet
      exact ⟨true, rfl, rfl, fun h => by cases h⟩
    by_cases c3 : (500 : Int) < (n : Int)
    · go_wp2_with fail
      go_meet
      exact ⟨true, rfl, rfl, fun h => by cases h⟩
    cases v1 with
    | false =>
      go_wp2_with fail
      refine (W1.out _).mono ?_
      rintro e w' ⟨rfl, rfl⟩
      go_wp2_with fail
      go_meet
      exact ⟨true, rfl, rfl, fun h => by cases h⟩
    | true =>
      cases v2 with
      | false =>
        go_wp2_with fail
        refine (W1.out _).mono ?_
        rintro e w' ⟨rfl, rfl⟩
        go_wp2_with fail
        refine (W2.out _).mono ?_
        rintro e w' ⟨rfl, rfl⟩
        go_wp2_with fail
        go_meet
        exact ⟨true, rfl, rfl, fun h => by cases h⟩
      | true =>
        go_wp2_with fail
        refine (W1.out _).mono ?_
        rintro e w' ⟨rfl, rfl⟩
        go_wp2_with fail
        refine (W2.out _).mono ?_
        rintro e w' ⟨rfl, rfl⟩
        go_wp2_with fail
        go_meet
        exact ⟨false, rfl, rfl, fun h => ⟨by omega, by omega, by omega, trivial, trivial⟩⟩
  case rest =>
    obtain ⟨z, rfl, rfl, hz⟩ := hcut
    obtain ⟨W, hW⟩ : ∃ W, W = wc := ⟨_, rfl⟩
    subst hW
    have HZ := Lib.hid hz
    clear hz
    cases z with
    | true =>
      go_wp2_with fail
      go_returns
      exact ⟨Below.refl _ _, false, rfl, fun h => by cases h⟩
    | false =>
      go_wp2_with fail
      go_loopg [34] n (fun m iv wr => ∃ i : Nat, i + m = n ∧ iv = .int .i64 i ∧ Below W.heap.size W wr ∧ Hid (∀ j, j < i → GoodMk src out Y j))
      case atStart => exact ⟨0, by omega, rfl, Below.refl _ _, Lib.hid (fun j hj => by omega)⟩
      case round =>
        obtain ⟨i, him, rfl, hw, HN⟩ := hrel
        by_cases hlt : i < n
        · obtain ⟨b, o, rfl, hb, hs, m0, m1, m2⟩ := HH.out _ hw i hlt
          have hlt' : (i : Int) < n := by omega
          go_upto_region 6 with fail
          obtain ⟨W2, hW2⟩ : ∃ W2, W2 = wr.alloc (.cells #[.int .i64 (Y i).at, .int .i64 (Y i).loc, .string (Y i).name] 45) := ⟨_, rfl⟩
          have k2 : Blk W2 wr.heap.size 45 [.int .i64 (Y i).at, .int .i64 (Y i).loc, .string (Y i).name] := by rw [hW2]; exact Blk.new wr 45 [.int .i64 (Y i).at, .int .i64 (Y i).loc, .string (Y i).name]
          have hw2 : Below W.heap.size W W2 := by rw [hW2]; exact up hw (below_at (Below.refl _ _) _)
          rw [← hW2]
          clear hW2 m0 m1 m2 hb
          obtain ⟨b8, hb8⟩ : ∃ b8, b8 = wr.heap.size := ⟨_, rfl⟩
          rw [← hb8] at k2 ⊢
          clear hb8
          have e0 : W2.cell? ⟨b8, 0, none⟩ = some (.int .i64 (Y i).at) := k2.get 0 rfl
          have e1 : W2.cell? ⟨b8, 1, none⟩ = some (.int .i64 (Y i).loc) := k2.get 1 rfl
          have e2 : W2.cell? ⟨b8, 2, none⟩ = some (.string (Y i).name) := k2.get 2 rfl
          have HW2 := Lib.hid hw2
          clear hw2 k2 hw
          obtain ⟨r1, hr1⟩ : ∃ r, r = rnd out (Y i).at := ⟨_, rfl⟩
          obtain ⟨r2, hr2⟩ : ∃ r, r = rnd src (Y i).loc := ⟨_, rfl⟩
          obtain ⟨r3, hr3⟩ : ∃ r, r = wf (Y i).name 0 := ⟨_, rfl⟩
          have R1 : Hid (∀ w, Calls Try.prog 15 #[.string out, .int .i64 (Y i).at] w fun e w' => e = .returned (.bool r1) ∧ w' = w) := Lib.hid (by rw [hr1]; exact fun w => HR.out out _ w H2.out)
          have R2 : Hid (∀ w, Calls Try.prog 15 #[.string src, .int .i64 (Y i).loc] w fun e w' => e = .returned (.bool r2) ∧ w' = w) := Lib.hid (by rw [hr2]; exact fun w => HR.out src _ w H1.out)
          have R3 : Hid ((Y i).name.size ≤ 100 → ∀ w, Calls Try.prog 14 #[.string (Y i).name] w fun e w' => e = .returned (.bool r3) ∧ w' = w) := Lib.hid (by rw [hr3]; exact fun h w => HWF.out _ w (by omega))
          have HR1 := Lib.hid hr1
          have HR2 := Lib.hid hr2
          have HR3 := Lib.hid hr3
          clear hr1 hr2 hr3
          go_cut [77] (fun t wx => ∃ z n, t = .bool z ∧ wx = W2.drewN n ∧ (z = false → GoodMk src out Y i))
          case first =>
            rcases Nat.eq_zero_or_pos i with hi0 | hi0
            · have p0 : ¬ 0 < i := by omega
              have HI0 := Lib.hid hi0
              clear hi0
              cases r1 with
              | false =>
                go_quiet ((first | (go_at_call 15; with_reducible exact Calls.quiet_of_same (R1.out _)) | (go_at_call 15; with_reducible exact Calls.quiet_of_same (R2.out _)) | (go_at_call 14; with_reducible exact Calls.quiet_of_same (R3.out _))))
                go_wp2_with fail
                go_meet
                exact ⟨true, nq, rfl, rfl, fun h => by cases h⟩
              | true =>
                cases r2 with
                | false =>
                  go_quiet ((first | (go_at_call 15; with_reducible exact Calls.quiet_of_same (R1.out _)) | (go_at_call 15; with_reducible exact Calls.quiet_of_same (R2.out _)) | (go_at_call 14; with_reducible exact Calls.quiet_of_same (R3.out _))))
                  go_wp2_with fail
                  go_meet
                  exact ⟨true, nq, rfl, rfl, fun h => by cases h⟩
                | true =>
                  by_cases c4 : (100 : Int) < ((Y i).name.size : Int)
                  ·
                    go_quiet ((first | (go_at_call 15; with_reducible exact Calls.quiet_of_same (R1.out _)) | (go_at_call 15; with_reducible exact Calls.quiet_of_same (R2.out _)) | (go_at_call 14; with_reducible exact Calls.quiet_of_same (R3.out _))))
                    go_wp2_with fail
                    go_meet
                    exact ⟨true, nq, rfl, rfl, fun h => by cases h⟩
                  · have R4 := Lib.hid (R3.out (by omega))
                    cases r3 with
                    | false =>
                      go_quiet ((first | (go_at_call 15; with_reducible exact Calls.quiet_of_same (R1.out _)) | (go_at_call 15; with_reducible exact Calls.quiet_of_same (R2.out _)) | (go_at_call 14; with_reducible exact Calls.quiet_of_same (R4.out _))))
                      go_wp2_with fail
                      go_meet
                      exact ⟨true, nq, rfl, rfl, fun h => by cases h⟩
                    | true =>
                      go_quiet ((first | (go_at_call 15; with_reducible exact Calls.quiet_of_same (R1.out _)) | (go_at_call 15; with_reducible exact Calls.quiet_of_same (R2.out _)) | (go_at_call 14; with_reducible exact Calls.quiet_of_same (R4.out _))))
                      go_wp2_with fail
                      go_meet
                      exact ⟨false, nq, rfl, rfl, fun _ => ⟨fun h => absurd h (by have := HI0.out; omega), HR1.out.symm, HR2.out.symm, by omega, HR3.out.symm⟩⟩
            · obtain ⟨k, rfl⟩ : ∃ k, i = k + 1 := ⟨i - 1, by omega⟩
              have p0 : 0 < k + 1 := by omega
              obtain ⟨b', o', hA, _, _, m0, _, _⟩ := HH.out _ HW2.out k (by omega)
              have qk : IntKind.i64.wrap (k : Int) = k := IntWalk.i64_in _ (by omega)
              injection hA with hA
              injection hA with hA1 hA2
              subst hA1 hA2
              by_cases c0 : (Y (k + 1)).at ≤ (Y k).at
              ·
                go_quiet ((first | (go_at_call 15; with_reducible exact Calls.quiet_of_same (R1.out _)) | (go_at_call 15; with_reducible exact Calls.quiet_of_same (R2.out _)) | (go_at_call 14; with_reducible exact Calls.quiet_of_same (R3.out _))))
                go_wp2_with fail
                go_meet
                exact ⟨true, nq, rfl, rfl, fun h => by cases h⟩
              ·
                cases r1 with
                | false =>
                  go_quiet ((first | (go_at_call 15; with_reducible exact Calls.quiet_of_same (R1.out _)) | (go_at_call 15; with_reducible exact Calls.quiet_of_same (R2.out _)) | (go_at_call 14; with_reducible exact Calls.quiet_of_same (R3.out _))))
                  go_wp2_with fail
                  go_meet
                  exact ⟨true, nq, rfl, rfl, fun h => by cases h⟩
                | true =>
                  cases r2 with
                  | false =>
                    go_quiet ((first | (go_at_call 15; with_reducible exact Calls.quiet_of_same (R1.out _)) | (go_at_call 15; with_reducible exact Calls.quiet_of_same (R2.out _)) | (go_at_call 14; with_reducible exact Calls.quiet_of_same (R3.out _))))
                    go_wp2_with fail
                    go_meet
                    exact ⟨true, nq, rfl, rfl, fun h => by cases h⟩
                  | true =>
                    by_cases c4 : (100 : Int) < ((Y (k + 1)).name.size : Int)
                    ·
                      go_quiet ((first | (go_at_call 15; with_reducible exact Calls.quiet_of_same (R1.out _)) | (go_at_call 15; with_reducible exact Calls.quiet_of_same (R2.out _)) | (go_at_call 14; with_reducible exact Calls.quiet_of_same (R3.out _))))
                      go_wp2_with fail
                      go_meet
                      exact ⟨true, nq, rfl, rfl, fun h => by cases h⟩
                    · have R4 := Lib.hid (R3.out (by omega))
                      cases r3 with
                      | false =>
                        go_quiet ((first | (go_at_call 15; with_reducible exact Calls.quiet_of_same (R1.out _)) | (go_at_call 15; with_reducible exact Calls.quiet_of_same (R2.out _)) | (go_at_call 14; with_reducible exact Calls.quiet_of_same (R4.out _))))
                        go_wp2_with fail
                        go_meet
                        exact ⟨true, nq, rfl, rfl, fun h => by cases h⟩
                      | true =>
                        go_quiet ((first | (go_at_call 15; with_reducible exact Calls.quiet_of_same (R1.out _)) | (go_at_call 15; with_reducible exact Calls.quiet_of_same (R2.out _)) | (go_at_call 14; with_reducible exact Calls.quiet_of_same (R4.out _))))
                        go_wp2_with fail
                        go_meet
                        exact ⟨false, nq, rfl, rfl, fun _ => ⟨fun _ => by rw [show k + 1 - 1 = k by omega]; omega, HR1.out.symm, HR2.out.symm, by omega, HR3.out.symm⟩⟩
          case rest =>
            obtain ⟨z, n', rfl, rfl, hz⟩ := hcut
            obtain ⟨W3, hW3⟩ : ∃ W3, W3 = W2.drewN n' := ⟨_, rfl⟩
            have HZ2 := Lib.hid hz
            have hw3 : Below W.heap.size W W3 := by rw [hW3]; exact below_drewN HW2.out n'
            rw [← hW3]
            clear hW3 hz
            cases z with
            | true =>
              go_wp2_with fail
              go_returns
              exact ⟨hw3, false, rfl, fun h => by cases h⟩
            | false =>
              go_wp2_with fail
              go_roundg (n - (i + 1))
              case rel =>
                refine ⟨i + 1, by omega, rfl, hw3, Lib.hid fun j hj => ?_⟩
                rcases Nat.lt_or_ge j i with q | q
                · exact HN.out j q
                · rw [show j = i by omega]
                  exact HZ2.out trivial
              case measure => omega
        · go_wp2_with fail
          go_returns
          refine ⟨hw, true, rfl, fun _ => ?_⟩
          obtain ⟨z1, z2, z3, z4, z5⟩ := HZ.out trivial
          exact ⟨z1, z2, z3, by rw [← HV1.out]; exact z4, by rw [← HV2.out]; exact z5, fun i hi => HN.out i (by omega)⟩
end Go.Proofs.Ytobhlppdolekoaa.Ch
