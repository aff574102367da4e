/- Well-formedness, line ends, rounded places: the reference's small functions. The walks. -/
import Derived.Test.YtobhlppdolekoaaRuneW
import Derived.Test.YtobhlppdolekoaaBytes
namespace Go.Proofs.Ytobhlppdolekoaa.Runes
open Go.RowKit Go.Proofs.Ytobhlppdolekoaa.Aid
attribute [local go_sem ↓] Go.wp_at_zero Go.wp_at_succ
set_option linter.unusedVariables false
set_option maxRecDepth 100000 in
set_option maxHeartbeats 1000000 in
theorem wellFormed (s : ByteArray) (w : World) (hs : s.size ≤ 140737488351232) :
    Calls Try.prog 14 #[.string s] w fun e w' => e = .returned (.bool (wf s 0)) ∧ w' = w := by
  obtain ⟨B, hB⟩ : ∃ B, B = wf s 0 := ⟨_, rfl⟩
  rw [← hB]
  have HB := Lib.hid hB
  clear hB
  go_enter Try.func14, Try.ntmps14
  go_wp2_with fail
  go_loop [3] (fun a => ∃ k : Nat, k ≤ s.size ∧ a = .int .i64 k ∧ B = wf s k) (fun a => s.size - (intOf a).toNat)
  case atStart => exact ⟨0, Nat.zero_le _, rfl, HB.out⟩
  case round =>
    obtain ⟨k, hk, rfl, hw⟩ := hrel
    have HW := Lib.hid hw
    clear hw
    by_cases hlt : k < s.size
    · have HR := rune_walk s k w hs (by omega)
      have hlt' : (k : Int) < s.size := by omega
      obtain ⟨r, n, hrn⟩ : ∃ r n, rune s k = (r, n) := ⟨_, _, rfl⟩
      rw [hrn] at HR
      by_cases hn : n = 0
      · have HE := Lib.hid (show B = false by rw [HW.out, wf_no hlt (by rw [hrn]; exact hn)])
        subst hn
        clear hrn
        go_wp2_with fail
        refine HR.mono ?_
        rintro e w' ⟨rfl, rfl⟩
        go_wp2_with fail
        go_returns
        exact ⟨by rw [HE.out]; rfl, rfl⟩
      · have hp := rune_pos hrn (by omega)
        have h4 := hp.2.2.1
        have h5 := hp.2.2.2.1
        have hnp : 0 < n := by omega
        have hne : ((n : Int) == 0) = false := by simp; omega
        have HE := Lib.hid (show B = wf s (k + n) by rw [HW.out, wf_next hlt (by rw [hrn]; exact hnp), hrn])
        clear hrn hp hn
        go_wp2_with fail
        refine HR.mono ?_
        rintro e w' ⟨rfl, rfl⟩
        go_wp2_with fail
        go_round
        case rel => exact ⟨k + n, h5, val_int (by omega), HE.out⟩
        case measure => simp [intOf]; omega
    · have hge : (s.size : Int) ≤ k := by omega
      have HE := Lib.hid (show B = true by rw [HW.out, wf_end hlt])
      clear hlt
      go_wp2_with fail
      go_returns
      exact ⟨by rw [HE.out]; rfl, rfl⟩
set_option maxRecDepth 100000 in
set_option maxHeartbeats 1000000 in
theorem lineEnd_walk (r : Nat) (w : World) : Calls Try.prog 36 #[.int .i64 r] w fun e w' => e = .returned (.bool (lineEnd r)) ∧ w' = w := by
  obtain ⟨B, hB⟩ : ∃ B, B = lineEnd r := ⟨_, rfl⟩
  rw [← hB]
  have HB := Lib.hid hB
  clear hB
  by_cases h1 : r = 10
  · have h1' : ((r : Int) == 10) = true := by simp; omega
    have HE := Lib.hid (show B = true by rw [HB.out, h1]; rfl)
    clear h1
    go_enter Try.func36, Try.ntmps36
    go_wp2_with fail
    go_returns
    exact ⟨by rw [HE.out]; rfl, rfl⟩
  have h1' : ((r : Int) == 10) = false := by simp; omega
  by_cases h2 : r = 13
  · have h2' : ((r : Int) == 13) = true := by simp; omega
    have HE := Lib.hid (show B = true by rw [HB.out, h2]; rfl)
    clear h1 h2
    go_enter Try.func36, Try.ntmps36
    go_wp2_with fail
    go_returns
    exact ⟨by rw [HE.out]; rfl, rfl⟩
  have h2' : ((r : Int) == 13) = false := by simp; omega
  by_cases h3 : r = 8232
  · have h3' : ((r : Int) == 8232) = true := by simp; omega
    have HE := Lib.hid (show B = true by rw [HB.out, h3]; rfl)
    clear h1 h2 h3
    go_enter Try.func36, Try.ntmps36
    go_wp2_with fail
    go_returns
    exact ⟨by rw [HE.out]; rfl, rfl⟩
  have h3' : ((r : Int) == 8232) = false := by simp; omega
  by_cases h4 : r = 8233
  · have h4' : ((r : Int) == 8233) = true := by simp; omega
    have HE := Lib.hid (show B = true by rw [HB.out, h4]; rfl)
    clear h1 h2 h3 h4
    go_enter Try.func36, Try.ntmps36
    go_wp2_with fail
    go_returns
    exact ⟨by rw [HE.out]; rfl, rfl⟩
  have h4' : ((r : Int) == 8233) = false := by simp; omega
  have HE := Lib.hid (show B = false by rw [HB.out]; simp [lineEnd, h1, h2, h3, h4])
  clear h1 h2 h3 h4
  go_enter Try.func36, Try.ntmps36
  go_wp2_with fail
  go_returns
  exact ⟨by rw [HE.out]; rfl, rfl⟩
theorem and_high8 (x : Nat) (h : x < 256) : bits .and .u8 (x : Int) 192 = ((x / 64 * 64 : Nat) : Int) := by
  have h1 := (bits_nat .u8 8 (by decide) (fun n h0 h1 => by rw [IntKind.wrap_u8]; omega) x 192 (by omega) (by decide)).1
  rw [show ((192 : Nat) : Int) = 192 from rfl] at h1
  rw [h1]
  have h2 : ∀ y : Fin 256, (y.val &&& 192) = y.val / 64 * 64 := by decide +kernel
  rw [h2 ⟨x, h⟩]
/-- A byte's place is where a code point begins, or the end, and not within CR LF. -/
def rounded (s : ByteArray) (i : Nat) : Bool := decide (¬ (i < s.size ∧ byt s i / 64 = 2) ∧ (i = 0 ∨ i = s.size ∨ byt s (i - 1) ≠ 13 ∨ byt s i ≠ 10))
set_option maxRecDepth 100000 in
set_option maxHeartbeats 1000000 in
theorem rounded_walk (s : ByteArray) (i : Nat) (w : World) (hs : s.size ≤ 140737488351232) (hi : i ≤ s.size) :
    Calls Try.prog 15 #[.string s, .int .i64 i] w fun e w' => e = .returned (.bool (rounded s i)) ∧ w' = w := by
  obtain ⟨B, hB⟩ : ∃ B, B = rounded s i := ⟨_, rfl⟩
  rw [← hB]
  have HB := Lib.hid hB
  clear hB
  have n0 : ¬ ((i : Int) < 0) := by omega
  by_cases hend : i = s.size
  · have HE := Lib.hid (show B = true by rw [HB.out, rounded]; simp [hend])
    have e1 : ((i : Int) == (s.size : Int)) = true := by simp; omega
    have e2 : ¬ i < s.size := by omega
    have e3 : ¬ (i : Int) < s.size := by omega
    have e4 : ¬ (s.size : Int) < i := by omega
    have HEN := Lib.hid hend
    clear hend
    by_cases h0 : i = 0
    · have h0' : ((i : Int) == 0) = true := by simp; omega
      clear h0
      go_enter Try.func15, Try.ntmps15
      go_wp2_with fail
      go_returns
      exact ⟨by rw [HE.out]; rfl, rfl⟩
    · have h0' : ((i : Int) == 0) = false := by simp; omega
      clear h0
      go_enter Try.func15, Try.ntmps15
      go_wp2_with fail
      go_returns
      exact ⟨by rw [HE.out]; rfl, rfl⟩
  · have hlt : i < s.size := by omega
    have e3 : (i : Int) < s.size := by omega
    have e1 : ((i : Int) == (s.size : Int)) = false := by simp; omega
    obtain ⟨c, ec⟩ : ∃ c : Nat, (s[i]'hlt).toNat = c := ⟨_, rfl⟩
    have ec' := byt_eq s i hlt
    rw [ec] at ec'
    have hc := byt_lt s i
    rw [ec'] at hc
    have hh := and_high8 c hc
    obtain ⟨y, hy⟩ : ∃ y, y = c / 64 * 64 := ⟨_, rfl⟩
    rw [← hy] at hh
    by_cases hg : c / 64 = 2
    · have HE := Lib.hid (show B = false by rw [HB.out, rounded, ec']; simp [hlt, hg])
      have y1 : ((y : Int) == 128) = true := by simp; omega
      clear hg hy ec' hend
      go_enter Try.func15, Try.ntmps15
      go_wp2_with fail
      go_returns
      exact ⟨by rw [HE.out]; rfl, rfl⟩
    · have y1 : ((y : Int) == 128) = false := by simp; omega
      by_cases h0 : i = 0
      · have HE := Lib.hid (show B = true by rw [HB.out, rounded, ec']; simp [h0]; omega)
        have h0' : ((i : Int) == 0) = true := by simp; omega
        clear hg hy ec' hend h0
        go_enter Try.func15, Try.ntmps15
        go_wp2_with fail
        go_returns
        exact ⟨by rw [HE.out]; rfl, rfl⟩
      · have h0' : ((i : Int) == 0) = false := by simp; omega
        have hlt1 : i - 1 < s.size := by omega
        have hc1 : ((i : Int) - 1).toNat = i - 1 := by omega
        have hc0 : (0 : Int) ≤ (i : Int) - 1 := by omega
        have hc2 : (i : Int) - 1 < s.size := by omega
        obtain ⟨d, ed⟩ : ∃ d : Nat, (s[i - 1]'hlt1).toNat = d := ⟨_, rfl⟩
        have ed' := byt_eq s (i - 1) hlt1
        rw [ed] at ed'
        by_cases hd : d = 13
        · have hd' : ((d : Int) != 13) = false := by simp; omega
          by_cases hcc : c = 10
          · have hc' : ((c : Int) != 10) = false := by simp; omega
            have HE := Lib.hid (show B = false by rw [HB.out, rounded, ec', ed']; simp [hd, hcc, h0, hend])
            clear hg hy ec' ed' hend h0 hd hcc hc
            go_enter Try.func15, Try.ntmps15
            go_wp2_with fail
            go_returns
            exact ⟨by rw [HE.out]; rfl, rfl⟩
          · have hc' : ((c : Int) != 10) = true := by simp; omega
            have HE := Lib.hid (show B = true by rw [HB.out, rounded, ec', ed']; simp [hcc, hg])
            clear hg hy ec' ed' hend h0 hd hcc hc
            go_enter Try.func15, Try.ntmps15
            go_wp2_with fail
            go_returns
            exact ⟨by rw [HE.out]; rfl, rfl⟩
        · have hd' : ((d : Int) != 13) = true := by simp; omega
          have HE := Lib.hid (show B = true by rw [HB.out, rounded, ec', ed']; simp [hd, hg])
          clear hg hy ec' ed' hend h0 hd hc
          go_enter Try.func15, Try.ntmps15
          go_wp2_with fail
          go_returns
          exact ⟨by rw [HE.out]; rfl, rfl⟩
end Go.Proofs.Ytobhlppdolekoaa.Runes
/- The reference Places: lines and columns over a text. The walk. -/
namespace Go.Proofs.Ytobhlppdolekoaa.Runes
open Go.RowKit Go.Proofs.Ytobhlppdolekoaa.Aid
attribute [local go_sem ↓] Go.wp_at_zero Go.wp_at_succ
set_option linter.unusedVariables false
/-- The place as its block holds it. -/
def placeCells (p : Nat × Nat) : List Value := [.int .i64 p.1, .int .i64 p.2]
theorem lineEnd_is {r : Nat} {b : Bool} (h : lineEnd r = b) (w : World) : Calls Try.prog 36 #[.int .i64 r] w fun e w' => e = .returned (.bool b) ∧ w' = w := by
  rw [← h]
  exact lineEnd_walk r w
set_option maxRecDepth 100000 in
set_option maxHeartbeats 2000000 in
theorem places_walk (s : ByteArray) (w : World) (hs : s.size ≤ 1000000) :
    Calls Try.prog 22 #[.agg #[.int .i64 0, .int .i64 0], .string s] w fun e w' => e = .returned (.agg #[.int .i64 (places s 0 (0, 0)).1, .int .i64 (places s 0 (0, 0)).2]) ∧ Below w.heap.size w w' := by
  obtain ⟨P, hP⟩ : ∃ P, P = places s 0 (0, 0) := ⟨_, rfl⟩
  rw [← hP]
  have HP := Lib.hid hP
  clear hP
  go_enter Try.func22, Try.ntmps22
  go_wp2_with fail
  go_loopw [5] (fun i wr => ∃ (k : Nat) (p : Nat × Nat), k ≤ s.size ∧ i = .int .i64 k ∧ p.1 ≤ k ∧ p.2 ≤ 2 * k ∧ P = places s k p ∧ Blk wr w.heap.size 39 (placeCells p) ∧ Blk wr (w.heap.size + 1) 39 [.int .i64 0, .int .i64 0] ∧ Below w.heap.size w wr) (fun i _ => s.size - (intOf i).toNat)
  case atStart => exact ⟨0, (0, 0), Nat.zero_le _, rfl, Nat.le_refl _, Nat.le_refl _, HP.out, (Blk.new w 39 _).alloc _, by simpa using Blk.new (w.alloc (.cells #[.int .i64 0, .int .i64 0] 39)) 39 [.int .i64 0, .int .i64 0], (below_at (Below.refl _ _) _).alloc (by simp) _⟩
  case round =>
    obtain ⟨k, ⟨l, c⟩, hk, rfl, hl, hc, hP, hb, hz, hB⟩ := hrel
    simp only at hl hc
    have hb' : Blk wr w.heap.size 39 [.int .i64 l, .int .i64 c] := hb
    have HPP := Lib.hid hP
    have HBL := Lib.hid hb'
    have HZ := Lib.hid hz
    have HBB := Lib.hid hB
    clear hP hb
    have c0 := hb'.get 0 rfl
    have c1 := hb'.get 1 rfl
    have f0 := hb'.frozen 0
    have f1 := hb'.frozen 1
    have d0 := hz.get 0 rfl
    have d1 := hz.get 1 rfl
    have e0 := hz.frozen 0
    have e1 := hz.frozen 1
    have hsz := hB.size
    clear hb' hz hB
    by_cases hlt : k < s.size
    · have HR := rune_walk s k wr (by omega) (by omega)
      have hlt' : (k : Int) < s.size := by omega
      obtain ⟨r, n, hrn⟩ : ∃ r n, rune s k = (r, n) := ⟨_, _, rfl⟩
      rw [hrn] at HR
      by_cases hn : n = 0
      · have HE := Lib.hid (show P = (l, c) by rw [HPP.out, places, dif_neg (by rw [hrn]; omega)])
        subst hn
        clear hrn
        go_wp2_with fail
        refine HR.mono ?_
        rintro e w' ⟨rfl, rfl⟩
        go_wp2_with fail
        have z0 : ((w'.setCell ⟨w.heap.size + 1, 0, none⟩ (.int .i64 l)).setCell ⟨w.heap.size + 1, 1, none⟩ (.int .i64 c)).cell? ⟨w.heap.size + 1, 0, none⟩ = some (.int .i64 l) := ((HZ.out.set_ 0 (.int .i64 l)).set_ 1 (.int .i64 c)).get 0 rfl
        have z1 : ((w'.setCell ⟨w.heap.size + 1, 0, none⟩ (.int .i64 l)).setCell ⟨w.heap.size + 1, 1, none⟩ (.int .i64 c)).cell? ⟨w.heap.size + 1, 1, none⟩ = some (.int .i64 c) := ((HZ.out.set_ 0 (.int .i64 l)).set_ 1 (.int .i64 c)).get 1 rfl
        refine bodyPost_ret (v := .agg #[.int .i64 l, .int .i64 c]) (by simp [results, Try.results22, z0, z1, go_sem]) rfl ?_
        exact ⟨by rw [HE.out], ((HBB.out).setCell (p := ⟨w.heap.size + 1, 0, none⟩) (by simp) _).setCell (p := ⟨w.heap.size + 1, 1, none⟩) (by simp) _⟩
      · have hp := rune_pos hrn (by omega)
        have h4 := hp.2.2.1
        have h5 := hp.2.2.2.1
        have hr : r ≤ 1114111 := hp.2.2.2.2.2.1
        have hnp : 0 < n := by omega
        have hne : ((n : Int) == 0) = false := by simp; omega
        have HE := Lib.hid (show P = places s (k + n) (stepS s k (r, n) (l, c)) by rw [HPP.out, places_next hlt (by rw [hrn]; exact hnp), hrn])
        clear hrn hp hn
        by_cases hcr : r = 13 ∧ k + n < s.size ∧ byt s (k + n) = 10
        · obtain ⟨q1, q2, q3⟩ := hcr
          have HS := Lib.hid (show stepS s k (r, n) (l, c) = (l, c) from if_pos ⟨q1, q2, q3⟩)
          have t1 : ((r : Int) == 13) = true := by simp; omega
          have t2 : ((k + n : Nat) : Int) < s.size := by omega
          have ec := byt_eq s (k + n) q2
          rw [q3] at ec
          have ec2 : (s[k + n]'q2).toNat = 10 := ec.symm
          clear q1 q3 ec
          go_wp2_with fail
          refine HR.mono ?_
          rintro e w' ⟨rfl, rfl⟩
          go_wp2_with fail
          go_roundw
          case rel => exact ⟨k + n, (l, c), h5, val_int (by omega), by simp only; omega, by simp only; omega, by rw [HE.out, HS.out], HBL.out, HZ.out, HBB.out⟩
          case measure => simp [intOf]; omega
        · have HCR := Lib.hid hcr
          clear hcr
          by_cases hle : lineEnd r = true
          · have HS := Lib.hid (show stepS s k (r, n) (l, c) = (l + 1, 0) from (if_neg HCR.out).trans (if_pos hle))
            have HLE := Lib.hid hle
            clear hle
            by_cases q1 : r = 13
            · have t1 : ((r : Int) == 13) = true := by simp; omega
              by_cases q2 : k + n < s.size
              · have t2 : ((k + n : Nat) : Int) < s.size := by omega
                obtain ⟨x, ex⟩ : ∃ x : Nat, (s[k + n]'q2).toNat = x := ⟨_, rfl⟩
                have t3 : ((x : Int) == 10) = false := by
                  have : x ≠ 10 := fun h => HCR.out ⟨q1, q2, by rw [byt_eq s _ q2, ex, h]⟩
                  simp
                  omega
                clear q1
                go_wp2_with fail
                refine HR.mono ?_
                rintro e w' ⟨rfl, rfl⟩
                go_wp2_with fail
                refine (lineEnd_is HLE.out _).mono ?_
                rintro e w2 ⟨rfl, rfl⟩
                go_wp2_with fail
                go_roundw
                case rel =>
                  refine ⟨k + n, (l + 1, 0), h5, val_int (by omega), by simp only; omega, by simp only; omega, by rw [HE.out, HS.out], ?_, (HZ.out.far (p := ⟨w.heap.size, 0, none⟩) (by simp) _).far (p := ⟨w.heap.size, 1, none⟩) (by simp) _, ((HBB.out).setCell (p := ⟨w.heap.size, 0, none⟩) (by simp) _).setCell (p := ⟨w.heap.size, 1, none⟩) (by simp) _⟩
                  have := (HBL.out.set_ 0 (.int .i64 ((l : Int) + 1))).set_ 1 (.int .i64 0)
                  simpa [placeCells] using this
                case measure => simp [intOf]; omega
              · have t2 : (s.size : Int) ≤ ((k + n : Nat) : Int) := by omega
                clear q1
                go_wp2_with fail
                refine HR.mono ?_
                rintro e w' ⟨rfl, rfl⟩
                go_wp2_with fail
                refine (lineEnd_is HLE.out _).mono ?_
                rintro e w2 ⟨rfl, rfl⟩
                go_wp2_with fail
                go_roundw
                case rel =>
                  refine ⟨k + n, (l + 1, 0), h5, val_int (by omega), by simp only; omega, by simp only; omega, by rw [HE.out, HS.out], ?_, (HZ.out.far (p := ⟨w.heap.size, 0, none⟩) (by simp) _).far (p := ⟨w.heap.size, 1, none⟩) (by simp) _, ((HBB.out).setCell (p := ⟨w.heap.size, 0, none⟩) (by simp) _).setCell (p := ⟨w.heap.size, 1, none⟩) (by simp) _⟩
                  have := (HBL.out.set_ 0 (.int .i64 ((l : Int) + 1))).set_ 1 (.int .i64 0)
                  simpa [placeCells] using this
                case measure => simp [intOf]; omega
            · have t1 : ((r : Int) == 13) = false := by simp; omega
              clear q1
              go_wp2_with fail
              refine HR.mono ?_
              rintro e w' ⟨rfl, rfl⟩
              go_wp2_with fail
              refine (lineEnd_is HLE.out _).mono ?_
              rintro e w2 ⟨rfl, rfl⟩
              go_wp2_with fail
              go_roundw
              case rel =>
                refine ⟨k + n, (l + 1, 0), h5, val_int (by omega), by simp only; omega, by simp only; omega, by rw [HE.out, HS.out], ?_, (HZ.out.far (p := ⟨w.heap.size, 0, none⟩) (by simp) _).far (p := ⟨w.heap.size, 1, none⟩) (by simp) _, ((HBB.out).setCell (p := ⟨w.heap.size, 0, none⟩) (by simp) _).setCell (p := ⟨w.heap.size, 1, none⟩) (by simp) _⟩
                have := (HBL.out.set_ 0 (.int .i64 ((l : Int) + 1))).set_ 1 (.int .i64 0)
                simpa [placeCells] using this
              case measure => simp [intOf]; omega
          · have hle' : lineEnd r = false := by simpa using hle
            have q1 : r ≠ 13 := by
              rintro rfl
              exact hle rfl
            have t1 : ((r : Int) == 13) = false := by simp; omega
            have HLE := Lib.hid hle'
            have HLN := Lib.hid hle
            clear hle hle' q1
            by_cases hb : 65535 < r
            · have HS := Lib.hid (show stepS s k (r, n) (l, c) = (l, c + 2) from (if_neg HCR.out).trans ((if_neg HLN.out).trans (if_pos hb)))
              have hb' : (65535 : Int) < r := by omega
              clear hb
              go_wp2_with fail
              refine HR.mono ?_
              rintro e w' ⟨rfl, rfl⟩
              go_wp2_with fail
              refine (lineEnd_is HLE.out _).mono ?_
              rintro e w2 ⟨rfl, rfl⟩
              go_wp2_with fail
              go_roundw
              case rel =>
                refine ⟨k + n, (l, c + 2), h5, val_int (by omega), by simp only; omega, by simp only; omega, by rw [HE.out, HS.out], ?_, HZ.out.far (p := ⟨w.heap.size, 1, none⟩) (by simp) _, (HBB.out).setCell (p := ⟨w.heap.size, 1, none⟩) (by simp) _⟩
                have := HBL.out.set_ 1 (.int .i64 ((c : Int) + 2))
                simpa [placeCells] using this
              case measure => simp [intOf]; omega
            · have HS := Lib.hid (show stepS s k (r, n) (l, c) = (l, c + 1) from (if_neg HCR.out).trans ((if_neg HLN.out).trans (if_neg hb)))
              have hb' : (r : Int) ≤ 65535 := by omega
              clear hb
              go_wp2_with fail
              refine HR.mono ?_
              rintro e w' ⟨rfl, rfl⟩
              go_wp2_with fail
              refine (lineEnd_is HLE.out _).mono ?_
              rintro e w2 ⟨rfl, rfl⟩
              go_wp2_with fail
              go_roundw
              case rel =>
                refine ⟨k + n, (l, c + 1), h5, val_int (by omega), by simp only; omega, by simp only; omega, by rw [HE.out, HS.out], ?_, HZ.out.far (p := ⟨w.heap.size, 1, none⟩) (by simp) _, (HBB.out).setCell (p := ⟨w.heap.size, 1, none⟩) (by simp) _⟩
                have := HBL.out.set_ 1 (.int .i64 ((c : Int) + 1))
                simpa [placeCells] using this
              case measure => simp [intOf]; omega
    · have hge : (s.size : Int) ≤ k := by omega
      have HE := Lib.hid (show P = (l, c) by rw [HPP.out, places_end hlt])
      clear hlt
      go_wp2_with fail
      have z0 : ((wr.setCell ⟨w.heap.size + 1, 0, none⟩ (.int .i64 l)).setCell ⟨w.heap.size + 1, 1, none⟩ (.int .i64 c)).cell? ⟨w.heap.size + 1, 0, none⟩ = some (.int .i64 l) := ((HZ.out.set_ 0 (.int .i64 l)).set_ 1 (.int .i64 c)).get 0 rfl
      have z1 : ((wr.setCell ⟨w.heap.size + 1, 0, none⟩ (.int .i64 l)).setCell ⟨w.heap.size + 1, 1, none⟩ (.int .i64 c)).cell? ⟨w.heap.size + 1, 1, none⟩ = some (.int .i64 c) := ((HZ.out.set_ 0 (.int .i64 l)).set_ 1 (.int .i64 c)).get 1 rfl
      refine bodyPost_ret (v := .agg #[.int .i64 l, .int .i64 c]) (by simp [results, Try.results22, z0, z1, go_sem]) rfl ?_
      exact ⟨by rw [HE.out], ((HBB.out).setCell (p := ⟨w.heap.size + 1, 0, none⟩) (by simp) _).setCell (p := ⟨w.heap.size + 1, 1, none⟩) (by simp) _⟩
end Go.Proofs.Ytobhlppdolekoaa.Runes
