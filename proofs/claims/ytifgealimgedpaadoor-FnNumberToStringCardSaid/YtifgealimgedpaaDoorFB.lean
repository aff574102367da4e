/- The text of a whole number in a base: strconv's own (formatBits). -/
import Derived.Test.YtifgealimgedpaaDoorDE
import Derived.Deep.CutRange
import Derived.Deep.DeepCutAuto
import Derived.Deep.CutBlock
namespace Go.Proofs.YtifgealimgedpaaDoor.Nats
open Go.RowKit Go.Proofs.YtifgealimgedpaaDoor.Aid Go.Proofs.YtifgealimgedpaaDoor.Runes Go.Proofs.YtifgealimgedpaaDoor.Bytes Go.Proofs.YtifgealimgedpaaDoor.Flo
attribute [local go_sem ↓] Go.wp_at_zero Go.wp_at_succ
set_option linter.unusedVariables false
theorem isPow (r : Int) (w : World) (h0 : 0 < r) (h1 : r ≤ 36) : Calls Tryd.prog 39 #[.int .i64 r] w fun e w' => e = .returned (.bool (bits .and .i64 r (r - 1) == 0)) ∧ w' = w := by
  go_enter Tryd.func39, Tryd.ntmps39
  go_wp2_with fail
  go_returns
  exact ⟨rfl, rfl⟩
theorem tz64c (x k idx : Nat) (w : World) (hx0 : ((x : Int) == 0) = false)
    (key : IntKind.u64.wrap (bits BinOp.and IntKind.u64 (x : Int) (IntKind.u64.wrap (-(x : Int))) * 285870213051353865) / 288230376151711744 = (idx : Int))
    (hi : idx < 64) (hk : k < 64) (hcell : w.cell? ⟨3, idx, none⟩ = some (.int .u8 k)) :
    Calls Tryd.prog 48 #[.int .u64 x] w fun e w' => e = .returned (.int .i64 k) ∧ w' = w := by
  go_enter Tryd.func48, Tryd.ntmps48
  go_wp2_with (simp only [key])
  go_returns
  exact ⟨rfl, rfl⟩
/-- The table of trailing zeros, at the powers of two that are asked for. -/
def Tz (w : World) : Prop := ∀ k : Nat, k ≤ 5 → w.cell? ⟨3, 2 ^ k - 1, none⟩ = some (.int .u8 (k : Int))
theorem Tz.below {w W : World} (h : Tz w) (hb : Below w.heap.size w W) (h3 : 3 < w.heap.size) : Tz W := fun k hk => bcell hb h3 (h k hk)
theorem tz_1 (w : World) (h : Tz w) : Calls Tryd.prog 48 #[.int .u64 2] w fun e w' => e = .returned (.int .i64 1) ∧ w' = w := tz64c 2 1 1 w (by decide) (by decide +kernel) (by decide) (by decide) (h 1 (by decide))
theorem tz_2 (w : World) (h : Tz w) : Calls Tryd.prog 48 #[.int .u64 4] w fun e w' => e = .returned (.int .i64 2) ∧ w' = w := tz64c 4 2 3 w (by decide) (by decide +kernel) (by decide) (by decide) (h 2 (by decide))
theorem tz_3 (w : World) (h : Tz w) : Calls Tryd.prog 48 #[.int .u64 8] w fun e w' => e = .returned (.int .i64 3) ∧ w' = w := tz64c 8 3 7 w (by decide) (by decide +kernel) (by decide) (by decide) (h 3 (by decide))
theorem tz_4 (w : World) (h : Tz w) : Calls Tryd.prog 48 #[.int .u64 16] w fun e w' => e = .returned (.int .i64 4) ∧ w' = w := tz64c 16 4 15 w (by decide) (by decide +kernel) (by decide) (by decide) (h 4 (by decide))
theorem tz_5 (w : World) (h : Tz w) : Calls Tryd.prog 48 #[.int .u64 32] w fun e w' => e = .returned (.int .i64 5) ∧ w' = w := tz64c 32 5 31 w (by decide) (by decide +kernel) (by decide) (by decide) (h 5 (by decide))
/-- A digit; the digits of a number in a base. -/
def dgt (d : Nat) : UInt8 := if d < 10 then UInt8.ofNat (48 + d) else UInt8.ofNat (87 + d)
def rad (r n : Nat) : List UInt8 := if h : n < r ∨ r < 2 then [dgt n] else rad r (n / r) ++ [dgt (n % r)]
termination_by n
decreasing_by exact Nat.div_lt_self (by omega) (by omega)
theorem rad_lo {r n : Nat} (h : n < r) : rad r n = [dgt n] := by rw [rad, dif_pos (Or.inl h)]
theorem rad_hi {r n : Nat} (h : r ≤ n) (hr : 2 ≤ r) : rad r n = rad r (n / r) ++ [dgt (n % r)] := by rw [rad, dif_neg (by omega)]
/-- A row of 65 bytes, and what it holds from a place on. -/
def bytesRow (G : Nat → UInt8) : List Value := row 65 fun j => .int .u8 (G j).toNat
def lst (G : Nat → UInt8) (i : Nat) : List UInt8 := (List.range (65 - i)).map fun j => G (i + j)
theorem lst_step (G : Nat → UInt8) (i : Nat) (b : UInt8) (hi : i < 65) : lst (fun j => if j = i then b else G j) i = b :: lst G (i + 1) := by
  obtain ⟨m, hm⟩ : ∃ m, 65 - i = m + 1 := ⟨64 - i, by omega⟩
  have e2 : 65 - (i + 1) = m := by omega
  unfold lst
  rw [hm, e2, List.range_succ_eq_map, List.map_cons, List.map_map]
  congr 1
  · simp
  · apply List.map_congr_left
    intro j _
    simp only [Function.comp]
    rw [if_neg (by omega), show i + Nat.succ j = i + 1 + j by omega]
theorem digit_run (d : Nat) (h : d < 36) (w : World) : (Instr.index 9 (.string ⟨#[48, 49, 50, 51, 52, 53, 54, 55, 56, 57, 97, 98, 99, 100, 101, 102, 103, 104, 105, 106, 107, 108, 109, 110, 111, 112, 113, 114, 115, 116, 117, 118, 119, 120, 121, 122]⟩) (.int .u64 d)).run Tryd.prog w = .ok (.int .u8 ((dgt d).toNat : Int)) w := by
  rw [run_index_string w 9 _ .u64 _ rfl, dif_pos ⟨by omega, by show (d : Int) < 36; omega⟩]
  have e : ((d : Int)).toNat = d := by omega
  simp only [e]
  have : ∀ d : Fin 36, (⟨#[48, 49, 50, 51, 52, 53, 54, 55, 56, 57, 97, 98, 99, 100, 101, 102, 103, 104, 105, 106, 107, 108, 109, 110, 111, 112, 113, 114, 115, 116, 117, 118, 119, 120, 121, 122]⟩ : ByteArray)[d.val]'(by have := d.isLt; exact this) = dgt d.val := by decide +kernel
  rw [this ⟨d, h⟩]
theorem set_bytes {W : World} {Z : Nat} {G : Nat → UInt8} (h : Blk W Z 63 (bytesRow G)) (i : Nat) (b : UInt8) : Blk (W.setCell ⟨Z, i, none⟩ (.int .u8 (b.toNat : Int))) Z 63 (bytesRow fun j => if j = i then b else G j) := by
  have h2 := h.set_ i (.int .u8 (b.toNat : Int))
  unfold bytesRow at h2 ⊢
  rw [row_set] at h2
  have e : (row 65 fun j => Value.int .u8 (((if j = i then b else G j) : UInt8).toNat : Int)) = row 65 fun j => if j = i then Value.int .u8 (b.toNat : Int) else Value.int .u8 ((G j).toNat : Int) := row_congr _ _ _ fun j _ => by by_cases hj : j = i <;> simp [hj]
  rw [e]
  exact h2
theorem slice_run (j Z : Nat) (x : Int) (hx : x = (j : Int)) (hj : j < 65) (W : World) : (Instr.sliceAt 63 (.pointer (some ⟨Z, 0, none⟩)) (some (.int .i64 x)) none none).run Tryd.prog W = .ok (.slice (some ⟨Z, j, none⟩) (65 - j) (65 - j)) W := by
  subst hx
  have hal : Tryd.prog.arrayLen 63 = 65 := by rfl
  rw [run_sliceAt_array_l W 63 ⟨Z, 0, none⟩ (by rfl) .i64 (j : Int) (by omega) (by rw [hal]; omega), hal]
  go_simp
  omega
theorem text_run (G : Nat → UInt8) (j Z : Nat) (W : World) (hL : Blk W Z 63 (bytesRow G)) (hj : j ≤ 65) : (convert 43 9 (.slice (some ⟨Z, j, none⟩) (65 - j) (65 - j))).run Tryd.prog W = .ok (.string ⟨(lst G j).toArray⟩) W := by
  have h := run_convert_bytes_back (P := Tryd.prog) W 43 9 5 ⟨Z, j, none⟩ (65 - j) (lst G j) (by rfl) (by rfl) (by rfl) (fun k hk => by
    have hk' : k < 65 - j := by simpa [lst] using hk
    rw [add_at]
    refine hL.get _ ?_
    rw [bytesRow, row_get _ _ _ (by omega)]
    simp [lst])
  rw [show (lst G j).length = 65 - j by simp [lst]] at h
  exact h
set_option maxRecDepth 100000 in
set_option maxHeartbeats 4000000 in
theorem formatBits_any (r : Nat) (U : Nat) (w : World) (h2 : 2 ≤ r) (h36 : r ≤ 36) (h10 : r ≠ 10) (hp : (bits .and .i64 (r : Int) ((r : Int) - 1) == 0) = false) (hU : U < 9223372036854775808) :
    Calls Tryd.prog 26 #[.slice none 0 0, .int .u64 U, .int .i64 r, .bool false, .bool false] w fun e w' => Below w.heap.size w w' ∧ e = .returned (.tuple #[.slice none 0 0, .string ⟨(rad r U).toArray⟩]) := by
  have h10' : ((r : Int) == 10) = false := by simp; omega
  have HIP := Lib.hid (fun w => isPow r w (by omega) (by omega))
  have hz63 : ∀ W, (zeroValue 63).run Tryd.prog W = .ok (.agg (bytesRow fun _ => 0).toArray) W := fun W => by rfl
  go_enter Tryd.func26, Tryd.ntmps26
  go_wp2_with (go_at_call 39; refine (HIP.out _).mono ?_; rintro e w' ⟨rfl, rfl⟩)
  generalize hZ : w.heap.size = Z
  have hbw : Below Z w (w.alloc (Obj.cells (bytesRow fun x => 0).toArray 63)) := by rw [← hZ]; exact below_at (Below.refl _ _) _
  have hbl : Blk (w.alloc (Obj.cells (bytesRow fun x => 0).toArray 63)) Z 63 (bytesRow fun _ => 0) := by rw [← hZ]; exact Blk.new w 63 _
  have HBW := Lib.hid hbw
  have HBL := Lib.hid hbl
  clear hbw hbl
  go_loopw [1, 13] (fun uv iv wr => ∃ (u i : Nat) (G : Nat → UInt8), uv = .int .u64 u ∧ iv = .int .i64 i ∧ (2 ≤ i ∧ i ≤ 65 ∧ u ≤ U) ∧ Hid (u < 2 ^ (i - 1)) ∧ Hid (rad r U = rad r u ++ lst G i) ∧ Hid (Below Z w wr) ∧ Hid (Blk wr Z 63 (bytesRow G))) (fun uv _ _ => (intOf uv).toNat)
  case atStart => exact ⟨U, 65, fun _ => 0, rfl, rfl, ⟨by omega, by omega, by omega⟩, Lib.hid (by omega), Lib.hid (by simp [lst]), HBW, HBL⟩
  case round =>
    obtain ⟨u, i, G, rfl, rfl, ⟨hi2, hi65, huU⟩, HU, HR, HB, HL⟩ := hrel
    by_cases hlt : r ≤ u
    · obtain ⟨q, hq⟩ : ∃ q, q = u / r := ⟨_, rfl⟩
      obtain ⟨d, hd⟩ : ∃ d, d = u % r := ⟨_, rfl⟩
      have e0 : q * r + d = u := by rw [hq, hd]; exact Nat.div_add_mod' u r
      have hd36 : d < 36 := by rw [hd]; have := Nat.mod_lt u (show 0 < r by omega); omega
      have hqu : q < u := by rw [hq]; exact Nat.div_lt_self (by omega) (by omega)
      have hqr : q * r ≤ u := by omega
      have wq : IntKind.u64.wrap ((u : Int) / (r : Int)) = (q : Int) := by rw [IntKind.wrap_u64, hq]; have : (u : Int) / (r : Int) = ((u / r : Nat) : Int) := by simp
                                                                           rw [this, ← hq]; omega
      have wd : IntKind.u64.wrap ((u : Int) - IntKind.u64.wrap ((q : Int) * (r : Int))) = (d : Int) := by
        rw [show (q : Int) * (r : Int) = ((q * r : Nat) : Int) by simp, IntKind.wrap_u64, IntKind.wrap_u64]; omega
      have hX := digit_run d hd36
      have hc : wr.cell? ⟨Z, i - 1, none⟩ = some (.int .u8 (G (i - 1)).toNat) := HL.out.get _ (row_get _ _ _ (by omega))
      have hf : wr.frozen? ⟨Z, i - 1, none⟩ = false := HL.out.frozen _
      have HE := Lib.hid (show rad r u = rad r q ++ [dgt d] by rw [hq, hd]; exact rad_hi hlt h2)
      have HQ := Lib.hid (show q * r ≤ u from hqr)
      clear hq hd e0 hqr
      go_wp2_with fail
      go_roundw
      case rel =>
        have hu := HU.out
        have hqr := HQ.out
        have hi3 : 3 ≤ i := by
          rcases Nat.lt_or_ge i 3 with h | h
          · have : i = 2 := by omega
            subst this
            omega
          · exact h
        have h22 : q * 2 ≤ q * r := Nat.mul_le_mul_left q h2
        refine ⟨q, i - 1, fun j => if j = i - 1 then dgt d else G j, rfl, val_int (by omega), ⟨by omega, by omega, by omega⟩, Lib.hid ?_, Lib.hid ?_, Lib.hid (HB.out.setCell (Nat.le_refl _) _), Lib.hid ?_⟩
        · have e1 : 2 ^ (i - 1 - 1 + 1) = 2 ^ (i - 1 - 1) * 2 := Nat.pow_succ 2 (i - 1 - 1)
          rw [show i - 1 - 1 + 1 = i - 1 by omega] at e1
          omega
        · rw [HR.out, HE.out, List.append_assoc, lst_step _ _ _ (by omega), show i - 1 + 1 = i by omega]; rfl
        · exact set_bytes HL.out (i - 1) (dgt d)
      case measure => simp [intOf]; omega
    · have hu36 : u < 36 := by omega
      have hX := digit_run u hu36
      have hc : wr.cell? ⟨Z, i - 1, none⟩ = some (.int .u8 (G (i - 1)).toNat) := HL.out.get _ (row_get _ _ _ (by omega))
      have hf : wr.frozen? ⟨Z, i - 1, none⟩ = false := HL.out.frozen _
      have HE := Lib.hid (rad_lo (r := r) (n := u) (by omega))
      have hsl := slice_run (i - 1) Z ((i : Int) - 1) (by omega) (by omega)
      have hL2 := set_bytes HL.out (i - 1) (dgt u)
      have hcv := text_run _ (i - 1) Z _ hL2 (by omega)
      rw [lst_step _ _ _ (by omega), show i - 1 + 1 = i by omega] at hcv
      clear hL2
      go_wp2_with fail
      go_returns
      exact ⟨HB.out.setCell (Nat.le_refl _) _, by rw [HR.out, HE.out]; rfl⟩
set_option maxRecDepth 100000 in
set_option maxHeartbeats 4000000 in
theorem formatBits_anyN (r : Nat) (U : Nat) (X : Int) (w : World) (h2 : 2 ≤ r) (h36 : r ≤ 36) (h10 : r ≠ 10) (hp : (bits .and .i64 (r : Int) ((r : Int) - 1) == 0) = false) (hU : U < 9223372036854775809) (hX : IntKind.u64.wrap (-X) = (U : Int)) :
    Calls Tryd.prog 26 #[.slice none 0 0, .int .u64 X, .int .i64 r, .bool true, .bool false] w fun e w' => Below w.heap.size w w' ∧ e = .returned (.tuple #[.slice none 0 0, .string ⟨(45 :: rad r U).toArray⟩]) := by
  have h10' : ((r : Int) == 10) = false := by simp; omega
  have HIP := Lib.hid (fun w => isPow r w (by omega) (by omega))
  have hz63 : ∀ W, (zeroValue 63).run Tryd.prog W = .ok (.agg (bytesRow fun _ => 0).toArray) W := fun W => by rfl
  go_enter Tryd.func26, Tryd.ntmps26
  go_wp2_with (go_at_call 39; refine (HIP.out _).mono ?_; rintro e w' ⟨rfl, rfl⟩)
  generalize hZ : w.heap.size = Z
  have hbw : Below Z w (w.alloc (Obj.cells (bytesRow fun x => 0).toArray 63)) := by rw [← hZ]; exact below_at (Below.refl _ _) _
  have hbl : Blk (w.alloc (Obj.cells (bytesRow fun x => 0).toArray 63)) Z 63 (bytesRow fun _ => 0) := by rw [← hZ]; exact Blk.new w 63 _
  have HBW := Lib.hid hbw
  have HBL := Lib.hid hbl
  clear hbw hbl
  go_loopw [1, 13] (fun uv iv wr => ∃ (u i : Nat) (G : Nat → UInt8), uv = .int .u64 u ∧ iv = .int .i64 i ∧ (2 ≤ i ∧ i ≤ 65 ∧ u ≤ U) ∧ Hid (u < 2 ^ (i - 1)) ∧ Hid (rad r U = rad r u ++ lst G i) ∧ Hid (Below Z w wr) ∧ Hid (Blk wr Z 63 (bytesRow G))) (fun uv _ _ => (intOf uv).toNat)
  case atStart => exact ⟨U, 65, fun _ => 0, rfl, rfl, ⟨by omega, by omega, by omega⟩, Lib.hid (by omega), Lib.hid (by simp [lst]), HBW, HBL⟩
  case round =>
    obtain ⟨u, i, G, rfl, rfl, ⟨hi2, hi65, huU⟩, HU, HR, HB, HL⟩ := hrel
    by_cases hlt : r ≤ u
    · obtain ⟨q, hq⟩ : ∃ q, q = u / r := ⟨_, rfl⟩
      obtain ⟨d, hd⟩ : ∃ d, d = u % r := ⟨_, rfl⟩
      have e0 : q * r + d = u := by rw [hq, hd]; exact Nat.div_add_mod' u r
      have hd36 : d < 36 := by rw [hd]; have := Nat.mod_lt u (show 0 < r by omega); omega
      have hqu : q < u := by rw [hq]; exact Nat.div_lt_self (by omega) (by omega)
      have hqr : q * r ≤ u := by omega
      have wq : IntKind.u64.wrap ((u : Int) / (r : Int)) = (q : Int) := by rw [IntKind.wrap_u64, hq]; have : (u : Int) / (r : Int) = ((u / r : Nat) : Int) := by simp
                                                                           rw [this, ← hq]; omega
      have wd : IntKind.u64.wrap ((u : Int) - IntKind.u64.wrap ((q : Int) * (r : Int))) = (d : Int) := by
        rw [show (q : Int) * (r : Int) = ((q * r : Nat) : Int) by simp, IntKind.wrap_u64, IntKind.wrap_u64]; omega
      have hX' := digit_run d hd36
      have hc : wr.cell? ⟨Z, i - 1, none⟩ = some (.int .u8 (G (i - 1)).toNat) := HL.out.get _ (row_get _ _ _ (by omega))
      have hf : wr.frozen? ⟨Z, i - 1, none⟩ = false := HL.out.frozen _
      have HE := Lib.hid (show rad r u = rad r q ++ [dgt d] by rw [hq, hd]; exact rad_hi hlt h2)
      have HQ := Lib.hid (show q * r ≤ u from hqr)
      clear hq hd e0 hqr
      go_wp2_with fail
      go_roundw
      case rel =>
        have hu := HU.out
        have hqr := HQ.out
        have hi3 : 3 ≤ i := by
          rcases Nat.lt_or_ge i 3 with h | h
          · have : i = 2 := by omega
            subst this
            omega
          · exact h
        have h22 : q * 2 ≤ q * r := Nat.mul_le_mul_left q h2
        refine ⟨q, i - 1, fun j => if j = i - 1 then dgt d else G j, rfl, val_int (by omega), ⟨by omega, by omega, by omega⟩, Lib.hid ?_, Lib.hid ?_, Lib.hid (HB.out.setCell (Nat.le_refl _) _), Lib.hid ?_⟩
        · have e1 : 2 ^ (i - 1 - 1 + 1) = 2 ^ (i - 1 - 1) * 2 := Nat.pow_succ 2 (i - 1 - 1)
          rw [show i - 1 - 1 + 1 = i - 1 by omega] at e1
          omega
        · rw [HR.out, HE.out, List.append_assoc, lst_step _ _ _ (by omega), show i - 1 + 1 = i by omega]; rfl
        · exact set_bytes HL.out (i - 1) (dgt d)
      case measure => simp [intOf]; omega
    · have hu36 : u < 36 := by omega
      have hX' := digit_run u hu36
      have hc : wr.cell? ⟨Z, i - 1, none⟩ = some (.int .u8 (G (i - 1)).toNat) := HL.out.get _ (row_get _ _ _ (by omega))
      have hf : wr.frozen? ⟨Z, i - 1, none⟩ = false := HL.out.frozen _
      have HE := Lib.hid (rad_lo (r := r) (n := u) (by omega))
      have hsl := slice_run (i - 1 - 1) Z ((i : Int) - 1 - 1) (by omega) (by omega)
      have hL1 := set_bytes HL.out (i - 1) (dgt u)
      have hL2 : Blk ((wr.setCell ⟨Z, i - 1, none⟩ (.int .u8 ((dgt u).toNat : Int))).setCell ⟨Z, i - 1 - 1, none⟩ (.int .u8 45)) Z 63 _ := set_bytes hL1 (i - 1 - 1) 45
      have hcv := text_run _ (i - 1 - 1) Z _ hL2 (by omega)
      rw [lst_step _ _ _ (by omega), show i - 1 - 1 + 1 = i - 1 by omega, lst_step _ _ _ (by omega), show i - 1 + 1 = i by omega] at hcv
      have hc2 : (wr.setCell ⟨Z, i - 1, none⟩ (.int .u8 ((dgt u).toNat : Int))).cell? ⟨Z, i - 1 - 1, none⟩ = some (.int .u8 (G (i - 1 - 1)).toNat) := by
        have h := hL1.get (i - 1 - 1) (row_get 65 _ _ (by omega))
        simp only [show ¬ i - 1 - 1 = i - 1 by omega, if_false] at h
        exact h
      have hf2 : (wr.setCell ⟨Z, i - 1, none⟩ (.int .u8 ((dgt u).toNat : Int))).frozen? ⟨Z, i - 1 - 1, none⟩ = false := hL1.frozen _
      clear hL2 hL1
      go_wp2_with fail
      go_returns
      exact ⟨(HB.out.setCell (Nat.le_refl _) _).setCell (Nat.le_refl _) _, by rw [HR.out, HE.out]; rfl⟩
theorem tz40c (x k : Nat) (w : World) (h : Calls Tryd.prog 48 #[.int .u64 x] w fun e w' => e = .returned (.int .i64 k) ∧ w' = w) : Calls Tryd.prog 40 #[.int .u64 x] w fun e w' => e = .returned (.int .i64 k) ∧ w' = w := by
  have H := Lib.hid h
  clear h
  go_enter Tryd.func40, Tryd.ntmps40
  go_wp2_with (go_at_call 48; refine H.out.mono ?_; rintro e w' ⟨rfl, rfl⟩)
  go_returns
  exact ⟨rfl, rfl⟩
theorem tzs_1 (w : World) (h : Tz w) : Calls Tryd.prog 40 #[.int .u64 2] w fun e w' => e = .returned (.int .i64 1) ∧ w' = w := tz40c 2 1 w (tz_1 w h)
theorem and_low1 (x : Nat) (h : x < 18446744073709551616) : bits .and .u64 (x : Int) 1 = ((x % 2 : Nat) : Int) := by
  have h1 := u64_and_nat x 1 h (by omega)
  rw [show ((1 : Nat) : Int) = 1 from rfl] at h1
  rw [h1, show 1 = 2 ^ 1 - 1 by decide, Nat.and_two_pow_sub_one_eq_mod]
theorem tzs_2 (w : World) (h : Tz w) : Calls Tryd.prog 40 #[.int .u64 4] w fun e w' => e = .returned (.int .i64 2) ∧ w' = w := tz40c 4 2 w (tz_2 w h)
theorem and_low2 (x : Nat) (h : x < 18446744073709551616) : bits .and .u64 (x : Int) 3 = ((x % 4 : Nat) : Int) := by
  have h1 := u64_and_nat x 3 h (by omega)
  rw [show ((3 : Nat) : Int) = 3 from rfl] at h1
  rw [h1, show 3 = 2 ^ 2 - 1 by decide, Nat.and_two_pow_sub_one_eq_mod]
theorem tzs_3 (w : World) (h : Tz w) : Calls Tryd.prog 40 #[.int .u64 8] w fun e w' => e = .returned (.int .i64 3) ∧ w' = w := tz40c 8 3 w (tz_3 w h)
theorem and_low3 (x : Nat) (h : x < 18446744073709551616) : bits .and .u64 (x : Int) 7 = ((x % 8 : Nat) : Int) := by
  have h1 := u64_and_nat x 7 h (by omega)
  rw [show ((7 : Nat) : Int) = 7 from rfl] at h1
  rw [h1, show 7 = 2 ^ 3 - 1 by decide, Nat.and_two_pow_sub_one_eq_mod]
theorem tzs_4 (w : World) (h : Tz w) : Calls Tryd.prog 40 #[.int .u64 16] w fun e w' => e = .returned (.int .i64 4) ∧ w' = w := tz40c 16 4 w (tz_4 w h)
theorem and_low4 (x : Nat) (h : x < 18446744073709551616) : bits .and .u64 (x : Int) 15 = ((x % 16 : Nat) : Int) := by
  have h1 := u64_and_nat x 15 h (by omega)
  rw [show ((15 : Nat) : Int) = 15 from rfl] at h1
  rw [h1, show 15 = 2 ^ 4 - 1 by decide, Nat.and_two_pow_sub_one_eq_mod]
theorem tzs_5 (w : World) (h : Tz w) : Calls Tryd.prog 40 #[.int .u64 32] w fun e w' => e = .returned (.int .i64 5) ∧ w' = w := tz40c 32 5 w (tz_5 w h)
theorem and_low5 (x : Nat) (h : x < 18446744073709551616) : bits .and .u64 (x : Int) 31 = ((x % 32 : Nat) : Int) := by
  have h1 := u64_and_nat x 31 h (by omega)
  rw [show ((31 : Nat) : Int) = 31 from rfl] at h1
  rw [h1, show 31 = 2 ^ 5 - 1 by decide, Nat.and_two_pow_sub_one_eq_mod]
set_option maxRecDepth 100000 in
set_option maxHeartbeats 4000000 in
theorem formatBits_p1 (U : Nat) (w : World) (hT : Tz w) (h3 : 3 < w.heap.size) (hU : U < 9223372036854775808) :
    Calls Tryd.prog 26 #[.slice none 0 0, .int .u64 U, .int .i64 2, .bool false, .bool false] w fun e w' => Below w.heap.size w w' ∧ e = .returned (.tuple #[.slice none 0 0, .string ⟨(rad 2 U).toArray⟩]) := by
  have HIP := Lib.hid (fun w => isPow 2 w (by omega) (by omega))
  have hpp : (bits .and .i64 (2 : Int) ((2 : Int) - 1) == 0) = true := by decide +kernel
  have HPP := Lib.hid hpp
  have HTZ := Lib.hid (fun W (hb : Below w.heap.size w W) => tzs_1 W (hT.below hb h3))
  have hz63 : ∀ W, (zeroValue 63).run Tryd.prog W = .ok (.agg (bytesRow fun _ => 0).toArray) W := fun W => by rfl
  clear hpp hT
  go_enter Tryd.func26, Tryd.ntmps26
  go_wp2_with (first
    | (go_at_call 39; refine (HIP.out _).mono ?_; rintro e w' ⟨rfl, rfl⟩; rw [HPP.out])
    | (go_at_call 40; refine (HTZ.out _ (below_at (Below.refl _ _) _)).mono ?_; rintro e w' ⟨rfl, rfl⟩))
  generalize hZ : w.heap.size = Z
  have hbw : Below Z w (w.alloc (Obj.cells (bytesRow fun x => 0).toArray 63)) := by rw [← hZ]; exact below_at (Below.refl _ _) _
  have hbl : Blk (w.alloc (Obj.cells (bytesRow fun x => 0).toArray 63)) Z 63 (bytesRow fun _ => 0) := by rw [← hZ]; exact Blk.new w 63 _
  have HBW := Lib.hid hbw
  have HBL := Lib.hid hbl
  clear hbw hbl
  go_loopw [1, 13] (fun uv iv wr => ∃ (u i : Nat) (G : Nat → UInt8), uv = .int .u64 u ∧ iv = .int .i64 i ∧ (2 ≤ i ∧ i ≤ 65 ∧ u ≤ U) ∧ Hid (u < 2 ^ (i - 1)) ∧ Hid (rad 2 U = rad 2 u ++ lst G i) ∧ Hid (Below Z w wr) ∧ Hid (Blk wr Z 63 (bytesRow G))) (fun uv _ _ => (intOf uv).toNat)
  case atStart => exact ⟨U, 65, fun _ => 0, rfl, rfl, ⟨by omega, by omega, by omega⟩, Lib.hid (by omega), Lib.hid (by simp [lst]), HBW, HBL⟩
  case round =>
    obtain ⟨u, i, G, rfl, rfl, ⟨hi2, hi65, huU⟩, HU, HR, HB, HL⟩ := hrel
    by_cases hlt : 2 ≤ u
    · obtain ⟨q, hq⟩ : ∃ q, q = u / 2 := ⟨_, rfl⟩
      obtain ⟨d, hd⟩ : ∃ d, d = u % 2 := ⟨_, rfl⟩
      have e0 : q * 2 + d = u := by rw [hq, hd]; exact Nat.div_add_mod' u 2
      have hd36 : d < 36 := by omega
      have hqu : q < u := by omega
      have wq : (u : Int) / 2 = (q : Int) := by omega
      have wd : bits .and .u64 (u : Int) 1 = (d : Int) := by rw [and_low1 u (by omega), hd]
      have hX' := digit_run d hd36
      have hc : wr.cell? ⟨Z, i - 1, none⟩ = some (.int .u8 (G (i - 1)).toNat) := HL.out.get _ (row_get _ _ _ (by omega))
      have hf : wr.frozen? ⟨Z, i - 1, none⟩ = false := HL.out.frozen _
      have HE := Lib.hid (show rad 2 u = rad 2 q ++ [dgt d] by rw [hq, hd]; exact rad_hi hlt (by omega))
      have HQ := Lib.hid (show q * 2 ≤ u by omega)
      clear hq hd e0
      go_wp2_with fail
      go_roundw
      case rel =>
        have hu := HU.out
        have hqr := HQ.out
        have hi3 : 3 ≤ i := by
          rcases Nat.lt_or_ge i 3 with h | h
          · have : i = 2 := by omega
            subst this
            omega
          · exact h
        refine ⟨q, i - 1, fun j => if j = i - 1 then dgt d else G j, rfl, val_int (by omega), ⟨by omega, by omega, by omega⟩, Lib.hid ?_, Lib.hid ?_, Lib.hid (HB.out.setCell (Nat.le_refl _) _), Lib.hid ?_⟩
        · have e1 : 2 ^ (i - 1 - 1 + 1) = 2 ^ (i - 1 - 1) * 2 := Nat.pow_succ 2 (i - 1 - 1)
          rw [show i - 1 - 1 + 1 = i - 1 by omega] at e1
          omega
        · rw [HR.out, HE.out, List.append_assoc, lst_step _ _ _ (by omega), show i - 1 + 1 = i by omega]; rfl
        · exact set_bytes HL.out (i - 1) (dgt d)
      case measure => simp [intOf]; omega
    · have hu36 : u < 36 := by omega
      have hX' := digit_run u hu36
      have hc : wr.cell? ⟨Z, i - 1, none⟩ = some (.int .u8 (G (i - 1)).toNat) := HL.out.get _ (row_get _ _ _ (by omega))
      have hf : wr.frozen? ⟨Z, i - 1, none⟩ = false := HL.out.frozen _
      have HE := Lib.hid (rad_lo (r := 2) (n := u) (by omega))
      have hsl := slice_run (i - 1) Z ((i : Int) - 1) (by omega) (by omega)
      have hL2 := set_bytes HL.out (i - 1) (dgt u)
      have hcv := text_run _ (i - 1) Z _ hL2 (by omega)
      rw [lst_step _ _ _ (by omega), show i - 1 + 1 = i by omega] at hcv
      clear hL2
      go_wp2_with fail
      go_returns
      exact ⟨HB.out.setCell (Nat.le_refl _) _, by rw [HR.out, HE.out]; rfl⟩
set_option maxRecDepth 100000 in
set_option maxHeartbeats 4000000 in
theorem formatBits_p1N (U : Nat) (X : Int) (w : World) (hT : Tz w) (h3 : 3 < w.heap.size) (hU : U < 9223372036854775809) (hX : IntKind.u64.wrap (-X) = (U : Int)) :
    Calls Tryd.prog 26 #[.slice none 0 0, .int .u64 X, .int .i64 2, .bool true, .bool false] w fun e w' => Below w.heap.size w w' ∧ e = .returned (.tuple #[.slice none 0 0, .string ⟨(45 :: rad 2 U).toArray⟩]) := by
  have HIP := Lib.hid (fun w => isPow 2 w (by omega) (by omega))
  have hpp : (bits .and .i64 (2 : Int) ((2 : Int) - 1) == 0) = true := by decide +kernel
  have HPP := Lib.hid hpp
  have HTZ := Lib.hid (fun W (hb : Below w.heap.size w W) => tzs_1 W (hT.below hb h3))
  have hz63 : ∀ W, (zeroValue 63).run Tryd.prog W = .ok (.agg (bytesRow fun _ => 0).toArray) W := fun W => by rfl
  clear hpp hT
  go_enter Tryd.func26, Tryd.ntmps26
  go_wp2_with (first
    | (go_at_call 39; refine (HIP.out _).mono ?_; rintro e w' ⟨rfl, rfl⟩; rw [HPP.out])
    | (go_at_call 40; refine (HTZ.out _ (below_at (Below.refl _ _) _)).mono ?_; rintro e w' ⟨rfl, rfl⟩))
  generalize hZ : w.heap.size = Z
  have hbw : Below Z w (w.alloc (Obj.cells (bytesRow fun x => 0).toArray 63)) := by rw [← hZ]; exact below_at (Below.refl _ _) _
  have hbl : Blk (w.alloc (Obj.cells (bytesRow fun x => 0).toArray 63)) Z 63 (bytesRow fun _ => 0) := by rw [← hZ]; exact Blk.new w 63 _
  have HBW := Lib.hid hbw
  have HBL := Lib.hid hbl
  clear hbw hbl
  go_loopw [1, 13] (fun uv iv wr => ∃ (u i : Nat) (G : Nat → UInt8), uv = .int .u64 u ∧ iv = .int .i64 i ∧ (2 ≤ i ∧ i ≤ 65 ∧ u ≤ U) ∧ Hid (u < 2 ^ (i - 1)) ∧ Hid (rad 2 U = rad 2 u ++ lst G i) ∧ Hid (Below Z w wr) ∧ Hid (Blk wr Z 63 (bytesRow G))) (fun uv _ _ => (intOf uv).toNat)
  case atStart => exact ⟨U, 65, fun _ => 0, rfl, rfl, ⟨by omega, by omega, by omega⟩, Lib.hid (by omega), Lib.hid (by simp [lst]), HBW, HBL⟩
  case round =>
    obtain ⟨u, i, G, rfl, rfl, ⟨hi2, hi65, huU⟩, HU, HR, HB, HL⟩ := hrel
    by_cases hlt : 2 ≤ u
    · obtain ⟨q, hq⟩ : ∃ q, q = u / 2 := ⟨_, rfl⟩
      obtain ⟨d, hd⟩ : ∃ d, d = u % 2 := ⟨_, rfl⟩
      have e0 : q * 2 + d = u := by rw [hq, hd]; exact Nat.div_add_mod' u 2
      have hd36 : d < 36 := by omega
      have hqu : q < u := by omega
      have wq : (u : Int) / 2 = (q : Int) := by omega
      have wd : bits .and .u64 (u : Int) 1 = (d : Int) := by rw [and_low1 u (by omega), hd]
      have hX' := digit_run d hd36
      have hc : wr.cell? ⟨Z, i - 1, none⟩ = some (.int .u8 (G (i - 1)).toNat) := HL.out.get _ (row_get _ _ _ (by omega))
      have hf : wr.frozen? ⟨Z, i - 1, none⟩ = false := HL.out.frozen _
      have HE := Lib.hid (show rad 2 u = rad 2 q ++ [dgt d] by rw [hq, hd]; exact rad_hi hlt (by omega))
      have HQ := Lib.hid (show q * 2 ≤ u by omega)
      clear hq hd e0
      go_wp2_with fail
      go_roundw
      case rel =>
        have hu := HU.out
        have hqr := HQ.out
        have hi3 : 3 ≤ i := by
          rcases Nat.lt_or_ge i 3 with h | h
          · have : i = 2 := by omega
            subst this
            omega
          · exact h
        refine ⟨q, i - 1, fun j => if j = i - 1 then dgt d else G j, rfl, val_int (by omega), ⟨by omega, by omega, by omega⟩, Lib.hid ?_, Lib.hid ?_, Lib.hid (HB.out.setCell (Nat.le_refl _) _), Lib.hid ?_⟩
        · have e1 : 2 ^ (i - 1 - 1 + 1) = 2 ^ (i - 1 - 1) * 2 := Nat.pow_succ 2 (i - 1 - 1)
          rw [show i - 1 - 1 + 1 = i - 1 by omega] at e1
          omega
        · rw [HR.out, HE.out, List.append_assoc, lst_step _ _ _ (by omega), show i - 1 + 1 = i by omega]; rfl
        · exact set_bytes HL.out (i - 1) (dgt d)
      case measure => simp [intOf]; omega
    · have hu36 : u < 36 := by omega
      have hX' := digit_run u hu36
      have hc : wr.cell? ⟨Z, i - 1, none⟩ = some (.int .u8 (G (i - 1)).toNat) := HL.out.get _ (row_get _ _ _ (by omega))
      have hf : wr.frozen? ⟨Z, i - 1, none⟩ = false := HL.out.frozen _
      have HE := Lib.hid (rad_lo (r := 2) (n := u) (by omega))
      have hsl := slice_run (i - 1 - 1) Z ((i : Int) - 1 - 1) (by omega) (by omega)
      have hL1 := set_bytes HL.out (i - 1) (dgt u)
      have hL2 : Blk ((wr.setCell ⟨Z, i - 1, none⟩ (.int .u8 ((dgt u).toNat : Int))).setCell ⟨Z, i - 1 - 1, none⟩ (.int .u8 45)) Z 63 _ := set_bytes hL1 (i - 1 - 1) 45
      have hcv := text_run _ (i - 1 - 1) Z _ hL2 (by omega)
      rw [lst_step _ _ _ (by omega), show i - 1 - 1 + 1 = i - 1 by omega, lst_step _ _ _ (by omega), show i - 1 + 1 = i by omega] at hcv
      have hc2 : (wr.setCell ⟨Z, i - 1, none⟩ (.int .u8 ((dgt u).toNat : Int))).cell? ⟨Z, i - 1 - 1, none⟩ = some (.int .u8 (G (i - 1 - 1)).toNat) := by
        have h := hL1.get (i - 1 - 1) (row_get 65 _ _ (by omega))
        simp only [show ¬ i - 1 - 1 = i - 1 by omega, if_false] at h
        exact h
      have hf2 : (wr.setCell ⟨Z, i - 1, none⟩ (.int .u8 ((dgt u).toNat : Int))).frozen? ⟨Z, i - 1 - 1, none⟩ = false := hL1.frozen _
      clear hL2 hL1
      go_wp2_with fail
      go_returns
      exact ⟨(HB.out.setCell (Nat.le_refl _) _).setCell (Nat.le_refl _) _, by rw [HR.out, HE.out]; rfl⟩
set_option maxRecDepth 100000 in
set_option maxHeartbeats 4000000 in
theorem formatBits_p2 (U : Nat) (w : World) (hT : Tz w) (h3 : 3 < w.heap.size) (hU : U < 9223372036854775808) :
    Calls Tryd.prog 26 #[.slice none 0 0, .int .u64 U, .int .i64 4, .bool false, .bool false] w fun e w' => Below w.heap.size w w' ∧ e = .returned (.tuple #[.slice none 0 0, .string ⟨(rad 4 U).toArray⟩]) := by
  have HIP := Lib.hid (fun w => isPow 4 w (by omega) (by omega))
  have hpp : (bits .and .i64 (4 : Int) ((4 : Int) - 1) == 0) = true := by decide +kernel
  have HPP := Lib.hid hpp
  have HTZ := Lib.hid (fun W (hb : Below w.heap.size w W) => tzs_2 W (hT.below hb h3))
  have hz63 : ∀ W, (zeroValue 63).run Tryd.prog W = .ok (.agg (bytesRow fun _ => 0).toArray) W := fun W => by rfl
  clear hpp hT
  go_enter Tryd.func26, Tryd.ntmps26
  go_wp2_with (first
    | (go_at_call 39; refine (HIP.out _).mono ?_; rintro e w' ⟨rfl, rfl⟩; rw [HPP.out])
    | (go_at_call 40; refine (HTZ.out _ (below_at (Below.refl _ _) _)).mono ?_; rintro e w' ⟨rfl, rfl⟩))
  generalize hZ : w.heap.size = Z
  have hbw : Below Z w (w.alloc (Obj.cells (bytesRow fun x => 0).toArray 63)) := by rw [← hZ]; exact below_at (Below.refl _ _) _
  have hbl : Blk (w.alloc (Obj.cells (bytesRow fun x => 0).toArray 63)) Z 63 (bytesRow fun _ => 0) := by rw [← hZ]; exact Blk.new w 63 _
  have HBW := Lib.hid hbw
  have HBL := Lib.hid hbl
  clear hbw hbl
  go_loopw [1, 13] (fun uv iv wr => ∃ (u i : Nat) (G : Nat → UInt8), uv = .int .u64 u ∧ iv = .int .i64 i ∧ (2 ≤ i ∧ i ≤ 65 ∧ u ≤ U) ∧ Hid (u < 2 ^ (i - 1)) ∧ Hid (rad 4 U = rad 4 u ++ lst G i) ∧ Hid (Below Z w wr) ∧ Hid (Blk wr Z 63 (bytesRow G))) (fun uv _ _ => (intOf uv).toNat)
  case atStart => exact ⟨U, 65, fun _ => 0, rfl, rfl, ⟨by omega, by omega, by omega⟩, Lib.hid (by omega), Lib.hid (by simp [lst]), HBW, HBL⟩
  case round =>
    obtain ⟨u, i, G, rfl, rfl, ⟨hi2, hi65, huU⟩, HU, HR, HB, HL⟩ := hrel
    by_cases hlt : 4 ≤ u
    · obtain ⟨q, hq⟩ : ∃ q, q = u / 4 := ⟨_, rfl⟩
      obtain ⟨d, hd⟩ : ∃ d, d = u % 4 := ⟨_, rfl⟩
      have e0 : q * 4 + d = u := by rw [hq, hd]; exact Nat.div_add_mod' u 4
      have hd36 : d < 36 := by omega
      have hqu : q < u := by omega
      have wq : (u : Int) / 4 = (q : Int) := by omega
      have wd : bits .and .u64 (u : Int) 3 = (d : Int) := by rw [and_low2 u (by omega), hd]
      have hX' := digit_run d hd36
      have hc : wr.cell? ⟨Z, i - 1, none⟩ = some (.int .u8 (G (i - 1)).toNat) := HL.out.get _ (row_get _ _ _ (by omega))
      have hf : wr.frozen? ⟨Z, i - 1, none⟩ = false := HL.out.frozen _
      have HE := Lib.hid (show rad 4 u = rad 4 q ++ [dgt d] by rw [hq, hd]; exact rad_hi hlt (by omega))
      have HQ := Lib.hid (show q * 2 ≤ u by omega)
      clear hq hd e0
      go_wp2_with fail
      go_roundw
      case rel =>
        have hu := HU.out
        have hqr := HQ.out
        have hi3 : 3 ≤ i := by
          rcases Nat.lt_or_ge i 3 with h | h
          · have : i = 2 := by omega
            subst this
            omega
          · exact h
        refine ⟨q, i - 1, fun j => if j = i - 1 then dgt d else G j, rfl, val_int (by omega), ⟨by omega, by omega, by omega⟩, Lib.hid ?_, Lib.hid ?_, Lib.hid (HB.out.setCell (Nat.le_refl _) _), Lib.hid ?_⟩
        · have e1 : 2 ^ (i - 1 - 1 + 1) = 2 ^ (i - 1 - 1) * 2 := Nat.pow_succ 2 (i - 1 - 1)
          rw [show i - 1 - 1 + 1 = i - 1 by omega] at e1
          omega
        · rw [HR.out, HE.out, List.append_assoc, lst_step _ _ _ (by omega), show i - 1 + 1 = i by omega]; rfl
        · exact set_bytes HL.out (i - 1) (dgt d)
      case measure => simp [intOf]; omega
    · have hu36 : u < 36 := by omega
      have hX' := digit_run u hu36
      have hc : wr.cell? ⟨Z, i - 1, none⟩ = some (.int .u8 (G (i - 1)).toNat) := HL.out.get _ (row_get _ _ _ (by omega))
      have hf : wr.frozen? ⟨Z, i - 1, none⟩ = false := HL.out.frozen _
      have HE := Lib.hid (rad_lo (r := 4) (n := u) (by omega))
      have hsl := slice_run (i - 1) Z ((i : Int) - 1) (by omega) (by omega)
      have hL2 := set_bytes HL.out (i - 1) (dgt u)
      have hcv := text_run _ (i - 1) Z _ hL2 (by omega)
      rw [lst_step _ _ _ (by omega), show i - 1 + 1 = i by omega] at hcv
      clear hL2
      go_wp2_with fail
      go_returns
      exact ⟨HB.out.setCell (Nat.le_refl _) _, by rw [HR.out, HE.out]; rfl⟩
set_option maxRecDepth 100000 in
set_option maxHeartbeats 4000000 in
theorem formatBits_p2N (U : Nat) (X : Int) (w : World) (hT : Tz w) (h3 : 3 < w.heap.size) (hU : U < 9223372036854775809) (hX : IntKind.u64.wrap (-X) = (U : Int)) :
    Calls Tryd.prog 26 #[.slice none 0 0, .int .u64 X, .int .i64 4, .bool true, .bool false] w fun e w' => Below w.heap.size w w' ∧ e = .returned (.tuple #[.slice none 0 0, .string ⟨(45 :: rad 4 U).toArray⟩]) := by
  have HIP := Lib.hid (fun w => isPow 4 w (by omega) (by omega))
  have hpp : (bits .and .i64 (4 : Int) ((4 : Int) - 1) == 0) = true := by decide +kernel
  have HPP := Lib.hid hpp
  have HTZ := Lib.hid (fun W (hb : Below w.heap.size w W) => tzs_2 W (hT.below hb h3))
  have hz63 : ∀ W, (zeroValue 63).run Tryd.prog W = .ok (.agg (bytesRow fun _ => 0).toArray) W := fun W => by rfl
  clear hpp hT
  go_enter Tryd.func26, Tryd.ntmps26
  go_wp2_with (first
    | (go_at_call 39; refine (HIP.out _).mono ?_; rintro e w' ⟨rfl, rfl⟩; rw [HPP.out])
    | (go_at_call 40; refine (HTZ.out _ (below_at (Below.refl _ _) _)).mono ?_; rintro e w' ⟨rfl, rfl⟩))
  generalize hZ : w.heap.size = Z
  have hbw : Below Z w (w.alloc (Obj.cells (bytesRow fun x => 0).toArray 63)) := by rw [← hZ]; exact below_at (Below.refl _ _) _
  have hbl : Blk (w.alloc (Obj.cells (bytesRow fun x => 0).toArray 63)) Z 63 (bytesRow fun _ => 0) := by rw [← hZ]; exact Blk.new w 63 _
  have HBW := Lib.hid hbw
  have HBL := Lib.hid hbl
  clear hbw hbl
  go_loopw [1, 13] (fun uv iv wr => ∃ (u i : Nat) (G : Nat → UInt8), uv = .int .u64 u ∧ iv = .int .i64 i ∧ (2 ≤ i ∧ i ≤ 65 ∧ u ≤ U) ∧ Hid (u < 2 ^ (i - 1)) ∧ Hid (rad 4 U = rad 4 u ++ lst G i) ∧ Hid (Below Z w wr) ∧ Hid (Blk wr Z 63 (bytesRow G))) (fun uv _ _ => (intOf uv).toNat)
  case atStart => exact ⟨U, 65, fun _ => 0, rfl, rfl, ⟨by omega, by omega, by omega⟩, Lib.hid (by omega), Lib.hid (by simp [lst]), HBW, HBL⟩
  case round =>
    obtain ⟨u, i, G, rfl, rfl, ⟨hi2, hi65, huU⟩, HU, HR, HB, HL⟩ := hrel
    by_cases hlt : 4 ≤ u
    · obtain ⟨q, hq⟩ : ∃ q, q = u / 4 := ⟨_, rfl⟩
      obtain ⟨d, hd⟩ : ∃ d, d = u % 4 := ⟨_, rfl⟩
      have e0 : q * 4 + d = u := by rw [hq, hd]; exact Nat.div_add_mod' u 4
      have hd36 : d < 36 := by omega
      have hqu : q < u := by omega
      have wq : (u : Int) / 4 = (q : Int) := by omega
      have wd : bits .and .u64 (u : Int) 3 = (d : Int) := by rw [and_low2 u (by omega), hd]
      have hX' := digit_run d hd36
      have hc : wr.cell? ⟨Z, i - 1, none⟩ = some (.int .u8 (G (i - 1)).toNat) := HL.out.get _ (row_get _ _ _ (by omega))
      have hf : wr.frozen? ⟨Z, i - 1, none⟩ = false := HL.out.frozen _
      have HE := Lib.hid (show rad 4 u = rad 4 q ++ [dgt d] by rw [hq, hd]; exact rad_hi hlt (by omega))
      have HQ := Lib.hid (show q * 2 ≤ u by omega)
      clear hq hd e0
      go_wp2_with fail
      go_roundw
      case rel =>
        have hu := HU.out
        have hqr := HQ.out
        have hi3 : 3 ≤ i := by
          rcases Nat.lt_or_ge i 3 with h | h
          · have : i = 2 := by omega
            subst this
            omega
          · exact h
        refine ⟨q, i - 1, fun j => if j = i - 1 then dgt d else G j, rfl, val_int (by omega), ⟨by omega, by omega, by omega⟩, Lib.hid ?_, Lib.hid ?_, Lib.hid (HB.out.setCell (Nat.le_refl _) _), Lib.hid ?_⟩
        · have e1 : 2 ^ (i - 1 - 1 + 1) = 2 ^ (i - 1 - 1) * 2 := Nat.pow_succ 2 (i - 1 - 1)
          rw [show i - 1 - 1 + 1 = i - 1 by omega] at e1
          omega
        · rw [HR.out, HE.out, List.append_assoc, lst_step _ _ _ (by omega), show i - 1 + 1 = i by omega]; rfl
        · exact set_bytes HL.out (i - 1) (dgt d)
      case measure => simp [intOf]; omega
    · have hu36 : u < 36 := by omega
      have hX' := digit_run u hu36
      have hc : wr.cell? ⟨Z, i - 1, none⟩ = some (.int .u8 (G (i - 1)).toNat) := HL.out.get _ (row_get _ _ _ (by omega))
      have hf : wr.frozen? ⟨Z, i - 1, none⟩ = false := HL.out.frozen _
      have HE := Lib.hid (rad_lo (r := 4) (n := u) (by omega))
      have hsl := slice_run (i - 1 - 1) Z ((i : Int) - 1 - 1) (by omega) (by omega)
      have hL1 := set_bytes HL.out (i - 1) (dgt u)
      have hL2 : Blk ((wr.setCell ⟨Z, i - 1, none⟩ (.int .u8 ((dgt u).toNat : Int))).setCell ⟨Z, i - 1 - 1, none⟩ (.int .u8 45)) Z 63 _ := set_bytes hL1 (i - 1 - 1) 45
      have hcv := text_run _ (i - 1 - 1) Z _ hL2 (by omega)
      rw [lst_step _ _ _ (by omega), show i - 1 - 1 + 1 = i - 1 by omega, lst_step _ _ _ (by omega), show i - 1 + 1 = i by omega] at hcv
      have hc2 : (wr.setCell ⟨Z, i - 1, none⟩ (.int .u8 ((dgt u).toNat : Int))).cell? ⟨Z, i - 1 - 1, none⟩ = some (.int .u8 (G (i - 1 - 1)).toNat) := by
        have h := hL1.get (i - 1 - 1) (row_get 65 _ _ (by omega))
        simp only [show ¬ i - 1 - 1 = i - 1 by omega, if_false] at h
        exact h
      have hf2 : (wr.setCell ⟨Z, i - 1, none⟩ (.int .u8 ((dgt u).toNat : Int))).frozen? ⟨Z, i - 1 - 1, none⟩ = false := hL1.frozen _
      clear hL2 hL1
      go_wp2_with fail
      go_returns
      exact ⟨(HB.out.setCell (Nat.le_refl _) _).setCell (Nat.le_refl _) _, by rw [HR.out, HE.out]; rfl⟩
set_option maxRecDepth 100000 in
set_option maxHeartbeats 4000000 in
theorem formatBits_p3 (U : Nat) (w : World) (hT : Tz w) (h3 : 3 < w.heap.size) (hU : U < 9223372036854775808) :
    Calls Tryd.prog 26 #[.slice none 0 0, .int .u64 U, .int .i64 8, .bool false, .bool false] w fun e w' => Below w.heap.size w w' ∧ e = .returned (.tuple #[.slice none 0 0, .string ⟨(rad 8 U).toArray⟩]) := by
  have HIP := Lib.hid (fun w => isPow 8 w (by omega) (by omega))
  have hpp : (bits .and .i64 (8 : Int) ((8 : Int) - 1) == 0) = true := by decide +kernel
  have HPP := Lib.hid hpp
  have HTZ := Lib.hid (fun W (hb : Below w.heap.size w W) => tzs_3 W (hT.below hb h3))
  have hz63 : ∀ W, (zeroValue 63).run Tryd.prog W = .ok (.agg (bytesRow fun _ => 0).toArray) W := fun W => by rfl
  clear hpp hT
  go_enter Tryd.func26, Tryd.ntmps26
  go_wp2_with (first
    | (go_at_call 39; refine (HIP.out _).mono ?_; rintro e w' ⟨rfl, rfl⟩; rw [HPP.out])
    | (go_at_call 40; refine (HTZ.out _ (below_at (Below.refl _ _) _)).mono ?_; rintro e w' ⟨rfl, rfl⟩))
  generalize hZ : w.heap.size = Z
  have hbw : Below Z w (w.alloc (Obj.cells (bytesRow fun x => 0).toArray 63)) := by rw [← hZ]; exact below_at (Below.refl _ _) _
  have hbl : Blk (w.alloc (Obj.cells (bytesRow fun x => 0).toArray 63)) Z 63 (bytesRow fun _ => 0) := by rw [← hZ]; exact Blk.new w 63 _
  have HBW := Lib.hid hbw
  have HBL := Lib.hid hbl
  clear hbw hbl
  go_loopw [1, 13] (fun uv iv wr => ∃ (u i : Nat) (G : Nat → UInt8), uv = .int .u64 u ∧ iv = .int .i64 i ∧ (2 ≤ i ∧ i ≤ 65 ∧ u ≤ U) ∧ Hid (u < 2 ^ (i - 1)) ∧ Hid (rad 8 U = rad 8 u ++ lst G i) ∧ Hid (Below Z w wr) ∧ Hid (Blk wr Z 63 (bytesRow G))) (fun uv _ _ => (intOf uv).toNat)
  case atStart => exact ⟨U, 65, fun _ => 0, rfl, rfl, ⟨by omega, by omega, by omega⟩, Lib.hid (by omega), Lib.hid (by simp [lst]), HBW, HBL⟩
  case round =>
    obtain ⟨u, i, G, rfl, rfl, ⟨hi2, hi65, huU⟩, HU, HR, HB, HL⟩ := hrel
    by_cases hlt : 8 ≤ u
    · obtain ⟨q, hq⟩ : ∃ q, q = u / 8 := ⟨_, rfl⟩
      obtain ⟨d, hd⟩ : ∃ d, d = u % 8 := ⟨_, rfl⟩
      have e0 : q * 8 + d = u := by rw [hq, hd]; exact Nat.div_add_mod' u 8
      have hd36 : d < 36 := by omega
      have hqu : q < u := by omega
      have wq : (u : Int) / 8 = (q : Int) := by omega
      have wd : bits .and .u64 (u : Int) 7 = (d : Int) := by rw [and_low3 u (by omega), hd]
      have hX' := digit_run d hd36
      have hc : wr.cell? ⟨Z, i - 1, none⟩ = some (.int .u8 (G (i - 1)).toNat) := HL.out.get _ (row_get _ _ _ (by omega))
      have hf : wr.frozen? ⟨Z, i - 1, none⟩ = false := HL.out.frozen _
      have HE := Lib.hid (show rad 8 u = rad 8 q ++ [dgt d] by rw [hq, hd]; exact rad_hi hlt (by omega))
      have HQ := Lib.hid (show q * 2 ≤ u by omega)
      clear hq hd e0
      go_wp2_with fail
      go_roundw
      case rel =>
        have hu := HU.out
        have hqr := HQ.out
        have hi3 : 3 ≤ i := by
          rcases Nat.lt_or_ge i 3 with h | h
          · have : i = 2 := by omega
            subst this
            omega
          · exact h
        refine ⟨q, i - 1, fun j => if j = i - 1 then dgt d else G j, rfl, val_int (by omega), ⟨by omega, by omega, by omega⟩, Lib.hid ?_, Lib.hid ?_, Lib.hid (HB.out.setCell (Nat.le_refl _) _), Lib.hid ?_⟩
        · have e1 : 2 ^ (i - 1 - 1 + 1) = 2 ^ (i - 1 - 1) * 2 := Nat.pow_succ 2 (i - 1 - 1)
          rw [show i - 1 - 1 + 1 = i - 1 by omega] at e1
          omega
        · rw [HR.out, HE.out, List.append_assoc, lst_step _ _ _ (by omega), show i - 1 + 1 = i by omega]; rfl
        · exact set_bytes HL.out (i - 1) (dgt d)
      case measure => simp [intOf]; omega
    · have hu36 : u < 36 := by omega
      have hX' := digit_run u hu36
      have hc : wr.cell? ⟨Z, i - 1, none⟩ = some (.int .u8 (G (i - 1)).toNat) := HL.out.get _ (row_get _ _ _ (by omega))
      have hf : wr.frozen? ⟨Z, i - 1, none⟩ = false := HL.out.frozen _
      have HE := Lib.hid (rad_lo (r := 8) (n := u) (by omega))
      have hsl := slice_run (i - 1) Z ((i : Int) - 1) (by omega) (by omega)
      have hL2 := set_bytes HL.out (i - 1) (dgt u)
      have hcv := text_run _ (i - 1) Z _ hL2 (by omega)
      rw [lst_step _ _ _ (by omega), show i - 1 + 1 = i by omega] at hcv
      clear hL2
      go_wp2_with fail
      go_returns
      exact ⟨HB.out.setCell (Nat.le_refl _) _, by rw [HR.out, HE.out]; rfl⟩
set_option maxRecDepth 100000 in
set_option maxHeartbeats 4000000 in
theorem formatBits_p3N (U : Nat) (X : Int) (w : World) (hT : Tz w) (h3 : 3 < w.heap.size) (hU : U < 9223372036854775809) (hX : IntKind.u64.wrap (-X) = (U : Int)) :
    Calls Tryd.prog 26 #[.slice none 0 0, .int .u64 X, .int .i64 8, .bool true, .bool false] w fun e w' => Below w.heap.size w w' ∧ e = .returned (.tuple #[.slice none 0 0, .string ⟨(45 :: rad 8 U).toArray⟩]) := by
  have HIP := Lib.hid (fun w => isPow 8 w (by omega) (by omega))
  have hpp : (bits .and .i64 (8 : Int) ((8 : Int) - 1) == 0) = true := by decide +kernel
  have HPP := Lib.hid hpp
  have HTZ := Lib.hid (fun W (hb : Below w.heap.size w W) => tzs_3 W (hT.below hb h3))
  have hz63 : ∀ W, (zeroValue 63).run Tryd.prog W = .ok (.agg (bytesRow fun _ => 0).toArray) W := fun W => by rfl
  clear hpp hT
  go_enter Tryd.func26, Tryd.ntmps26
  go_wp2_with (first
    | (go_at_call 39; refine (HIP.out _).mono ?_; rintro e w' ⟨rfl, rfl⟩; rw [HPP.out])
    | (go_at_call 40; refine (HTZ.out _ (below_at (Below.refl _ _) _)).mono ?_; rintro e w' ⟨rfl, rfl⟩))
  generalize hZ : w.heap.size = Z
  have hbw : Below Z w (w.alloc (Obj.cells (bytesRow fun x => 0).toArray 63)) := by rw [← hZ]; exact below_at (Below.refl _ _) _
  have hbl : Blk (w.alloc (Obj.cells (bytesRow fun x => 0).toArray 63)) Z 63 (bytesRow fun _ => 0) := by rw [← hZ]; exact Blk.new w 63 _
  have HBW := Lib.hid hbw
  have HBL := Lib.hid hbl
  clear hbw hbl
  go_loopw [1, 13] (fun uv iv wr => ∃ (u i : Nat) (G : Nat → UInt8), uv = .int .u64 u ∧ iv = .int .i64 i ∧ (2 ≤ i ∧ i ≤ 65 ∧ u ≤ U) ∧ Hid (u < 2 ^ (i - 1)) ∧ Hid (rad 8 U = rad 8 u ++ lst G i) ∧ Hid (Below Z w wr) ∧ Hid (Blk wr Z 63 (bytesRow G))) (fun uv _ _ => (intOf uv).toNat)
  case atStart => exact ⟨U, 65, fun _ => 0, rfl, rfl, ⟨by omega, by omega, by omega⟩, Lib.hid (by omega), Lib.hid (by simp [lst]), HBW, HBL⟩
  case round =>
    obtain ⟨u, i, G, rfl, rfl, ⟨hi2, hi65, huU⟩, HU, HR, HB, HL⟩ := hrel
    by_cases hlt : 8 ≤ u
    · obtain ⟨q, hq⟩ : ∃ q, q = u / 8 := ⟨_, rfl⟩
      obtain ⟨d, hd⟩ : ∃ d, d = u % 8 := ⟨_, rfl⟩
      have e0 : q * 8 + d = u := by rw [hq, hd]; exact Nat.div_add_mod' u 8
      have hd36 : d < 36 := by omega
      have hqu : q < u := by omega
      have wq : (u : Int) / 8 = (q : Int) := by omega
      have wd : bits .and .u64 (u : Int) 7 = (d : Int) := by rw [and_low3 u (by omega), hd]
      have hX' := digit_run d hd36
      have hc : wr.cell? ⟨Z, i - 1, none⟩ = some (.int .u8 (G (i - 1)).toNat) := HL.out.get _ (row_get _ _ _ (by omega))
      have hf : wr.frozen? ⟨Z, i - 1, none⟩ = false := HL.out.frozen _
      have HE := Lib.hid (show rad 8 u = rad 8 q ++ [dgt d] by rw [hq, hd]; exact rad_hi hlt (by omega))
      have HQ := Lib.hid (show q * 2 ≤ u by omega)
      clear hq hd e0
      go_wp2_with fail
      go_roundw
      case rel =>
        have hu := HU.out
        have hqr := HQ.out
        have hi3 : 3 ≤ i := by
          rcases Nat.lt_or_ge i 3 with h | h
          · have : i = 2 := by omega
            subst this
            omega
          · exact h
        refine ⟨q, i - 1, fun j => if j = i - 1 then dgt d else G j, rfl, val_int (by omega), ⟨by omega, by omega, by omega⟩, Lib.hid ?_, Lib.hid ?_, Lib.hid (HB.out.setCell (Nat.le_refl _) _), Lib.hid ?_⟩
        · have e1 : 2 ^ (i - 1 - 1 + 1) = 2 ^ (i - 1 - 1) * 2 := Nat.pow_succ 2 (i - 1 - 1)
          rw [show i - 1 - 1 + 1 = i - 1 by omega] at e1
          omega
        · rw [HR.out, HE.out, List.append_assoc, lst_step _ _ _ (by omega), show i - 1 + 1 = i by omega]; rfl
        · exact set_bytes HL.out (i - 1) (dgt d)
      case measure => simp [intOf]; omega
    · have hu36 : u < 36 := by omega
      have hX' := digit_run u hu36
      have hc : wr.cell? ⟨Z, i - 1, none⟩ = some (.int .u8 (G (i - 1)).toNat) := HL.out.get _ (row_get _ _ _ (by omega))
      have hf : wr.frozen? ⟨Z, i - 1, none⟩ = false := HL.out.frozen _
      have HE := Lib.hid (rad_lo (r := 8) (n := u) (by omega))
      have hsl := slice_run (i - 1 - 1) Z ((i : Int) - 1 - 1) (by omega) (by omega)
      have hL1 := set_bytes HL.out (i - 1) (dgt u)
      have hL2 : Blk ((wr.setCell ⟨Z, i - 1, none⟩ (.int .u8 ((dgt u).toNat : Int))).setCell ⟨Z, i - 1 - 1, none⟩ (.int .u8 45)) Z 63 _ := set_bytes hL1 (i - 1 - 1) 45
      have hcv := text_run _ (i - 1 - 1) Z _ hL2 (by omega)
      rw [lst_step _ _ _ (by omega), show i - 1 - 1 + 1 = i - 1 by omega, lst_step _ _ _ (by omega), show i - 1 + 1 = i by omega] at hcv
      have hc2 : (wr.setCell ⟨Z, i - 1, none⟩ (.int .u8 ((dgt u).toNat : Int))).cell? ⟨Z, i - 1 - 1, none⟩ = some (.int .u8 (G (i - 1 - 1)).toNat) := by
        have h := hL1.get (i - 1 - 1) (row_get 65 _ _ (by omega))
        simp only [show ¬ i - 1 - 1 = i - 1 by omega, if_false] at h
        exact h
      have hf2 : (wr.setCell ⟨Z, i - 1, none⟩ (.int .u8 ((dgt u).toNat : Int))).frozen? ⟨Z, i - 1 - 1, none⟩ = false := hL1.frozen _
      clear hL2 hL1
      go_wp2_with fail
      go_returns
      exact ⟨(HB.out.setCell (Nat.le_refl _) _).setCell (Nat.le_refl _) _, by rw [HR.out, HE.out]; rfl⟩
set_option maxRecDepth 100000 in
set_option maxHeartbeats 4000000 in
theorem formatBits_p4 (U : Nat) (w : World) (hT : Tz w) (h3 : 3 < w.heap.size) (hU : U < 9223372036854775808) :
    Calls Tryd.prog 26 #[.slice none 0 0, .int .u64 U, .int .i64 16, .bool false, .bool false] w fun e w' => Below w.heap.size w w' ∧ e = .returned (.tuple #[.slice none 0 0, .string ⟨(rad 16 U).toArray⟩]) := by
  have HIP := Lib.hid (fun w => isPow 16 w (by omega) (by omega))
  have hpp : (bits .and .i64 (16 : Int) ((16 : Int) - 1) == 0) = true := by decide +kernel
  have HPP := Lib.hid hpp
  have HTZ := Lib.hid (fun W (hb : Below w.heap.size w W) => tzs_4 W (hT.below hb h3))
  have hz63 : ∀ W, (zeroValue 63).run Tryd.prog W = .ok (.agg (bytesRow fun _ => 0).toArray) W := fun W => by rfl
  clear hpp hT
  go_enter Tryd.func26, Tryd.ntmps26
  go_wp2_with (first
    | (go_at_call 39; refine (HIP.out _).mono ?_; rintro e w' ⟨rfl, rfl⟩; rw [HPP.out])
    | (go_at_call 40; refine (HTZ.out _ (below_at (Below.refl _ _) _)).mono ?_; rintro e w' ⟨rfl, rfl⟩))
  generalize hZ : w.heap.size = Z
  have hbw : Below Z w (w.alloc (Obj.cells (bytesRow fun x => 0).toArray 63)) := by rw [← hZ]; exact below_at (Below.refl _ _) _
  have hbl : Blk (w.alloc (Obj.cells (bytesRow fun x => 0).toArray 63)) Z 63 (bytesRow fun _ => 0) := by rw [← hZ]; exact Blk.new w 63 _
  have HBW := Lib.hid hbw
  have HBL := Lib.hid hbl
  clear hbw hbl
  go_loopw [1, 13] (fun uv iv wr => ∃ (u i : Nat) (G : Nat → UInt8), uv = .int .u64 u ∧ iv = .int .i64 i ∧ (2 ≤ i ∧ i ≤ 65 ∧ u ≤ U) ∧ Hid (u < 2 ^ (i - 1)) ∧ Hid (rad 16 U = rad 16 u ++ lst G i) ∧ Hid (Below Z w wr) ∧ Hid (Blk wr Z 63 (bytesRow G))) (fun uv _ _ => (intOf uv).toNat)
  case atStart => exact ⟨U, 65, fun _ => 0, rfl, rfl, ⟨by omega, by omega, by omega⟩, Lib.hid (by omega), Lib.hid (by simp [lst]), HBW, HBL⟩
  case round =>
    obtain ⟨u, i, G, rfl, rfl, ⟨hi2, hi65, huU⟩, HU, HR, HB, HL⟩ := hrel
    by_cases hlt : 16 ≤ u
    · obtain ⟨q, hq⟩ : ∃ q, q = u / 16 := ⟨_, rfl⟩
      obtain ⟨d, hd⟩ : ∃ d, d = u % 16 := ⟨_, rfl⟩
      have e0 : q * 16 + d = u := by rw [hq, hd]; exact Nat.div_add_mod' u 16
      have hd36 : d < 36 := by omega
      have hqu : q < u := by omega
      have wq : (u : Int) / 16 = (q : Int) := by omega
      have wd : bits .and .u64 (u : Int) 15 = (d : Int) := by rw [and_low4 u (by omega), hd]
      have hX' := digit_run d hd36
      have hc : wr.cell? ⟨Z, i - 1, none⟩ = some (.int .u8 (G (i - 1)).toNat) := HL.out.get _ (row_get _ _ _ (by omega))
      have hf : wr.frozen? ⟨Z, i - 1, none⟩ = false := HL.out.frozen _
      have HE := Lib.hid (show rad 16 u = rad 16 q ++ [dgt d] by rw [hq, hd]; exact rad_hi hlt (by omega))
      have HQ := Lib.hid (show q * 2 ≤ u by omega)
      clear hq hd e0
      go_wp2_with fail
      go_roundw
      case rel =>
        have hu := HU.out
        have hqr := HQ.out
        have hi3 : 3 ≤ i := by
          rcases Nat.lt_or_ge i 3 with h | h
          · have : i = 2 := by omega
            subst this
            omega
          · exact h
        refine ⟨q, i - 1, fun j => if j = i - 1 then dgt d else G j, rfl, val_int (by omega), ⟨by omega, by omega, by omega⟩, Lib.hid ?_, Lib.hid ?_, Lib.hid (HB.out.setCell (Nat.le_refl _) _), Lib.hid ?_⟩
        · have e1 : 2 ^ (i - 1 - 1 + 1) = 2 ^ (i - 1 - 1) * 2 := Nat.pow_succ 2 (i - 1 - 1)
          rw [show i - 1 - 1 + 1 = i - 1 by omega] at e1
          omega
        · rw [HR.out, HE.out, List.append_assoc, lst_step _ _ _ (by omega), show i - 1 + 1 = i by omega]; rfl
        · exact set_bytes HL.out (i - 1) (dgt d)
      case measure => simp [intOf]; omega
    · have hu36 : u < 36 := by omega
      have hX' := digit_run u hu36
      have hc : wr.cell? ⟨Z, i - 1, none⟩ = some (.int .u8 (G (i - 1)).toNat) := HL.out.get _ (row_get _ _ _ (by omega))
      have hf : wr.frozen? ⟨Z, i - 1, none⟩ = false := HL.out.frozen _
      have HE := Lib.hid (rad_lo (r := 16) (n := u) (by omega))
      have hsl := slice_run (i - 1) Z ((i : Int) - 1) (by omega) (by omega)
      have hL2 := set_bytes HL.out (i - 1) (dgt u)
      have hcv := text_run _ (i - 1) Z _ hL2 (by omega)
      rw [lst_step _ _ _ (by omega), show i - 1 + 1 = i by omega] at hcv
      clear hL2
      go_wp2_with fail
      go_returns
      exact ⟨HB.out.setCell (Nat.le_refl _) _, by rw [HR.out, HE.out]; rfl⟩
set_option maxRecDepth 100000 in
set_option maxHeartbeats 4000000 in
theorem formatBits_p4N (U : Nat) (X : Int) (w : World) (hT : Tz w) (h3 : 3 < w.heap.size) (hU : U < 9223372036854775809) (hX : IntKind.u64.wrap (-X) = (U : Int)) :
    Calls Tryd.prog 26 #[.slice none 0 0, .int .u64 X, .int .i64 16, .bool true, .bool false] w fun e w' => Below w.heap.size w w' ∧ e = .returned (.tuple #[.slice none 0 0, .string ⟨(45 :: rad 16 U).toArray⟩]) := by
  have HIP := Lib.hid (fun w => isPow 16 w (by omega) (by omega))
  have hpp : (bits .and .i64 (16 : Int) ((16 : Int) - 1) == 0) = true := by decide +kernel
  have HPP := Lib.hid hpp
  have HTZ := Lib.hid (fun W (hb : Below w.heap.size w W) => tzs_4 W (hT.below hb h3))
  have hz63 : ∀ W, (zeroValue 63).run Tryd.prog W = .ok (.agg (bytesRow fun _ => 0).toArray) W := fun W => by rfl
  clear hpp hT
  go_enter Tryd.func26, Tryd.ntmps26
  go_wp2_with (first
    | (go_at_call 39; refine (HIP.out _).mono ?_; rintro e w' ⟨rfl, rfl⟩; rw [HPP.out])
    | (go_at_call 40; refine (HTZ.out _ (below_at (Below.refl _ _) _)).mono ?_; rintro e w' ⟨rfl, rfl⟩))
  generalize hZ : w.heap.size = Z
  have hbw : Below Z w (w.alloc (Obj.cells (bytesRow fun x => 0).toArray 63)) := by rw [← hZ]; exact below_at (Below.refl _ _) _
  have hbl : Blk (w.alloc (Obj.cells (bytesRow fun x => 0).toArray 63)) Z 63 (bytesRow fun _ => 0) := by rw [← hZ]; exact Blk.new w 63 _
  have HBW := Lib.hid hbw
  have HBL := Lib.hid hbl
  clear hbw hbl
  go_loopw [1, 13] (fun uv iv wr => ∃ (u i : Nat) (G : Nat → UInt8), uv = .int .u64 u ∧ iv = .int .i64 i ∧ (2 ≤ i ∧ i ≤ 65 ∧ u ≤ U) ∧ Hid (u < 2 ^ (i - 1)) ∧ Hid (rad 16 U = rad 16 u ++ lst G i) ∧ Hid (Below Z w wr) ∧ Hid (Blk wr Z 63 (bytesRow G))) (fun uv _ _ => (intOf uv).toNat)
  case atStart => exact ⟨U, 65, fun _ => 0, rfl, rfl, ⟨by omega, by omega, by omega⟩, Lib.hid (by omega), Lib.hid (by simp [lst]), HBW, HBL⟩
  case round =>
    obtain ⟨u, i, G, rfl, rfl, ⟨hi2, hi65, huU⟩, HU, HR, HB, HL⟩ := hrel
    by_cases hlt : 16 ≤ u
    · obtain ⟨q, hq⟩ : ∃ q, q = u / 16 := ⟨_, rfl⟩
      obtain ⟨d, hd⟩ : ∃ d, d = u % 16 := ⟨_, rfl⟩
      have e0 : q * 16 + d = u := by rw [hq, hd]; exact Nat.div_add_mod' u 16
      have hd36 : d < 36 := by omega
      have hqu : q < u := by omega
      have wq : (u : Int) / 16 = (q : Int) := by omega
      have wd : bits .and .u64 (u : Int) 15 = (d : Int) := by rw [and_low4 u (by omega), hd]
      have hX' := digit_run d hd36
      have hc : wr.cell? ⟨Z, i - 1, none⟩ = some (.int .u8 (G (i - 1)).toNat) := HL.out.get _ (row_get _ _ _ (by omega))
      have hf : wr.frozen? ⟨Z, i - 1, none⟩ = false := HL.out.frozen _
      have HE := Lib.hid (show rad 16 u = rad 16 q ++ [dgt d] by rw [hq, hd]; exact rad_hi hlt (by omega))
      have HQ := Lib.hid (show q * 2 ≤ u by omega)
      clear hq hd e0
      go_wp2_with fail
      go_roundw
      case rel =>
        have hu := HU.out
        have hqr := HQ.out
        have hi3 : 3 ≤ i := by
          rcases Nat.lt_or_ge i 3 with h | h
          · have : i = 2 := by omega
            subst this
            omega
          · exact h
        refine ⟨q, i - 1, fun j => if j = i - 1 then dgt d else G j, rfl, val_int (by omega), ⟨by omega, by omega, by omega⟩, Lib.hid ?_, Lib.hid ?_, Lib.hid (HB.out.setCell (Nat.le_refl _) _), Lib.hid ?_⟩
        · have e1 : 2 ^ (i - 1 - 1 + 1) = 2 ^ (i - 1 - 1) * 2 := Nat.pow_succ 2 (i - 1 - 1)
          rw [show i - 1 - 1 + 1 = i - 1 by omega] at e1
          omega
        · rw [HR.out, HE.out, List.append_assoc, lst_step _ _ _ (by omega), show i - 1 + 1 = i by omega]; rfl
        · exact set_bytes HL.out (i - 1) (dgt d)
      case measure => simp [intOf]; omega
    · have hu36 : u < 36 := by omega
      have hX' := digit_run u hu36
      have hc : wr.cell? ⟨Z, i - 1, none⟩ = some (.int .u8 (G (i - 1)).toNat) := HL.out.get _ (row_get _ _ _ (by omega))
      have hf : wr.frozen? ⟨Z, i - 1, none⟩ = false := HL.out.frozen _
      have HE := Lib.hid (rad_lo (r := 16) (n := u) (by omega))
      have hsl := slice_run (i - 1 - 1) Z ((i : Int) - 1 - 1) (by omega) (by omega)
      have hL1 := set_bytes HL.out (i - 1) (dgt u)
      have hL2 : Blk ((wr.setCell ⟨Z, i - 1, none⟩ (.int .u8 ((dgt u).toNat : Int))).setCell ⟨Z, i - 1 - 1, none⟩ (.int .u8 45)) Z 63 _ := set_bytes hL1 (i - 1 - 1) 45
      have hcv := text_run _ (i - 1 - 1) Z _ hL2 (by omega)
      rw [lst_step _ _ _ (by omega), show i - 1 - 1 + 1 = i - 1 by omega, lst_step _ _ _ (by omega), show i - 1 + 1 = i by omega] at hcv
      have hc2 : (wr.setCell ⟨Z, i - 1, none⟩ (.int .u8 ((dgt u).toNat : Int))).cell? ⟨Z, i - 1 - 1, none⟩ = some (.int .u8 (G (i - 1 - 1)).toNat) := by
        have h := hL1.get (i - 1 - 1) (row_get 65 _ _ (by omega))
        simp only [show ¬ i - 1 - 1 = i - 1 by omega, if_false] at h
        exact h
      have hf2 : (wr.setCell ⟨Z, i - 1, none⟩ (.int .u8 ((dgt u).toNat : Int))).frozen? ⟨Z, i - 1 - 1, none⟩ = false := hL1.frozen _
      clear hL2 hL1
      go_wp2_with fail
      go_returns
      exact ⟨(HB.out.setCell (Nat.le_refl _) _).setCell (Nat.le_refl _) _, by rw [HR.out, HE.out]; rfl⟩
set_option maxRecDepth 100000 in
set_option maxHeartbeats 4000000 in
theorem formatBits_p5 (U : Nat) (w : World) (hT : Tz w) (h3 : 3 < w.heap.size) (hU : U < 9223372036854775808) :
    Calls Tryd.prog 26 #[.slice none 0 0, .int .u64 U, .int .i64 32, .bool false, .bool false] w fun e w' => Below w.heap.size w w' ∧ e = .returned (.tuple #[.slice none 0 0, .string ⟨(rad 32 U).toArray⟩]) := by
  have HIP := Lib.hid (fun w => isPow 32 w (by omega) (by omega))
  have hpp : (bits .and .i64 (32 : Int) ((32 : Int) - 1) == 0) = true := by decide +kernel
  have HPP := Lib.hid hpp
  have HTZ := Lib.hid (fun W (hb : Below w.heap.size w W) => tzs_5 W (hT.below hb h3))
  have hz63 : ∀ W, (zeroValue 63).run Tryd.prog W = .ok (.agg (bytesRow fun _ => 0).toArray) W := fun W => by rfl
  clear hpp hT
  go_enter Tryd.func26, Tryd.ntmps26
  go_wp2_with (first
    | (go_at_call 39; refine (HIP.out _).mono ?_; rintro e w' ⟨rfl, rfl⟩; rw [HPP.out])
    | (go_at_call 40; refine (HTZ.out _ (below_at (Below.refl _ _) _)).mono ?_; rintro e w' ⟨rfl, rfl⟩))
  generalize hZ : w.heap.size = Z
  have hbw : Below Z w (w.alloc (Obj.cells (bytesRow fun x => 0).toArray 63)) := by rw [← hZ]; exact below_at (Below.refl _ _) _
  have hbl : Blk (w.alloc (Obj.cells (bytesRow fun x => 0).toArray 63)) Z 63 (bytesRow fun _ => 0) := by rw [← hZ]; exact Blk.new w 63 _
  have HBW := Lib.hid hbw
  have HBL := Lib.hid hbl
  clear hbw hbl
  go_loopw [1, 13] (fun uv iv wr => ∃ (u i : Nat) (G : Nat → UInt8), uv = .int .u64 u ∧ iv = .int .i64 i ∧ (2 ≤ i ∧ i ≤ 65 ∧ u ≤ U) ∧ Hid (u < 2 ^ (i - 1)) ∧ Hid (rad 32 U = rad 32 u ++ lst G i) ∧ Hid (Below Z w wr) ∧ Hid (Blk wr Z 63 (bytesRow G))) (fun uv _ _ => (intOf uv).toNat)
  case atStart => exact ⟨U, 65, fun _ => 0, rfl, rfl, ⟨by omega, by omega, by omega⟩, Lib.hid (by omega), Lib.hid (by simp [lst]), HBW, HBL⟩
  case round =>
    obtain ⟨u, i, G, rfl, rfl, ⟨hi2, hi65, huU⟩, HU, HR, HB, HL⟩ := hrel
    by_cases hlt : 32 ≤ u
    · obtain ⟨q, hq⟩ : ∃ q, q = u / 32 := ⟨_, rfl⟩
      obtain ⟨d, hd⟩ : ∃ d, d = u % 32 := ⟨_, rfl⟩
      have e0 : q * 32 + d = u := by rw [hq, hd]; exact Nat.div_add_mod' u 32
      have hd36 : d < 36 := by omega
      have hqu : q < u := by omega
      have wq : (u : Int) / 32 = (q : Int) := by omega
      have wd : bits .and .u64 (u : Int) 31 = (d : Int) := by rw [and_low5 u (by omega), hd]
      have hX' := digit_run d hd36
      have hc : wr.cell? ⟨Z, i - 1, none⟩ = some (.int .u8 (G (i - 1)).toNat) := HL.out.get _ (row_get _ _ _ (by omega))
      have hf : wr.frozen? ⟨Z, i - 1, none⟩ = false := HL.out.frozen _
      have HE := Lib.hid (show rad 32 u = rad 32 q ++ [dgt d] by rw [hq, hd]; exact rad_hi hlt (by omega))
      have HQ := Lib.hid (show q * 2 ≤ u by omega)
      clear hq hd e0
      go_wp2_with fail
      go_roundw
      case rel =>
        have hu := HU.out
        have hqr := HQ.out
        have hi3 : 3 ≤ i := by
          rcases Nat.lt_or_ge i 3 with h | h
          · have : i = 2 := by omega
            subst this
            omega
          · exact h
        refine ⟨q, i - 1, fun j => if j = i - 1 then dgt d else G j, rfl, val_int (by omega), ⟨by omega, by omega, by omega⟩, Lib.hid ?_, Lib.hid ?_, Lib.hid (HB.out.setCell (Nat.le_refl _) _), Lib.hid ?_⟩
        · have e1 : 2 ^ (i - 1 - 1 + 1) = 2 ^ (i - 1 - 1) * 2 := Nat.pow_succ 2 (i - 1 - 1)
          rw [show i - 1 - 1 + 1 = i - 1 by omega] at e1
          omega
        · rw [HR.out, HE.out, List.append_assoc, lst_step _ _ _ (by omega), show i - 1 + 1 = i by omega]; rfl
        · exact set_bytes HL.out (i - 1) (dgt d)
      case measure => simp [intOf]; omega
    · have hu36 : u < 36 := by omega
      have hX' := digit_run u hu36
      have hc : wr.cell? ⟨Z, i - 1, none⟩ = some (.int .u8 (G (i - 1)).toNat) := HL.out.get _ (row_get _ _ _ (by omega))
      have hf : wr.frozen? ⟨Z, i - 1, none⟩ = false := HL.out.frozen _
      have HE := Lib.hid (rad_lo (r := 32) (n := u) (by omega))
      have hsl := slice_run (i - 1) Z ((i : Int) - 1) (by omega) (by omega)
      have hL2 := set_bytes HL.out (i - 1) (dgt u)
      have hcv := text_run _ (i - 1) Z _ hL2 (by omega)
      rw [lst_step _ _ _ (by omega), show i - 1 + 1 = i by omega] at hcv
      clear hL2
      go_wp2_with fail
      go_returns
      exact ⟨HB.out.setCell (Nat.le_refl _) _, by rw [HR.out, HE.out]; rfl⟩
set_option maxRecDepth 100000 in
set_option maxHeartbeats 4000000 in
theorem formatBits_p5N (U : Nat) (X : Int) (w : World) (hT : Tz w) (h3 : 3 < w.heap.size) (hU : U < 9223372036854775809) (hX : IntKind.u64.wrap (-X) = (U : Int)) :
    Calls Tryd.prog 26 #[.slice none 0 0, .int .u64 X, .int .i64 32, .bool true, .bool false] w fun e w' => Below w.heap.size w w' ∧ e = .returned (.tuple #[.slice none 0 0, .string ⟨(45 :: rad 32 U).toArray⟩]) := by
  have HIP := Lib.hid (fun w => isPow 32 w (by omega) (by omega))
  have hpp : (bits .and .i64 (32 : Int) ((32 : Int) - 1) == 0) = true := by decide +kernel
  have HPP := Lib.hid hpp
  have HTZ := Lib.hid (fun W (hb : Below w.heap.size w W) => tzs_5 W (hT.below hb h3))
  have hz63 : ∀ W, (zeroValue 63).run Tryd.prog W = .ok (.agg (bytesRow fun _ => 0).toArray) W := fun W => by rfl
  clear hpp hT
  go_enter Tryd.func26, Tryd.ntmps26
  go_wp2_with (first
    | (go_at_call 39; refine (HIP.out _).mono ?_; rintro e w' ⟨rfl, rfl⟩; rw [HPP.out])
    | (go_at_call 40; refine (HTZ.out _ (below_at (Below.refl _ _) _)).mono ?_; rintro e w' ⟨rfl, rfl⟩))
  generalize hZ : w.heap.size = Z
  have hbw : Below Z w (w.alloc (Obj.cells (bytesRow fun x => 0).toArray 63)) := by rw [← hZ]; exact below_at (Below.refl _ _) _
  have hbl : Blk (w.alloc (Obj.cells (bytesRow fun x => 0).toArray 63)) Z 63 (bytesRow fun _ => 0) := by rw [← hZ]; exact Blk.new w 63 _
  have HBW := Lib.hid hbw
  have HBL := Lib.hid hbl
  clear hbw hbl
  go_loopw [1, 13] (fun uv iv wr => ∃ (u i : Nat) (G : Nat → UInt8), uv = .int .u64 u ∧ iv = .int .i64 i ∧ (2 ≤ i ∧ i ≤ 65 ∧ u ≤ U) ∧ Hid (u < 2 ^ (i - 1)) ∧ Hid (rad 32 U = rad 32 u ++ lst G i) ∧ Hid (Below Z w wr) ∧ Hid (Blk wr Z 63 (bytesRow G))) (fun uv _ _ => (intOf uv).toNat)
  case atStart => exact ⟨U, 65, fun _ => 0, rfl, rfl, ⟨by omega, by omega, by omega⟩, Lib.hid (by omega), Lib.hid (by simp [lst]), HBW, HBL⟩
  case round =>
    obtain ⟨u, i, G, rfl, rfl, ⟨hi2, hi65, huU⟩, HU, HR, HB, HL⟩ := hrel
    by_cases hlt : 32 ≤ u
    · obtain ⟨q, hq⟩ : ∃ q, q = u / 32 := ⟨_, rfl⟩
      obtain ⟨d, hd⟩ : ∃ d, d = u % 32 := ⟨_, rfl⟩
      have e0 : q * 32 + d = u := by rw [hq, hd]; exact Nat.div_add_mod' u 32
      have hd36 : d < 36 := by omega
      have hqu : q < u := by omega
      have wq : (u : Int) / 32 = (q : Int) := by omega
      have wd : bits .and .u64 (u : Int) 31 = (d : Int) := by rw [and_low5 u (by omega), hd]
      have hX' := digit_run d hd36
      have hc : wr.cell? ⟨Z, i - 1, none⟩ = some (.int .u8 (G (i - 1)).toNat) := HL.out.get _ (row_get _ _ _ (by omega))
      have hf : wr.frozen? ⟨Z, i - 1, none⟩ = false := HL.out.frozen _
      have HE := Lib.hid (show rad 32 u = rad 32 q ++ [dgt d] by rw [hq, hd]; exact rad_hi hlt (by omega))
      have HQ := Lib.hid (show q * 2 ≤ u by omega)
      clear hq hd e0
      go_wp2_with fail
      go_roundw
      case rel =>
        have hu := HU.out
        have hqr := HQ.out
        have hi3 : 3 ≤ i := by
          rcases Nat.lt_or_ge i 3 with h | h
          · have : i = 2 := by omega
            subst this
            omega
          · exact h
        refine ⟨q, i - 1, fun j => if j = i - 1 then dgt d else G j, rfl, val_int (by omega), ⟨by omega, by omega, by omega⟩, Lib.hid ?_, Lib.hid ?_, Lib.hid (HB.out.setCell (Nat.le_refl _) _), Lib.hid ?_⟩
        · have e1 : 2 ^ (i - 1 - 1 + 1) = 2 ^ (i - 1 - 1) * 2 := Nat.pow_succ 2 (i - 1 - 1)
          rw [show i - 1 - 1 + 1 = i - 1 by omega] at e1
          omega
        · rw [HR.out, HE.out, List.append_assoc, lst_step _ _ _ (by omega), show i - 1 + 1 = i by omega]; rfl
        · exact set_bytes HL.out (i - 1) (dgt d)
      case measure => simp [intOf]; omega
    · have hu36 : u < 36 := by omega
      have hX' := digit_run u hu36
      have hc : wr.cell? ⟨Z, i - 1, none⟩ = some (.int .u8 (G (i - 1)).toNat) := HL.out.get _ (row_get _ _ _ (by omega))
      have hf : wr.frozen? ⟨Z, i - 1, none⟩ = false := HL.out.frozen _
      have HE := Lib.hid (rad_lo (r := 32) (n := u) (by omega))
      have hsl := slice_run (i - 1 - 1) Z ((i : Int) - 1 - 1) (by omega) (by omega)
      have hL1 := set_bytes HL.out (i - 1) (dgt u)
      have hL2 : Blk ((wr.setCell ⟨Z, i - 1, none⟩ (.int .u8 ((dgt u).toNat : Int))).setCell ⟨Z, i - 1 - 1, none⟩ (.int .u8 45)) Z 63 _ := set_bytes hL1 (i - 1 - 1) 45
      have hcv := text_run _ (i - 1 - 1) Z _ hL2 (by omega)
      rw [lst_step _ _ _ (by omega), show i - 1 - 1 + 1 = i - 1 by omega, lst_step _ _ _ (by omega), show i - 1 + 1 = i by omega] at hcv
      have hc2 : (wr.setCell ⟨Z, i - 1, none⟩ (.int .u8 ((dgt u).toNat : Int))).cell? ⟨Z, i - 1 - 1, none⟩ = some (.int .u8 (G (i - 1 - 1)).toNat) := by
        have h := hL1.get (i - 1 - 1) (row_get 65 _ _ (by omega))
        simp only [show ¬ i - 1 - 1 = i - 1 by omega, if_false] at h
        exact h
      have hf2 : (wr.setCell ⟨Z, i - 1, none⟩ (.int .u8 ((dgt u).toNat : Int))).frozen? ⟨Z, i - 1 - 1, none⟩ = false := hL1.frozen _
      clear hL2 hL1
      go_wp2_with fail
      go_returns
      exact ⟨(HB.out.setCell (Nat.le_refl _) _).setCell (Nat.le_refl _) _, by rw [HR.out, HE.out]; rfl⟩
end Go.Proofs.YtifgealimgedpaaDoor.Nats
