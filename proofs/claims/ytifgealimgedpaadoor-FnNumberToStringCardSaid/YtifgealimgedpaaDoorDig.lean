/- A whole number told in decimal digits. The walk. -/
import Derived.Test.YtifgealimgedpaaDoorNatJ
import Derived.Test.YtifgealimgedpaaDoorBytes
import Derived.Lib.ItoaNum
namespace Go.Proofs.YtifgealimgedpaaDoor.Nats
open Go.RowKit Go.Proofs.YtifgealimgedpaaDoor.Aid Go.Proofs.YtifgealimgedpaaDoor.Runes Go.Proofs.YtifgealimgedpaaDoor.Bytes
attribute [local go_sem ↓] Go.wp_at_zero Go.wp_at_succ
set_option linter.unusedVariables false
theorem slice_mid (u : ByteArray) (a b : Nat) (hab : a ≤ b) (hb : b ≤ u.size) (w : World) : (Instr.slice 9 (.string u) (some (.int .i64 a)) (some (.int .i64 b)) none).run Tryd.prog w = .ok (.string (u.extract a b)) w := by
  have h1 : (b : Int) ≤ (u.size : Int) := by omega
  have h2 : (0 : Int) ≤ (b : Int) := by omega
  have h3 : (0 : Int) ≤ (a : Int) := by omega
  have h4 : (a : Int) ≤ (b : Int) := by omega
  have ht : (b : Int).toNat = b := by omega
  have ht' : (a : Int).toNat = a := by omega
  simp [Instr.slice, run_underlying Tryd.underlying9, Instr.sliceBounds, run_sliceBound, *]
theorem slice_to (u : ByteArray) (b : Nat) (hb : b ≤ u.size) (w : World) : (Instr.slice 9 (.string u) none (some (.int .i64 b)) none).run Tryd.prog w = .ok (.string (u.extract 0 b)) w := by
  have h2 : (0 : Int) ≤ (b : Int) := by omega
  have h1 : (b : Int) ≤ (u.size : Int) := by omega
  have ht : (b : Int).toNat = b := by omega
  simp [Instr.slice, run_underlying Tryd.underlying9, Instr.sliceBounds, run_sliceBound, *]
theorem slice_from (u : ByteArray) (a : Nat) (ha : a ≤ u.size) (w : World) : (Instr.slice 9 (.string u) (some (.int .i64 a)) none none).run Tryd.prog w = .ok (.string (u.extract a u.size)) w := by
  have h1 : (a : Int) ≤ (u.size : Int) := by omega
  have hx := run_sliceBound (P := Tryd.prog) w .i64 (a : Int) u.size BoundsCode.sliceB (by omega) (by omega)
  simp [Instr.slice, run_underlying Tryd.underlying9, Instr.sliceBounds, *]
theorem mk90 (w : World) : (Instr.makeSlice 43 (.int .i64 1) (.int .i64 1)).run Tryd.prog w = .ok (.slice (some ⟨w.heap.size, 0, none⟩) 1 1) (w.alloc (.cells #[.int .u8 0] 5)) := by kernel_rfl
theorem conv1 (W : World) (G a : Nat) (h0 : W.cell? ⟨G, 0, none⟩ = some (.int .u8 a)) : (convert 43 9 (.slice (some ⟨G, 0, none⟩) 1 1)).run Tryd.prog W = .ok (.string (str [a])) W := by
  rw [run_convert_bytes_arg W 43 5 Tryd.underlying43 Tryd.underlying5 G 0 1 1 [(a : Int)] rfl (fun i hi => ?_) 9 Tryd.underlying9]
  · congr 2
  · obtain rfl : i = 0 := by omega
    exact h0
set_option maxRecDepth 100000 in
set_option maxHeartbeats 2000000 in
theorem bytesOf (a h T : Nat) (w : World) (hh : Blk w h T [.int .i64 a]) (ha : a < 256) :
    Calls Tryd.prog 46 #[.slice (some ⟨h, 0, none⟩) 1 1] w fun e w' => e = .returned (.string (str [a])) ∧ Below w.heap.size w w' := by
  have hlt := hh.lt
  have hmk := mk90
  have c0 : ∀ o, (w.alloc o).cell? ⟨h, 0, none⟩ = some (.int .i64 a) := fun o => (hh.alloc o).get 0 rfl
  have hcv := conv1 (w.alloc (.cells #[.int .u8 a] 5)) w.heap.size a ((Blk.new w 5 [.int .u8 a]).get 0 rfl)
  obtain ⟨Z, hZ⟩ : ∃ Z, Z = str [a] := ⟨_, rfl⟩
  rw [← hZ] at hcv ⊢
  have ne : h ≠ w.heap.size := by omega
  clear hh hZ
  go_enter Tryd.func46, Tryd.ntmps46
  go_wp2_with fail
  go_rounds 2
  go_wp2_with fail
  go_returns
  exact ⟨rfl, below_at (Below.refl _ _) _⟩
theorem val_set (g : Nat → Nat) (n i x : Nat) (hi : i < n) (h0 : g i = 0) : val (fun j => if j = i then x else g j) n = val g n + x * 2 ^ (32 * i) := by
  induction n with
  | zero => omega
  | succ n ih =>
    rw [val, val]
    by_cases e : i = n
    · subst e
      rw [if_pos rfl, h0, val_congr _ g i fun j hj => if_neg (by omega)]
      omega
    · rw [if_neg (by omega), ih (by omega)]
      omega
theorem lcells_row (n : Nat) : lcells (List.replicate n 0) = row n fun _ => .int .u64 ((0 : Nat) : Int) := by
  simp [lcells, row, List.map_const']
/-- A round of a division by 10. -/
theorem ten_step (f g : Nat → Nat) (n i r V : Nat) (hi : i < n) (h0 : g i = 0) (h : V = 10 * val g n + r * 2 ^ (32 * (i + 1)) + val f (i + 1)) :
    V = 10 * val (fun j => if j = i then (r * 4294967296 + f i) / 10 else g j) n + (r * 4294967296 + f i) % 10 * 2 ^ (32 * i) + val f i := by
  rw [val_set g n i _ hi h0, h, val, show 32 * (i + 1) = 32 + 32 * i by omega, Nat.pow_add 2 32, show (2 : Nat) ^ 32 = 4294967296 by decide]
  obtain ⟨B, hB⟩ : ∃ B, B = 2 ^ (32 * i) := ⟨_, rfl⟩
  obtain ⟨x, hx⟩ : ∃ x, x = r * 4294967296 + f i := ⟨_, rfl⟩
  rw [← hB, ← hx]
  have e1 : r * (4294967296 * B) + f i * B = x * B := by rw [hx, Nat.add_mul, Nat.mul_assoc]
  have e2 : x * B = 10 * (x / 10 * B) + x % 10 * B := by
    rw [← Nat.mul_assoc, ← Nat.add_mul]
    congr 1
    omega
  omega
/-- The digits that are there, behind those of what is left. -/
def Tail (V x : Nat) (t : ByteArray) : Prop := (0 < x ∧ Lib.decDigits V = Lib.decDigits x ++ t.data.toList) ∨ (x = 0 ∧ Lib.decDigits V = t.data.toList)
theorem tail_step {V x y r : Nat} {t Y : ByteArray} (h : Tail V x t) (hx : 0 < x) (hr : r < 10) (e : x = 10 * y + r) (hY : Y.data.toList = [UInt8.ofNat (48 + r)]) : Tail V y (Y ++ t) := by
  have h := h.resolve_right (fun h => by omega)
  have e1 : (Y ++ t).data.toList = UInt8.ofNat (48 + r) :: t.data.toList := by
    rw [ByteArray.data_append, Array.toList_append, hY]
    rfl
  rw [Tail, e1]
  by_cases hy : y = 0
  · right
    refine ⟨hy, ?_⟩
    rw [h.2, Lib.decDigits, dif_pos (by omega), show x = r by omega]
    rfl
  · left
    refine ⟨by omega, ?_⟩
    rw [h.2, Lib.decDigits, dif_neg (by omega), show x / 10 = y by omega, show x % 10 = r by omega, List.append_assoc]
    rfl
def StrPost (V : Nat) (w : World) (e : Ending) (w' : World) : Prop := Below w.heap.size w w' ∧ e = .returned (.string ⟨(Lib.decDigits V).toArray⟩)
set_option maxRecDepth 100000 in
set_option maxHeartbeats 8000000 in
theorem digits_walk (v : Value) (V : Nat) (w : World) (h : Num w v V) (hV : blen V ≤ 100000) : Calls Tryd.prog 34 #[v] w (StrPost V w) := by
  have HN := Lib.hid h
  obtain ⟨A, n, c, f, rfl, a1, a2, a3, a4⟩ := h
  have hl := limbs a2 a3 a4
  have HNC := Lib.hid a1.1
  have hn9 : n ≤ 1000000 := a1.2.1
  by_cases hn : n = 0
  · subst hn
    have HV0 := Lib.hid (show V = 0 by rw [← a4]; rfl)
    clear a1 a2 a3 a4 hl hn9
    go_enter Tryd.func34, Tryd.ntmps34
    go_wp2_with fail
    go_returns
    exact ⟨Below.refl _ _, by rw [HV0.out, Lib.decDigits_one (by omega)]; rfl⟩
  · have t0 : ((n : Int) == 0) = false := by simp; omega
    have HV0 := Lib.hid (show 0 < V by
      rcases Nat.eq_zero_or_pos V with e | e
      · rw [e, blen_zero] at hl
        omega
      · exact e)
    clear a1 a2 a3 a4 hl hn
    go_enter Tryd.func34, Tryd.ntmps34
    go_wp2_with fail
    go_loopw [0, 3] (fun av ov wr => ∃ (x : Nat) (t : ByteArray), Num wr av x ∧ ov = .string t ∧ t.size + blen x ≤ blen V ∧ Tail V x t ∧ Below w.heap.size w wr) (fun _ ov _ => blen V - (match ov with | .string t => t.size | _ => 0))
    case atStart => exact ⟨V, _, HN.out, rfl, Nat.le_of_eq (Nat.zero_add _), .inl ⟨HV0.out, (List.append_nil _).symm⟩, Below.refl _ _⟩
    case round =>
      obtain ⟨x, t, hn, rfl, ht, htl, hb⟩ := hrel
      have HTL := Lib.hid htl
      clear htl
      have HB := Lib.hid hb
      obtain ⟨A, n, c, f, rfl, a1, a2, a3, a4⟩ := hn
      have hl := limbs a2 a3 a4
      have HA := Lib.hid a1
      have HF := Lib.hid a2
      have HX := Lib.hid a4
      have HZ := Lib.hid a3
      have HNC := Lib.hid a1.1
      have HLB := Lib.hid hl
      have n9 : n ≤ 100000 := by omega
      have tl : t.size ≤ 100000 := by omega
      have HT := Lib.hid ht
      by_cases hn : n = 0
      · have q1 : ¬ (0 : Int) < (n : Int) := by omega
        have HN00 := Lib.hid hn
        clear a1 a2 a3 a4 hl hb ht hn
        have HT0 := Lib.hid (show Lib.decDigits V = t.data.toList by
          rcases HTL.out with ⟨h, _⟩ | ⟨_, h⟩
          · exfalso
            have hx0 : x = 0 := by rw [← HX.out, HN00.out]; rfl
            omega
          · exact h)
        go_wp2_with fail
        go_returns
        exact ⟨HB.out, by rw [HT0.out]; rfl⟩
      · have q1 : (0 : Int) < (n : Int) := by omega
        have HMK := Lib.hid (make_words n (by omega))
        have hmk : ∀ w, (Instr.makeSlice 47 (.int .i64 n) (.int .i64 n)).run Tryd.prog w = .ok (.slice (some ⟨w.heap.size, 0, none⟩) n n) (w.alloc (.cells (lcells (List.replicate n 0)).toArray 28)) := HMK.out
        have HN0 := Lib.hid hn
        clear a1 a2 a3 a4 hl hb ht hn
        go_wp2_with fail
        obtain ⟨wo, rfl⟩ : ∃ wo, wo = wr := ⟨_, rfl⟩
        have hk0 : Blk (wo.alloc (.cells (lcells (List.replicate n 0)).toArray 28)) wo.heap.size 28 (row n fun _ => .int .u64 ((0 : Nat) : Int)) := by
          rw [← lcells_row]
          exact Blk.new wo 28 _
        have HK0 := Lib.hid hk0
        have HB0 := Lib.hid (below_at (Below.refl wo.heap.size wo) (.cells (lcells (List.replicate n 0)).toArray 28))
        clear hk0
        go_loopw [4, 6] (fun rv iv wx => ∃ (r i : Nat) (g : Nat → Nat), rv = .int .u64 r ∧ r < 10 ∧ iv = .int .i64 ((i : Int) - 1) ∧ i ≤ n ∧ Blk wx wo.heap.size 28 (row n fun j => .int .u64 (g j : Int)) ∧ (∀ j, j < n → g j < 4294967296) ∧ (∀ j, j < i → g j = 0) ∧ x = 10 * val g n + r * 2 ^ (32 * i) + val f i ∧ Below wo.heap.size wo wx) (fun _ iv _ => (intOf iv + 1).toNat)
        case atStart => exact ⟨0, n, fun _ => 0, rfl, by omega, rfl, Nat.le_refl _, HK0.out, fun j hj => Nat.zero_lt_succ _, fun j hj => rfl, by
          have h1 := val_trim (fun _ => 0) n 0 (Nat.zero_le _) fun j h1 h2 => rfl
          rw [h1, ← HX.out, val]; omega, HB0.out⟩
        case round =>
          obtain ⟨r, i, g, rfl, hr, rfl, hi, hg, hgs, hg0, hx, hbx⟩ := hrel
          have HG := Lib.hid hg
          have HGS := Lib.hid hgs
          have HG0 := Lib.hid hg0
          have HXX := Lib.hid hx
          have HBX := Lib.hid hbx
          cases i with
          | zero =>
            have q2 : ¬ (0 : Int) ≤ ((0 : Nat) : Int) - 1 := by omega
            have HBO := Lib.hid (bytesOf (48 + r) wr.heap.size 3 (wr.alloc (.cells #[.int .i64 ((48 + r : Nat) : Int)] 3)) (Blk.new wr 3 [.int .i64 ((48 + r : Nat) : Int)]) (by omega))
            have e1 : (48 : Int) + (r : Int) = ((48 + r : Nat) : Int) := by omega
            obtain ⟨q, hq⟩ : ∃ q, q = 48 + r := ⟨_, rfl⟩
            rw [← hq] at HBO e1
            obtain ⟨Y, hY⟩ : ∃ Y, Y = str [q] := ⟨_, rfl⟩
            have ysz : Y.size = 1 := by rw [hY, str_size]; rfl
            have HYE := Lib.hid (show Y.data.toList = [UInt8.ofNat (48 + r)] by rw [hY, hq]; rfl)
            rw [← hY] at HBO
            have tsz : Y.size + t.size ≤ 9223372036854775807 := by omega
            clear hg hgs hg0 hx hbx hq hY
            go_wp2_with fail
            refine HBO.out.mono ?_
            rintro e w3 ⟨rfl, hb3⟩
            have HB3 := Lib.hid (hb3.mono (Nat.le_trans (Nat.le_refl wr.heap.size) (by simp)))
            have HB4 := Lib.hid ((below_at (Below.refl wr.heap.size wr) (.cells #[.int .i64 (q : Int)] 3)).trans HB3.out)
            have HNA := Lib.hid (show NatAt w3 (some ⟨wo.heap.size, 0, none⟩) n n g from ⟨Nat.le_refl _, by omega, reads_blk (HG.out.below HB4.out HG.out.lt) n fun i hi => row_get n _ i hi⟩)
            have HTR := Lib.hid (natTrim (some ⟨wo.heap.size, 0, none⟩) n n g w3 HNA.out)
            clear hb3
            go_wp2_with fail
            refine HTR.out.mono ?_
            rintro e w4 ⟨rfl, k, hk, rfl⟩
            have HK := Lib.hid hk
            have HBF := Lib.hid (HB.out.trans ((HBX.out.trans (HB4.out.mono HBX.out.size)).mono HB.out.size))
            have HTLN := Lib.hid (show Tail V (val g n) (Y ++ t) from tail_step HTL.out (by
              have h1 := HLB.out
              have h4 := HN0.out
              rcases Nat.eq_zero_or_pos x with e | e
              · rw [e, blen_zero] at h1
                omega
              · exact e) hr (by
              have h2 := HXX.out
              rw [Nat.mul_zero, Nat.pow_zero, val] at h2
              omega) HYE.out)
            clear hk
            go_wp2_with fail
            go_roundw
            case rel =>
              refine ⟨val g n, Y ++ t, ⟨_, k, n, g, rfl, ⟨HK.out.1, by have := HK.out.1; omega, fun i hi => HNA.out.2.2 i (by have := HK.out.1; omega)⟩, fun i hi => HGS.out i (by have := HK.out.1; omega), HK.out.2.2, (val_trim g n k HK.out.1 HK.out.2.1).symm⟩, rfl, ?_, HTLN.out, HBF.out⟩
              rw [ByteArray.size_append]
              have h1 := HLB.out
              have h2 := HXX.out
              have h3 := HT.out
              have h4 := HN0.out
              rw [Nat.mul_zero, Nat.pow_zero, val] at h2
              have hx0 : 0 < x := by
                rcases Nat.eq_zero_or_pos x with e | e
                · rw [e, blen_zero] at h1
                  omega
                · exact e
              have h5 := blen_half hx0
              have h6 := blen_mono (x := val g n) (y := x / 2) (by omega)
              omega
            case measure => 
              have h1 := HT.out
              have h2 := HLB.out
              have h3 := HN0.out
              simp [ByteArray.size_append]
              omega
          | succ i =>
            have q1 : ((i + 1 : Nat) : Int) - 1 = (i : Int) := by omega
            rw [q1]
            obtain ⟨b, o, rfl, hlb, hc⟩ := (HA.out.below HBX.out).2.2 i (by omega)
            replace hc : wr.cell? ⟨b, o + i, none⟩ = some (.int .u64 (f i : Int)) := hc
            have hfi := HF.out i (by omega)
            have HST := Lib.hid (ten_step f g n i r x (by omega) (hg0 i (by omega)) hx)
            obtain ⟨y, hy⟩ : ∃ y, y = f i := ⟨_, rfl⟩
            rw [← hy] at hc hfi HST
            obtain ⟨P, hP⟩ : ∃ P, P = r * 4294967296 := ⟨_, rfl⟩
            have e1 : IntKind.u64.wrap ((r : Int) * 4294967296) = (P : Int) := by rw [IntKind.wrap_u64]; omega
            have e2 : bits .or .u64 (P : Int) (y : Int) = ((r * 4294967296 + y : Nat) : Int) := by
              rw [u64_or_nat _ _ (by omega) (by omega), hP]
              congr 1
              have := Nat.shiftLeft_add_eq_or_of_lt (i := 32) (b := y) hfi r
              rw [Nat.shiftLeft_eq] at this
              exact this.symm
            obtain ⟨X, hX⟩ : ∃ X, X = r * 4294967296 + y := ⟨_, rfl⟩
            rw [← hX] at e2 HST
            have xl : X < 42949672960 := by omega
            have i1 : (i : Int) < (n : Int) := by omega
            have hf1 := hg.frozen i
            have hcr := hg.get i (row_get n (fun j => .int .u64 (g j : Int)) i (by omega))
            have HS := Lib.hid (hg.set_ i (.int .u64 ((X / 10 : Nat) : Int)))
            have HWR := Lib.hid (show wo.heap.size < wr.heap.size from hg.lt)
            have HY := Lib.hid hy
            have HI := Lib.hid hi
            clear hg hgs hg0 hx hbx hP hX hlb hy hi
            go_wp2_with fail
            go_roundw
            case rel =>
              refine ⟨X % 10, i, fun j => if j = i then X / 10 else g j, val_int (by omega), by omega, rfl, by have := HI.out; omega, ?_, ?_, ?_, HST.out, ?_⟩
              · have h1 := HS.out
                rw [row_set] at h1
                rw [row_congr n (fun j => .int .u64 (((if j = i then X / 10 else g j : Nat)) : Int)) (fun j => if j = i then .int .u64 ((X / 10 : Nat) : Int) else .int .u64 (g j : Int)) fun j hj => by
                  show Value.int .u64 (((if j = i then X / 10 else g j : Nat)) : Int) = _
                  by_cases e : j = i
                  · rw [if_pos e, if_pos e]
                  · rw [if_neg e, if_neg e]]
                exact h1
              · intro j hj
                show (if j = i then X / 10 else g j) < 4294967296
                split
                · omega
                · exact HGS.out j hj
              · intro j hj
                show (if j = i then X / 10 else g j) = 0
                rw [if_neg (by omega)]
                exact HG0.out j (by omega)
              · exact HBX.out.setCell (p := ⟨wo.heap.size, i, none⟩) (Nat.le_refl _) _
            case measure => simp [intOf]
end Go.Proofs.YtifgealimgedpaaDoor.Nats
