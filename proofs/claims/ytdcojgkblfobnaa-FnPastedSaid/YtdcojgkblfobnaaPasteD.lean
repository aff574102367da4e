/- The joiner's Done: the pieces are laid into one row, each at its offset. The walk. -/
import Derived.Test.YtdcojgkblfobnaaPasteC
namespace Go.Proofs.Ytdcojgkblfobnaa.Paste
open Go.RowKit Go.Proofs.Ytdcojgkblfobnaa.Aid
attribute [local go_sem ↓] Go.wp_at_zero Go.wp_at_succ
/-- The byte of a text at a place, as a number. -/
def tv (T : List UInt8) (p : Nat) : Int := ((T.getD p 0).toNat : Int)
def u8 (x : Int) : Value := .int .u8 x
/-- A piece lies in the text at its offset. -/
def Fits (T : List UInt8) (o : Nat) (s : ByteArray) : Prop := o + s.size ≤ T.length ∧ ∀ j, j < s.size → s.data.toList[j]? = T[o + j]?
theorem info5 : (Try.prog.info? 5).map (fun i => (i.zero, i.size, i.bytes)) = some (some (.int .u8 0), 1, 1) := by kernel_rfl
theorem make_bytes (L : Nat) (hL : L ≤ 1000000) (w : World) : (Instr.makeSlice 55 (.int .u32 L) (.int .u32 L)).run Try.prog w = .ok (.slice (some ⟨w.heap.size, 0, none⟩) L L) (w.alloc (.cells (row L fun _ => u8 0).toArray 5)) := by
  obtain ⟨i0, hi, hz0, hz1, hz2⟩ := info_parts info5
  have h := run_make (P := Try.prog) w 55 5 i0 _ Try.underlying55 hi hz0 .u32 .u32 L L (by omega) (Int.le_refl _) (by rw [hz2]; omega) (by omega)
  rw [h, hz1]
  have e : madeCells (Value.int .u8 0).cells (((L : Int)).toNat * 1) = (row L fun _ => u8 0).toArray := by
    rw [← Array.toList_inj, Int.toNat_natCast, Nat.mul_one]
    have : (Value.int .u8 0).cells = #[.int .u8 0] := rfl
    rw [this, toList_madeCells_one]
    simp [row, u8, List.map_const']
  rw [e]
  simp
/-- What stands behind a copy. -/
theorem splice_row (T : List UInt8) (L off : Nat) (x : Nat → Int) (s : ByteArray) (hL : L = T.length) (h : Fits T off s) : splice (row L fun p => u8 (x p)) off (strCells s) = row L fun p => u8 (if off ≤ p ∧ p < off + s.size then tv T p else x p) := by
  obtain ⟨h1, h2⟩ := h
  apply List.ext_getElem?
  intro p
  have hl := strCells_length s
  rcases Nat.lt_or_ge p L with hp | hp
  · rw [row_get _ _ _ hp]
    unfold splice
    by_cases c1 : p < off
    · rw [List.getElem?_append_left (by rw [List.length_take, row_length]; omega), List.getElem?_take_of_lt c1, row_get _ _ _ hp, if_neg (by omega)]
    · rw [List.getElem?_append_right (by rw [List.length_take, row_length]; omega), List.length_take, row_length, Nat.min_eq_left (by omega)]
      by_cases c2 : p < off + s.size
      · rw [List.getElem?_append_left (by omega), if_pos ⟨by omega, c2⟩]
        have := h2 (p - off) (by omega)
        rw [show off + (p - off) = p from by omega, List.getElem?_eq_getElem (by omega : p < T.length)] at this
        simp only [strCells, List.getElem?_map, this, Option.map_some, u8, tv, List.getD, List.getElem?_eq_getElem (by omega : p < T.length), Option.getD_some]
      · rw [List.getElem?_append_right (by omega), List.getElem?_drop, hl, show off + s.size + (p - off - s.size) = p from by omega, row_get _ _ _ hp, if_neg (by omega)]
  · rw [List.getElem?_eq_none (by rw [length_splice _ _ _ (by rw [row_length, hl]; omega), row_length]; exact hp), List.getElem?_eq_none (by rw [row_length]; exact hp)]
/-- Pieces, the first k of them, cover a place. -/
def Covered (k : Nat) (o : Nat → Nat) (s : Nat → ByteArray) (p : Nat) : Prop := ∃ i, i < k ∧ o i ≤ p ∧ p < o i + (s i).size
theorem covered_step {k : Nat} {o : Nat → Nat} {s : Nat → ByteArray} {p : Nat} (h : Covered (k + 1) o s p) (hn : ¬ (o k ≤ p ∧ p < o k + (s k).size)) : Covered k o s p := by
  obtain ⟨i, h1, h2, h3⟩ := h
  refine ⟨i, ?_, h2, h3⟩
  rcases Nat.lt_or_ge i k with h | h
  · exact h
  · obtain rfl : i = k := by omega
    exact absurd ⟨h2, h3⟩ hn
theorem strCells_get (s : ByteArray) (j : Nat) (h : j < s.size) : (strCells s)[j]? = some (.int .u8 ((s.data.toList.getD j 0).toNat : Int)) := by
  have hj : j < s.data.toList.length := by simpa using h
  simp only [strCells, List.getElem?_map, List.getElem?_eq_getElem hj, Option.map_some, List.getD, Option.getD_some]
theorem strCells_one (s : ByteArray) : ∀ v ∈ strCells s, v.oneCell' = true := by
  intro v hv
  simp only [strCells, List.mem_map] at hv
  obtain ⟨b, _, rfl⟩ := hv
  rfl
set_option maxRecDepth 100000 in
set_option maxHeartbeats 2000000 in
theorem done (g ns nb L base : Nat) (sv bv : Value) (last : Int) (T : List UInt8) (sf bf : Nat → ByteArray) (so bo bh bc : Nat → Nat) (w : World)
    (hj : Blk w g 110 (joiner sv bv L last)) (hS : w.ownsRow base 131 2 sv ns (row2 ns (fun i => .string (sf i)) fun i => .int .u32 (so i))) (hB : w.ownsRow base 133 2 bv nb (row2 nb (fun i => .slice (some ⟨bh i, 0, none⟩) (bf i).size (bc i)) fun i => .int .u32 (bo i)))
    (hL : L = T.length) (hmax : L ≤ 1000000) (hns : ns ≤ 1000) (hnb : nb ≤ 1000) (fS : ∀ i, i < ns → Fits T (so i) (sf i)) (fB : ∀ i, i < nb → Fits T (bo i) (bf i)) (h0 : ns = 0 → nb = 0)
    (hcell : ∀ i, i < nb → ∀ j, j < (bf i).size → bh i < w.heap.size ∧ w.cell? ⟨bh i, j, none⟩ = some (.int .u8 (((bf i).data.toList.getD j 0).toNat : Int)))
    (hcov : ∀ p, p < L → Covered ns so sf p ∨ Covered nb bo bf p) :
    Calls Try.prog 63 #[.pointer (some ⟨g, 0, none⟩)] w fun e w' => (∃ r, e = .returned (.slice (some ⟨r, 0, none⟩) L L) ∧ ∀ i, i < L → w'.cell? ⟨r, i, none⟩ = some (.int .u8 (tv T i))) ∧ Below w.heap.size w w' := by
  have hg : Blk w g 110 [sv, bv, .int .u32 L, .int .u8 last] := hj
  obtain ⟨A, cA, rfl, hA⟩ := own_form hS
  obtain ⟨C, cB, rfl, hC⟩ := own_form hB
  have HMK := make_bytes L hmax
  have HG := Lib.hid hg
  have c0 := hg.get 0 rfl
  have c1 := hg.get 1 rfl
  have c2 := hg.get 2 rfl
  have d0 := (hg.alloc (.cells (row L fun _ => u8 0).toArray 5)).get 0 rfl
  have d1 := (hg.alloc (.cells (row L fun _ => u8 0).toArray 5)).get 1 rfl
  clear hj hg hS hB
  by_cases hz : ns = 0
  · have hnz := h0 hz
    subst hz hnz
    have hL0 : L = 0 := by
      rcases Nat.eq_zero_or_pos L with h | h
      · exact h
      · rcases hcov 0 h with ⟨i, hi, _⟩ | ⟨i, hi, _⟩ <;> omega
    subst hL0
    have HMK0 : ∀ w : World, (Instr.makeSlice 55 (.int .u32 0) (.int .u32 0)).run Try.prog w = .ok (.slice (some ⟨w.heap.size, 0, none⟩) 0 0) (w.alloc (.cells (row 0 fun _ => u8 0).toArray 5)) := HMK
    clear hL fS fB hcell hcov hA hC h0 hns hnb hmax HMK
    go_enter Try.func63, Try.ntmps63
    go_wp2_with fail
    go_rounds 1
    go_rounds 1
    go_returns
    exact ⟨⟨_, rfl, fun i hi => by omega⟩, below_at (Below.refl _ _) _⟩
  · have hns0 : (ns : Int) ≠ 0 := by omega
    have hz' : ((ns : Int) == 0) = false := by simp; omega
    have HL := Lib.hid hL
    have FS := Lib.hid fS
    have FB := Lib.hid fB
    have HCELL := Lib.hid hcell
    have HCOV := Lib.hid hcov
    have HA := Lib.hid hA
    have HC := Lib.hid hC
    clear hL fS fB hcell hcov hA hC h0
    go_enter Try.func63, Try.ntmps63
    go_wp2_with fail
    go_loopw [49] (fun v wr => ∃ (k : Nat) (x : Nat → Int), k ≤ ns ∧ v = .int .i64 k ∧ Blk wr w.heap.size 5 (row L fun p => u8 (x p)) ∧ Below w.heap.size w wr ∧ ∀ p, p < L → Covered k so sf p → x p = tv T p) (fun v _ => ns - (intOf v).toNat)
    case atStart => 
      refine ⟨0, fun _ => 0, Nat.zero_le _, rfl, Blk.new _ _ _, below_at (Below.refl _ _) _, ?_⟩
      rintro p _ ⟨i, hi, _⟩
      omega
    case round =>
      obtain ⟨k, x, hk, rfl, hr, hb, hx⟩ := hrel
      by_cases hlt : k < ns
      · obtain ⟨ga, rfl, hga0, hga, ce0⟩ := HA.out (k * 2) (by omega)
        obtain ⟨ga', e, _, _, ce1⟩ := HA.out (k * 2 + 1) (by omega)
        obtain rfl : ga = ga' := by injection e with e; injection e
        rw [(row2_get _ _ _ k hlt).1] at ce0
        rw [(row2_get _ _ _ k hlt).2] at ce1
        have cr0 : wr.cell? ⟨ga, k * 2, none⟩ = some (.string (sf k)) := bcell hb hga ce0
        have cr1 : wr.cell? ⟨ga, k * 2 + 1, none⟩ = some (.int .u32 (so k)) := bcell hb hga ce1
        have i0 : (0 : Int) ≤ (k : Int) := by omega
        have i1 : (k : Int) < ns := by omega
        clear ce0 ce1
        obtain ⟨f1, -⟩ := FS.out k hlt
        rw [← HL.out] at f1
        have hrd := Lib.hid ((hr.alloc (.cells #[.string (sf k), .int .u32 (so k)] 131)).drew)
        have bdr := Lib.hid ((below_at hb (.cells #[.string (sf k), .int .u32 (so k)] 131)).drew)
        have e0 : (0 : Int) ≤ (so k : Int) := by omega
        have e1 : (so k : Int) ≤ L := by omega
        have s5 : (Try.prog.info? 5).map (·.size) = some 1 := by kernel_rfl
        have hfit : so k + (sf k).size ≤ (row L fun p => u8 (x p)).length := by rw [row_length]; exact f1
        have HFIT := Lib.hid hfit
        clear hfit
        go_wp2_with fail
        go_region_law ((refine step_copy_str (by rfl) (.tmp 56) (.tmp 58) 55 9 (by rfl) 5 Try.underlying55 s5 _ _ _ (sf k) (by rfl) (by rfl) w.heap.size (so k) (row L fun p => u8 (x p)) 5 hrd.out (by omega) (fun h => if_neg (by omega)) HFIT.out ?_; intro w2 H2 G2))
        all_goals
          go_wp2_with fail
          go_roundw
          case rel =>
            have H2' := H2.out
            rw [splice_row T L (so k) x (sf k) HL.out (FS.out k hlt)] at H2'
            refine ⟨k + 1, _, by omega, by go_num, H2', bdr.out.grown G2 bdr.out.size (by simp), ?_⟩
            intro p hp hc
            by_cases hin : so k ≤ p ∧ p < so k + (sf k).size
            · exact if_pos hin
            · rw [if_neg hin]
              exact hx p hp (covered_step hc hin)
          case measure => simp [intOf]; omega
      · obtain rfl : k = ns := by omega
        have d1r := bcell hb HG.out.lt c1
        go_wp2_with fail
        go_loopw [66] (fun v wq => ∃ (m : Nat) (y : Nat → Int), m ≤ nb ∧ v = .int .i64 m ∧ Blk wq w.heap.size 5 (row L fun p => u8 (y p)) ∧ Below w.heap.size w wq ∧ ∀ p, p < L → (Covered k so sf p ∨ Covered m bo bf p) → y p = tv T p) (fun v _ => nb - (intOf v).toNat)
        case atStart =>
          refine ⟨0, x, Nat.zero_le _, rfl, hr, hb, ?_⟩
          rintro p hp (h | ⟨i, hi, _⟩)
          · exact hx p hp h
          · omega
        case round =>
          obtain ⟨m, y, hm, rfl, hrq, hbq, hy⟩ := hrel
          by_cases hlt : m < nb
          · obtain ⟨ga, rfl, hga0, hga, ce0⟩ := HC.out (m * 2) (by omega)
            obtain ⟨ga', e, _, _, ce1⟩ := HC.out (m * 2 + 1) (by omega)
            obtain rfl : ga = ga' := by injection e with e; injection e
            rw [(row2_get _ _ _ m hlt).1] at ce0
            rw [(row2_get _ _ _ m hlt).2] at ce1
            have cr0 : wr.cell? ⟨ga, m * 2, none⟩ = some (.slice (some ⟨bh m, 0, none⟩) (bf m).size (bc m)) := bcell hbq hga ce0
            have cr1 : wr.cell? ⟨ga, m * 2 + 1, none⟩ = some (.int .u32 (bo m)) := bcell hbq hga ce1
            have i0 : (0 : Int) ≤ (m : Int) := by omega
            have i1 : (m : Int) < nb := by omega
            clear ce0 ce1
            obtain ⟨f1, -⟩ := FB.out m hlt
            rw [← HL.out] at f1
            have hrd := Lib.hid ((hrq.alloc (.cells #[.slice (some ⟨bh m, 0, none⟩) (bf m).size (bc m), .int .u32 (bo m)] 133)).drew)
            have bdr := Lib.hid ((below_at hbq (.cells #[.slice (some ⟨bh m, 0, none⟩) (bf m).size (bc m), .int .u32 (bo m)] 133)).drew)
            have e0 : (0 : Int) ≤ (bo m : Int) := by omega
            have e1 : (bo m : Int) ≤ L := by omega
            have s5 : (Try.prog.info? 5).map (·.size) = some 1 := by kernel_rfl
            have HFIT : Hid (bo m + (strCells (bf m)).length ≤ (row L fun p => u8 (y p)).length) := Lib.hid (by rw [row_length, strCells_length]; exact f1)
            have HPOS : Hid (0 < (strCells (bf m)).length → ∃ ad, some (⟨bh m, 0, none⟩ : Addr) = some ad ∧ ∀ j v, (strCells (bf m))[j]? = some v → (wr.alloc (.cells #[.slice (some ⟨bh m, 0, none⟩) (bf m).size (bc m), .int .u32 (bo m)] 133)).drew.cell? (ad.add j) = some v) := by
              refine Lib.hid fun _ => ⟨_, rfl, fun j v hj => ?_⟩
              have hjl : j < (bf m).size := by
                rcases Nat.lt_or_ge j (bf m).size with h | h
                · exact h
                · rw [List.getElem?_eq_none (by rw [strCells_length]; exact h)] at hj
                  cases hj
              rw [strCells_get _ _ hjl] at hj
              obtain ⟨hl1, hl2⟩ := HCELL.out m hlt j hjl
              rw [add_at, Nat.zero_add]
              exact (bcell bdr.out hl1 hl2).trans hj
            have HLEN := Lib.hid (strCells_length (bf m))
            have HONE := Lib.hid (strCells_one (bf m))
            go_wp2_with fail
            go_region_law ((refine step_copy_row (by rfl) (.tmp 73) (.tmp 75) 55 55 (by rfl) 5 Try.underlying55 s5 _ _ _ _ (bf m).size (bc m) (by rfl) (by rfl) w.heap.size (bo m) (row L fun p => u8 (y p)) 5 hrd.out (strCells (bf m)) HLEN.out (by omega) (fun h => ⟨if_neg (by have := HLEN.out; omega), HPOS.out h⟩) HFIT.out HONE.out ?_; intro w2 H2 G2))
            all_goals
              go_wp2_with fail
              go_roundw
              case rel =>
                have H2' := H2.out
                rw [splice_row T L (bo m) y (bf m) HL.out (FB.out m hlt)] at H2'
                refine ⟨m + 1, _, by omega, by go_num, H2', bdr.out.grown G2 bdr.out.size (by simp), ?_⟩
                intro p hp hc
                by_cases hin : bo m ≤ p ∧ p < bo m + (bf m).size
                · exact if_pos hin
                · rw [if_neg hin]
                  refine hy p hp (hc.imp id fun h => covered_step h hin)
              case measure => simp [intOf]; omega
          · obtain rfl : m = nb := by omega
            go_wp2_with fail
            go_returns
            refine ⟨⟨_, rfl, fun i hi => ?_⟩, hbq⟩
            have h1 := hrq.get i (row_get _ _ i hi)
            rw [hy i hi (HCOV.out i hi)] at h1
            exact h1
end Go.Proofs.Ytdcojgkblfobnaa.Paste
