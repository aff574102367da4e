/- The package's NumberToMinifiedName: how long a name is. The walk. -/
import Derived.Test.YtdcojgkblfobnaaDoorMiniA
import Derived.Test.YtdcojgkblfobnaaDoorShelf
namespace Go.Proofs.YtdcojgkblfobnaaDoor.Mini
open Go.RowKit Go.Proofs.YtdcojgkblfobnaaDoor.Aid
/-- How many letters the tail of a number takes. -/
def tailLen (n : Nat) : Nat := if h : n = 0 then 0 else 1 + tailLen ((n - 1) / 64)
termination_by n
decreasing_by omega
theorem tailLen_pos (n : Nat) (h : 0 < n) : tailLen n = 1 + tailLen ((n - 1) / 64) := by
  rw [tailLen]
  rw [dif_neg (by omega)]
theorem tailLen_mono (k : Nat) : ∀ i, i ≤ k → tailLen i ≤ tailLen k := by
  induction k using Nat.strongRecOn with
  | _ k ih =>
    intro i hi
    rcases Nat.eq_zero_or_pos i with h | h
    · rw [h, tailLen, dif_pos rfl]
      exact Nat.zero_le _
    · rw [tailLen_pos i h, tailLen_pos k (by omega)]
      have := ih ((k - 1) / 64) (by omega) ((i - 1) / 64) (Nat.div_le_div_right (by omega))
      omega
def miniLen (i : Nat) : Nat := 1 + tailLen (i / 54)
theorem miniLen_mono {i k : Nat} (h : i ≤ k) : miniLen i ≤ miniLen k := by
  have := tailLen_mono (k / 54) (i / 54) (Nat.div_le_div_right h)
  unfold miniLen
  omega
theorem tailLen_le (n : Nat) : tailLen n ≤ n := by
  induction n using Nat.strongRecOn with
  | _ n ih =>
    rcases Nat.eq_zero_or_pos n with h | h
    · rw [h, tailLen, dif_pos rfl]
      exact Nat.le_refl _
    · rw [tailLen_pos n h]
      have := ih ((n - 1) / 64) (by omega)
      omega
/-- One letter out of a text. -/
theorem letter (S : ByteArray) (j : Int) (h0 : 0 ≤ j) (h1 : j + 1 ≤ S.size) : ∃ L : ByteArray, L.size = 1 ∧ ∀ w, (Instr.slice 9 (.string S) (some (.int .i64 j)) (some (.int .i64 (j + 1))) none).run Tryd.prog w = .ok (.string L) w := by
  refine ⟨S.extract j.toNat (j + 1).toNat, ?_, fun w => ?_⟩
  · rw [ByteArray.size_extract]
    omega
  · have h2 : (0 : Int) ≤ j + 1 := by omega
    have h3 : j ≤ ((j + 1).toNat : Int) := by omega
    have h4 : ¬ ((j + 1).toNat : Int) < j := by omega
    have h5 : max j 0 ≤ j + 1 := by omega
    have hb := run_sliceBound (P := Tryd.prog) w .i64 j (j + 1).toNat BoundsCode.sliceB (by omega) (by omega)
    simp [Instr.slice, run_underlying Tryd.underlying9, Instr.sliceBounds, run_sliceBound, *]
theorem cells_snoc (l : List UInt8) (s : ByteArray) : Lib.byteCells l ++ Lib.strCells s = Lib.byteCells (l ++ s.data.toList) := by
  simp [Lib.byteCells, Lib.strCells]
set_option maxRecDepth 100000 in
set_option maxHeartbeats 2000000 in
theorem minified (H T : ByteArray) (i : Nat) (w : World) (hH : H.size = 54) (hT : T.size = 64) (hi : i ≤ 1073741824) :
    Calls Tryd.prog 12 #[.agg #[.string H, .string T], .int .i64 i] w fun e w' => (∃ s : ByteArray, e = .returned (.string s) ∧ s.size = miniLen i) ∧ Below w.heap.size w w' := by
  have i0 : (0 : Int) ≤ (i : Int) := by omega
  have i1 : (i : Int) ≤ 1073741824 := by omega
  obtain ⟨L, hL, hsl⟩ := letter H ((i : Int) % 54) (by omega) (by omega)
  have HT := letter T
  rw [hT] at HT
  have HHT := Lib.hid HT
  clear HT
  obtain ⟨w1, e1⟩ : ∃ w1, w1 = w.alloc (.cells #[.string H, .string T] 50) := ⟨_, rfl⟩
  have K1 : Blk w1 w.heap.size 50 [.string H, .string T] := by rw [e1]; exact Blk.new w 50 _
  have S1 : w1.heap.size = w.heap.size + 1 := by rw [e1]; simp
  have B1 : Below w.heap.size w w1 := by rw [e1]; exact below_at (Below.refl _ _) _
  have F1 := Lib.fresh_isBuilder 58 5 w1
  rw [S1] at F1
  have S1' := Lib.hid S1
  have K1' := Lib.hid K1
  have B1' := Lib.hid B1
  have F1' := Lib.hid F1
  have E1' := Lib.hid e1
  clear e1 K1 S1 B1 F1
  go_enter Tryd.func12, Tryd.ntmps12
  go_wp2_with fail
  rw [← E1'.out]
  refine (writeString (w.heap.size + 1) (w.heap.size + 1) [] L _ F1'.out (by simp; omega) (by simp [S1'.out])).mono ?_
  rintro e w2 ⟨rfl, hb2, hbel2⟩
  have B2 := Lib.hid (show Below (w.heap.size + 1) w1 w2 from by
    have := below_at (Below.refl w1.heap.size w1) (.cells #[.pointer none, .slice none 0 0] 58)
    rw [S1'.out] at this
    exact this.trans hbel2)
  have hb3 : Lib.IsBuilder 58 5 (w.heap.size + 1) (w.heap.size + 1) (Lib.byteCells L.data.toList) w2 := .inr (by simpa [Lib.byteCells, Lib.strCells] using hb2)
  have HB3 := Lib.hid hb3
  have hLl : L.data.toList.length = 1 := by rw [← hL, Array.length_toList]; rfl
  have HLl := Lib.hid hLl
  clear hb2 hbel2 hb3 hLl
  go_wp2_with fail
  go_loopw [1] (fun v wr => ∃ (n : Nat) (l : List UInt8), v = .int .i64 n ∧ n ≤ 1073741824 ∧ l.length + tailLen n = miniLen i ∧ Lib.IsBuilder 58 5 (w.heap.size + 1) (w.heap.size + 1) (Lib.byteCells l) wr ∧ Below (w.heap.size + 1) w1 wr) (fun v _ => (intOf v).toNat)
  case atStart =>
    refine ⟨i / 54, L.data.toList, by go_num, by omega, ?_, HB3.out, B2.out⟩
    rw [HLl.out]
    rfl
  case round =>
    obtain ⟨n, l, rfl, hn, hlen, hbd, hbel⟩ := hrel
    have hml : miniLen i ≤ 1 + i / 54 := by unfold miniLen; have := tailLen_le (i / 54); omega
    have c1 : wr.cell? ⟨w.heap.size, 1, none⟩ = some (.string T) := bcell hbel (by omega) (K1'.out.get 1 rfl)
    have hsz : w.heap.size + 1 ≤ wr.heap.size := by have := hbel.size; have := S1'.out; omega
    by_cases hpos : 0 < n
    · have j0 : (0 : Int) < (n : Int) := by omega
      have j1 : (n : Int) ≤ 1073741824 := by omega
      obtain ⟨M, hM, hml2⟩ := HHT.out (((n : Int) - 1) % 64) (by omega) (by omega)
      have HBD := Lib.hid hbd
      have HBEL := Lib.hid hbel
      have hll : (Lib.byteCells l).length = l.length := by simp [Lib.byteCells]
      have HLL := Lib.hid hll
      have HLEN := Lib.hid hlen
      have hbound : l.length ≤ 1073741824 := by omega
      clear hbd hbel hll hlen
      go_wp2_with fail
      refine (writeString (w.heap.size + 1) (w.heap.size + 1) (Lib.byteCells l) M wr HBD.out (by rw [HLL.out]; omega) hsz).mono ?_
      rintro e w3 ⟨rfl, hb4, hbel4⟩
      rw [cells_snoc] at hb4
      have HB4 := Lib.hid (show Lib.IsBuilder 58 5 (w.heap.size + 1) (w.heap.size + 1) (Lib.byteCells (l ++ M.data.toList)) w3 from .inr hb4)
      have HBEL4 := Lib.hid (HBEL.out.trans hbel4)
      clear hb4 hbel4
      go_wp2_with fail
      go_roundw
      case rel =>
        refine ⟨(n - 1) / 64, l ++ M.data.toList, by go_num, by omega, ?_, HB4.out, HBEL4.out⟩
        have e1 := HLEN.out
        rw [tailLen_pos n hpos] at e1
        have e2 : M.data.toList.length = 1 := by rw [← hM, Array.length_toList]; rfl
        rw [List.length_append, e2]
        omega
      case measure => simp [intOf]; omega
    · obtain rfl : n = 0 := by omega
      have HBEL := Lib.hid hbel
      clear hbel
      go_wp2_with fail
      refine (Tryd.Builder_String_any (w.heap.size + 1) (w.heap.size + 1) l wr hbd hsz).mono ?_
      rintro e w3 ⟨rfl, hb5⟩
      have HB5 := Lib.hid (B1'.out.trans ((HBEL.out.trans hb5).mono (by have := B1'.out.size; omega)))
      have hsl2 : (⟨l.toArray⟩ : ByteArray).size = l.length := by simp [ByteArray.size]
      have HSL := Lib.hid hsl2
      have HLEN := Lib.hid hlen
      clear hb5 hsl2 hlen
      go_wp2_with fail
      go_returns
      refine ⟨⟨_, rfl, ?_⟩, HB5.out⟩
      have e1 := HLEN.out
      rw [tailLen, dif_pos rfl] at e1
      rw [HSL.out]
      omega
end Go.Proofs.YtdcojgkblfobnaaDoor.Mini
