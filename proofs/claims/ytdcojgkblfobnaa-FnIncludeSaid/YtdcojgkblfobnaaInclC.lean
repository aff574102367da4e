/- The package's CharFreq.Scan of the text "a" over zeros, and the thin function impl.Scan of it. The walks. -/
import Derived.Test.YtdcojgkblfobnaaInclB
namespace Go.Proofs.Ytdcojgkblfobnaa.Incl
open Go.RowKit Go.Proofs.Ytdcojgkblfobnaa.Aid
def one (i : Nat) : Int := if i = 0 then 1 else 0
def zf (_ : Nat) : Int := 0
theorem one_row : (row 64 fun i => i32 (zf i)).set 0 (i32 1) = row 64 fun i => i32 (one i) := by
  rw [row_set]
  refine row_congr _ _ _ fun i _ => ?_
  by_cases h : i = 0 <;> simp [one, zf, h]
set_option maxRecDepth 100000 in
set_option maxHeartbeats 1000000 in
theorem scan_a (g : Nat) (w : World) (hg : Blk w g 102 (row 64 fun i => i32 (zf i))) :
    Calls Try.prog 69 #[.pointer (some ⟨g, 0, none⟩), .string ⟨#[97]⟩, .int .i32 1] w fun e' w' => e' = .returned (.tuple #[]) ∧ Blk w' g 102 (row 64 fun i => i32 (one i)) ∧ w.grownBy w' (some g) := by
  have c1 : w.cell? ⟨g, 0, none⟩ = some (.int .i32 0) := hg.get 0 (row_get 64 _ 0 (by omega))
  have c3 := hg.frozen 0
  have HG := Lib.hid hg
  clear hg
  have hb : ((⟨#[97]⟩ : ByteArray)[0]'(by decide)).toNat = 97 := rfl
  go_enter Try.func69, Try.ntmps69
  go_wp2_with fail
  refine wp_loop_rounds 2 ?_
  rw [rounds_succ]
  go_wp2
  go_region
  go_wp2
  rw [rounds_succ]
  go_wp2
  go_returns
  refine ⟨rfl, ?_, only_drew (only_setCell (World.grownBy.refl _ _) (.inl rfl) _)⟩
  have := (HG.out.set_ 0 (i32 1)).drew
  rw [one_row] at this
  exact this
set_option maxRecDepth 100000 in
set_option maxHeartbeats 1000000 in
theorem impl_scan (A : Option Addr) (c : Nat) (w : World) (hA : Reads w A 64 fun i => i32 (zf i)) :
    Calls Try.prog 51 #[.slice A 64 c, .string ⟨#[97]⟩, .int .i32 1] w fun e' w' => ∃ g z, e' = .returned (.slice (some ⟨g, 0, none⟩) 64 z) ∧ w'.ownsRow w.heap.size 21 1 (.slice (some ⟨g, 0, none⟩) 64 z) 64 (row 64 fun i => i32 (one i)) ∧ Below w.heap.size w w' := by
  have HA := Lib.hid hA
  clear hA
  obtain ⟨i0, hi, hz0, hz1, hz2⟩ := info_parts info21
  go_enter Try.func51, Try.ntmps51
  go_wp2_with fail
  refine (counts A c zf w HA.out).mono ?_
  rintro e1 w1 ⟨rfl, B1⟩
  have hL := Lib.hid (row_length 64 (fun i => i32 (zf i)))
  have h1 := Lib.hid (one32 zf)
  have hLz : Hid ((row 64 fun i => i32 (zf i)).length = zrow.length) := Lib.hid rfl
  have hT := Lib.hid (Blk.new w1 102 zrow)
  have BZ := Lib.hid (below_at (Below.refl _ w1) (.cells zrow.toArray 102))
  have SZ := Lib.hid (show (w1.alloc (.cells zrow.toArray 102)).heap.size = w1.heap.size + 1 from by simp)
  have B1s := B1.size
  rw [zeros64'] at hT BZ SZ
  have K2 : Blk _ w1.heap.size 102 zrow := hT.out
  clear HA
  go_wp2_with (with_reducible refine wpList_store_blk rfl 102 (.tmp 7) (.tmp 9) rfl w1.heap.size zrow (row 64 fun i => i32 (zf i)) 102 rfl rfl K2 hLz.out (by rw [hL.out]; exact size102) h1.out ?_)
  intro w3 H3 G3 S3
  have B3 : Below w1.heap.size w1 w3 := BZ.out.grown G3 BZ.out.size (by simp)
  have T3 : w1.heap.size + 1 ≤ w3.heap.size := by omega
  clear hT BZ SZ G3 S3 K2
  go_wp2_with fail
  refine (scan_a w1.heap.size w3 H3).mono ?_
  rintro e5 w5 ⟨rfl, H5, G5⟩
  have B5 : Below w1.heap.size w1 w5 := B3.grown G5 B3.size (by simp)
  have T5 : w1.heap.size + 1 ≤ w5.heap.size := Nat.le_trans T3 G5.size
  have hLa : Hid ((row 64 (fun i => i32 (one i))).length = 64 * 1) := Lib.hid (row_length 64 _)
  have h1a := Lib.hid (one32 one)
  clear H3 B3 T3 G5
  go_wp2_with (at_builtin; refine wpList_append_lies _ rfl (.tmp 13) (.tmp 14) 48 rfl w.heap.size 21 i0 _ 1 4 Try.underlying48 hi hz0 hz1 hz2 rfl (by omega) (.slice (some ⟨w5.heap.size, 0, none⟩) 0 0) 0 [] rfl (own_empty w5 _ (by omega) 21) ⟨w1.heap.size, 0, none⟩ 64 64 (row 64 fun i => i32 (one i)) rfl hLa.out ?q1 h1a.out (by omega) (by simp [maxLen]) (by omega) (by simp; omega) (w5.heap.size + 1) (by simp) ?q3)
  case q1 =>
    intro j v hj
    rw [add_at, Nat.zero_add, (H5.alloc _).cell]
    exact hj
  case q3 =>
    intro g cap w6 hown hgrow hat hlt
    have hge : w5.heap.size ≤ g := by
      rcases hat with h | h
      · simp [Value.ownBlock] at h
        omega
      · omega
    have B6 : Below w.heap.size w w6 := by
      have b1 : Below w.heap.size w w5 := B1.trans (B5.mono B1s)
      exact (b1.alloc b1.size _).grown hgrow (by simp; omega) (by simp [Value.ownBlock]; omega)
    clear hgrow hat H5 B5
    go_wp2_with fail
    go_ret
    refine ⟨g, cap, rfl, ?_, B6⟩
    simpa using hown
end Go.Proofs.Ytdcojgkblfobnaa.Incl
