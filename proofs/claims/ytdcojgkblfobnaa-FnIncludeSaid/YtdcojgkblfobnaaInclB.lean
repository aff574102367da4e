/- The package's CharFreq.Include, and the thin function impl.Include: two histograms of 64 counts are added, place by place. The walks. -/
import Derived.Test.YtdcojgkblfobnaaInclA
import Derived.RegionTactic
import Derived.StillTailTactics
import Derived.Deep.AppendLies
namespace Go.Proofs.Ytdcojgkblfobnaa.Incl
open Go.RowKit Go.Proofs.Ytdcojgkblfobnaa.Aid
def addTo (f e : Nat → Int) (k i : Nat) : Int := if i < k then wrap32 (f i + e i) else f i
theorem addTo_at (f e : Nat → Int) (k : Nat) : addTo f e k k = f k := by simp [addTo]
theorem addTo_succ (f e : Nat → Int) (k : Nat) : (row 64 fun i => i32 (addTo f e k i)).set k (i32 (wrap32 (f k + e k))) = row 64 fun i => i32 (addTo f e (k + 1) i) := by
  rw [row_set]
  refine row_congr _ _ _ fun i _ => ?_
  by_cases h : i = k
  · subst h
    simp [addTo]
  · by_cases h2 : i < k
    · simp [addTo, h, h2, show i < k + 1 from by omega]
    · simp [addTo, h, h2, show ¬ i < k + 1 from by omega]
set_option maxHeartbeats 1000000 in
theorem include_ (g h : Nat) (f e : Nat → Int) (w : World) (hne : g ≠ h) (hg : Blk w g 102 (row 64 fun i => i32 (f i))) (hh : Blk w h 102 (row 64 fun i => i32 (e i))) :
    Calls Try.prog 54 #[.pointer (some ⟨g, 0, none⟩), .pointer (some ⟨h, 0, none⟩)] w fun e' w' => e' = .returned (.tuple #[]) ∧ Blk w' g 102 (row 64 fun i => i32 (addTo f e 64 i)) ∧ w.grownBy w' (some g) := by
  have HG := Lib.hid hg
  have HH := Lib.hid hh
  clear hg hh
  go_enter Try.func54, Try.ntmps54
  go_wp2_with fail
  go_loopw [4] (fun v wr => ∃ k : Nat, k ≤ 64 ∧ v = .int .i64 k ∧ Blk wr g 102 (row 64 fun i => i32 (addTo f e k i)) ∧ Blk wr h 102 (row 64 fun i => i32 (e i)) ∧ w.grownBy wr (some g)) (fun v _ => 64 - (intOf v).toNat)
  case atStart => exact ⟨0, Nat.zero_le _, rfl, HG.out, HH.out, World.grownBy.refl _ _⟩
  case round =>
    obtain ⟨k, hk, rfl, hg, hh, ho⟩ := hrel
    by_cases hlt : k < 64
    · have c1 : wr.cell? ⟨g, k, none⟩ = some (.int .i32 (f k)) := by
        have := hg.get k (row_get 64 _ k hlt)
        rwa [addTo_at] at this
      have c2 : wr.cell? ⟨h, k, none⟩ = some (.int .i32 (e k)) := hh.get k (row_get 64 _ k hlt)
      have c3 := hg.frozen k
      have i0 : (0 : Int) ≤ (k : Int) := by omega
      have i1 : (k : Int) < 64 := by omega
      go_wp2_with fail
      go_region
      go_wp2_with fail
      go_roundw
      case rel =>
        refine ⟨k + 1, by omega, by go_num, ?_, (hh.far (Ne.symm hne) _).drew, only_drew (only_setCell ho (.inl rfl) _)⟩
        have := (hg.set_ k (i32 (wrap32 (f k + e k)))).drew
        rw [addTo_succ] at this
        exact this
      case measure => simp [intOf]; omega
    · have hkk : k = 64 := by omega
      subst hkk
      go_wp2_with fail
      go_returns
      exact ⟨rfl, hg, ho⟩
theorem info21 : (Try.prog.info? 21).map (fun i => (i.zero, i.size, i.bytes)) = some (some (.int .i32 0), 1, 4) := by kernel_rfl
/-- append of a whole array of 64 onto a new slice: the slice's cells are the array's. -/
theorem own_empty (w : World) (base : Nat) (h : base ≤ w.heap.size) (e : TypeId) : (w.alloc (.cells #[] e)).ownsRow base e 1 (.slice (some ⟨w.heap.size, 0, none⟩) 0 0) 0 [] :=
  ⟨rfl, .inr ⟨w.heap.size, 0, #[], rfl, h, heap_alloc_new w _, Nat.le_refl _, Nat.zero_le _, rfl, rfl⟩⟩
set_option maxRecDepth 100000 in
set_option maxHeartbeats 1000000 in
theorem impl_include (A B : Option Addr) (c d : Nat) (f e : Nat → Int) (w : World) (hA : Reads w A 64 fun i => i32 (f i)) (hB : Reads w B 64 fun i => i32 (e i)) :
    Calls Try.prog 28 #[.slice A 64 c, .slice B 64 d] w fun e' w' => ∃ g z, e' = .returned (.slice (some ⟨g, 0, none⟩) 64 z) ∧ w'.ownsRow w.heap.size 21 1 (.slice (some ⟨g, 0, none⟩) 64 z) 64 (row 64 fun i => i32 (addTo f e 64 i)) ∧ Below w.heap.size w w' := by
  have HA := Lib.hid hA
  have HB := Lib.hid hB
  clear hA hB
  obtain ⟨i0, hi, hz0, hz1, hz2⟩ := info_parts info21
  go_enter Try.func28, Try.ntmps28
  go_wp2_with fail
  refine (counts A c f w HA.out).mono ?_
  rintro e1 w1 ⟨rfl, B1⟩
  go_wp2_with fail
  refine (counts B d e w1 (HB.out.below B1)).mono ?_
  rintro e2 w2 ⟨rfl, B2⟩
  have hL := Lib.hid (row_length 64 (fun i => i32 (f i)))
  have hLe := Lib.hid (row_length 64 (fun i => i32 (e i)))
  have h1 := Lib.hid (one32 f)
  have h1e := Lib.hid (one32 e)
  have hLz : Hid ((row 64 fun i => i32 (f i)).length = zrow.length) := Lib.hid ((row_length _ _).trans (row_length _ _).symm)
  have hLze : Hid ((row 64 fun i => i32 (e i)).length = zrow.length) := Lib.hid ((row_length _ _).trans (row_length _ _).symm)
  have hT := Lib.hid (two_new w2)
  have BZ := Lib.hid (below_at (below_at (Below.refl _ w2) (.cells zrow.toArray 102)) (.cells zrow.toArray 102))
  have SZ := Lib.hid (show ((w2.alloc (.cells zrow.toArray 102)).alloc (.cells zrow.toArray 102)).heap.size = w2.heap.size + 2 from by simp)
  have B12 := B1.trans (B2.mono B1.size)
  have B12s := B12.size
  rw [zeros64'] at hT BZ SZ
  have K2 : Blk _ w2.heap.size 102 zrow := hT.out.1
  clear HA HB B1 B2
  go_wp2_with (with_reducible refine wpList_store_blk rfl 102 (.tmp 5) (.tmp 8) rfl w2.heap.size zrow (row 64 fun i => i32 (f i)) 102 rfl rfl K2 hLz.out (by rw [hL.out]; exact size102) h1.out ?_)
  intro w3 H3 G3 S3
  have K3 : Blk w3 (w2.heap.size + 1) 102 zrow := hT.out.2.grown G3 (by simp)
  have B3 : Below w2.heap.size w2 w3 := BZ.out.grown G3 BZ.out.size (by simp)
  have T3 : w2.heap.size + 2 ≤ w3.heap.size := by omega
  clear hT BZ SZ G3 S3 K2
  go_wp2_with (with_reducible refine wpList_store_blk rfl 102 (.tmp 6) (.tmp 10) rfl (w2.heap.size + 1) zrow (row 64 fun i => i32 (e i)) 102 rfl rfl K3 hLze.out (by rw [hLe.out]; exact size102) h1e.out ?_)
  intro w4 H4 G4 S4
  have H3' := H3.grown G4 (by simp)
  have B4 : Below w2.heap.size w2 w4 := B3.grown G4 B3.size (by simp)
  have T4 : w2.heap.size + 2 ≤ w4.heap.size := by omega
  clear K3 H3 B3 G4 S4 T3
  go_wp2_with fail
  refine (include_ w2.heap.size (w2.heap.size + 1) f e w4 (by omega) H3' H4).mono ?_
  rintro e5 w5 ⟨rfl, H5, G5⟩
  have B5 : Below w2.heap.size w2 w5 := B4.grown G5 B4.size (by simp)
  have T5 : w2.heap.size + 2 ≤ w5.heap.size := Nat.le_trans T4 G5.size
  have hLa : Hid ((row 64 (fun i => i32 (addTo f e 64 i))).length = 64 * 1) := Lib.hid (row_length 64 _)
  have h1a := Lib.hid (one32 (addTo f e 64))
  clear H3' H4 B4 T4 G5
  go_wp2_with (at_builtin; refine wpList_append_lies _ rfl (.tmp 12) (.tmp 13) 48 rfl w.heap.size 21 i0 _ 1 4 Try.underlying48 hi hz0 hz1 hz2 rfl (by omega) (.slice (some ⟨w5.heap.size, 0, none⟩) 0 0) 0 [] rfl (own_empty w5 _ (by omega) 21) ⟨w2.heap.size, 0, none⟩ 64 64 (row 64 fun i => i32 (addTo f e 64 i)) rfl hLa.out ?q1 h1a.out (by omega) (by simp [maxLen]) (by omega) (by simp; omega) (w5.heap.size + 1) (by simp) ?q3)
  case q1 =>
    intro j v hj
    rw [add_at, Nat.zero_add, (H5.alloc _).cell]
    exact hj
  case q3 =>
    intro g cap w6 hown hgrow hat hlt
    have hge : w5.heap.size ≤ g := by
      rcases hat with h | h
      · simp [Value.ownBlock] at h
        omega
      · omega
    have B6 : Below w.heap.size w w6 := by
      have b1 : Below w.heap.size w w5 := B12.trans (B5.mono B12s)
      exact (b1.alloc b1.size _).grown hgrow (by simp; omega) (by simp [Value.ownBlock]; omega)
    clear hgrow hat H5 B5
    go_wp2_with fail
    go_ret
    refine ⟨g, cap, rfl, ?_, B6⟩
    simpa using hown
end Go.Proofs.Ytdcojgkblfobnaa.Incl
