/- The thin function impl.counts: 64 numbers as a histogram. The walk. -/
import Derived.Test.YtdcojgkblfobnaaProg
import Derived.Test.YtdcojgkblfobnaaAid
import Derived.Handy
import Derived.WalkLawsBesides
namespace Go.Proofs.Ytdcojgkblfobnaa.Incl
open Go.RowKit Go.Proofs.Ytdcojgkblfobnaa.Aid
def i32 (x : Int) : Value := .int .i32 x
theorem one32 (f : Nat → Int) : ∀ v ∈ row 64 (fun i => i32 (f i)), v.oneCell' = true := row_one _ _ (fun _ _ => rfl)
theorem size21 : (Try.prog.info? 21).map (·.size) = some 1 := by kernel_rfl
theorem size102 : (Try.prog.info? 102).map (·.size) = some 64 := by kernel_rfl
theorem zeros64 : row 64 (fun _ => i32 0) = [.int .i32 0, .int .i32 0, .int .i32 0, .int .i32 0, .int .i32 0, .int .i32 0, .int .i32 0, .int .i32 0, .int .i32 0, .int .i32 0, .int .i32 0, .int .i32 0, .int .i32 0, .int .i32 0, .int .i32 0, .int .i32 0, .int .i32 0, .int .i32 0, .int .i32 0, .int .i32 0, .int .i32 0, .int .i32 0, .int .i32 0, .int .i32 0, .int .i32 0, .int .i32 0, .int .i32 0, .int .i32 0, .int .i32 0, .int .i32 0, .int .i32 0, .int .i32 0, .int .i32 0, .int .i32 0, .int .i32 0, .int .i32 0, .int .i32 0, .int .i32 0, .int .i32 0, .int .i32 0, .int .i32 0, .int .i32 0, .int .i32 0, .int .i32 0, .int .i32 0, .int .i32 0, .int .i32 0, .int .i32 0, .int .i32 0, .int .i32 0, .int .i32 0, .int .i32 0, .int .i32 0, .int .i32 0, .int .i32 0, .int .i32 0, .int .i32 0, .int .i32 0, .int .i32 0, .int .i32 0, .int .i32 0, .int .i32 0, .int .i32 0, .int .i32 0] := rfl
theorem blk64 (w : World) : Blk (w.alloc (.cells #[.int .i32 0, .int .i32 0, .int .i32 0, .int .i32 0, .int .i32 0, .int .i32 0, .int .i32 0, .int .i32 0, .int .i32 0, .int .i32 0, .int .i32 0, .int .i32 0, .int .i32 0, .int .i32 0, .int .i32 0, .int .i32 0, .int .i32 0, .int .i32 0, .int .i32 0, .int .i32 0, .int .i32 0, .int .i32 0, .int .i32 0, .int .i32 0, .int .i32 0, .int .i32 0, .int .i32 0, .int .i32 0, .int .i32 0, .int .i32 0, .int .i32 0, .int .i32 0, .int .i32 0, .int .i32 0, .int .i32 0, .int .i32 0, .int .i32 0, .int .i32 0, .int .i32 0, .int .i32 0, .int .i32 0, .int .i32 0, .int .i32 0, .int .i32 0, .int .i32 0, .int .i32 0, .int .i32 0, .int .i32 0, .int .i32 0, .int .i32 0, .int .i32 0, .int .i32 0, .int .i32 0, .int .i32 0, .int .i32 0, .int .i32 0, .int .i32 0, .int .i32 0, .int .i32 0, .int .i32 0, .int .i32 0, .int .i32 0, .int .i32 0, .int .i32 0] 102)) w.heap.size 102 (row 64 fun _ => i32 0) := by
  rw [zeros64]
  exact Blk.new w 102 _
abbrev zrow : List Value := row 64 fun _ => i32 0
theorem zeros64' : zrow = [.int .i32 0, .int .i32 0, .int .i32 0, .int .i32 0, .int .i32 0, .int .i32 0, .int .i32 0, .int .i32 0, .int .i32 0, .int .i32 0, .int .i32 0, .int .i32 0, .int .i32 0, .int .i32 0, .int .i32 0, .int .i32 0, .int .i32 0, .int .i32 0, .int .i32 0, .int .i32 0, .int .i32 0, .int .i32 0, .int .i32 0, .int .i32 0, .int .i32 0, .int .i32 0, .int .i32 0, .int .i32 0, .int .i32 0, .int .i32 0, .int .i32 0, .int .i32 0, .int .i32 0, .int .i32 0, .int .i32 0, .int .i32 0, .int .i32 0, .int .i32 0, .int .i32 0, .int .i32 0, .int .i32 0, .int .i32 0, .int .i32 0, .int .i32 0, .int .i32 0, .int .i32 0, .int .i32 0, .int .i32 0, .int .i32 0, .int .i32 0, .int .i32 0, .int .i32 0, .int .i32 0, .int .i32 0, .int .i32 0, .int .i32 0, .int .i32 0, .int .i32 0, .int .i32 0, .int .i32 0, .int .i32 0, .int .i32 0, .int .i32 0, .int .i32 0] := rfl
theorem two_new (w : World) : Blk ((w.alloc (.cells zrow.toArray 102)).alloc (.cells zrow.toArray 102)) w.heap.size 102 zrow ∧ Blk ((w.alloc (.cells zrow.toArray 102)).alloc (.cells zrow.toArray 102)) (w.heap.size + 1) 102 zrow := by
  refine ⟨(Blk.new w 102 zrow).alloc _, ?_⟩
  have := Blk.new (w.alloc (.cells zrow.toArray 102)) 102 zrow
  rwa [World.size_alloc] at this
set_option maxRecDepth 100000 in
theorem counts (A : Option Addr) (c : Nat) (f : Nat → Int) (w : World) (hr : Reads w A 64 fun i => i32 (f i)) :
    Calls Try.prog 53 #[.slice A 64 c] w fun e w' => e = .returned (.agg (row 64 fun i => i32 (f i)).toArray) ∧ Below w.heap.size w w' := by
  have hB := below_at (below_at (Below.refl _ w) (.cells zrow.toArray 102)) (.cells zrow.toArray 102)
  have HR := Lib.hid (hr.below hB)
  have hT := Lib.hid (two_new w)
  have HB := Lib.hid hB
  have hL := Lib.hid (row_length 64 (fun i => i32 (f i)))
  have h1 := Lib.hid (one32 f)
  rw [zeros64'] at HR hT HB
  clear hr hB
  go_enter Try.func53, Try.ntmps53
  go_wp2_with (with_reducible refine wpList_copy_full rfl (.tmp 4) (.tmp 5) 48 48 rfl 21 Try.underlying48 size21 64 A 64 c (w.heap.size + 1) rfl rfl _ 102 hT.out.2 rfl (fun i => i32 (f i)) HR.out (fun _ _ => rfl) ?_)
  intro w1 H1 G1 S1
  have K0 : Blk w1 w.heap.size 102 zrow := hT.out.1.grown G1 (by simp)
  have hLz : Hid ((row 64 fun i => i32 (f i)).length = zrow.length) := Lib.hid ((row_length _ _).trans (row_length _ _).symm)
  have B1 : Below w.heap.size w w1 := HB.out.grown G1 HB.out.size (by simp)
  clear G1 S1 hT HB HR
  go_wp2_with (first
    | (with_reducible refine wpList_load_blk rfl 102 (.tmp 3) rfl (w.heap.size + 1) rfl 102 (row 64 fun i => i32 (f i)) _ H1 Try.underlying102 rfl (by rw [hL.out]; exact size102) ?_)
    | (with_reducible refine wpList_store_blk rfl 102 (.tmp 2) (.tmp 7) rfl w.heap.size zrow (row 64 fun i => i32 (f i)) 102 rfl rfl K0 hLz.out (by rw [hL.out]; exact size102) h1.out ?_))
  intro w2 H2 G2 S2
  have B2 : Below w.heap.size w w2 := B1.grown G2 B1.size (by simp)
  clear K0 H1 B1 G2 S2
  go_wp2_with fail
  refine bodyPost_ret (results_cell_row Try.results53 _ _ w.heap.size 102 _ (0, 0) _ rfl H2 Try.underlying102 rfl (by simpa [hL.out] using size102)) rfl ⟨rfl, B2⟩
end Go.Proofs.Ytdcojgkblfobnaa.Incl
