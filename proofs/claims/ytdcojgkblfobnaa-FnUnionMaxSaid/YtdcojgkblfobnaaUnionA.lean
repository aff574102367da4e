/- The package's method SlotCounts.UnionMax: behind the call each of the four counts is the greater one of both; no condition. The walk. -/
import Derived.Test.YtdcojgkblfobnaaProg
import Derived.Test.YtdcojgkblfobnaaAid
import Derived.Handy
import Derived.WalkLawsBesides
import Derived.Deep.RegionHeld3
import Derived.Deep.QuietTactic
import Derived.BigQuiet
import Derived.Laws.CopyOwn
import Derived.Deep.AppendLies
namespace Go.Proofs.Ytdcojgkblfobnaa.Union
open Go.RowKit Go.Proofs.Ytdcojgkblfobnaa.Aid
abbrev u32 (x : Int) : Value := .int .u32 x
set_option maxHeartbeats 2000000 in
theorem method (g : Nat) (x0 x1 x2 x3 y0 y1 y2 y3 : Int) (w : World) (hg : g < w.heap.size) (h0 : w.cell? ⟨g, 0, none⟩ = some (u32 x0)) (h1 : w.cell? ⟨g, 1, none⟩ = some (u32 x1)) (h2 : w.cell? ⟨g, 2, none⟩ = some (u32 x2)) (h3 : w.cell? ⟨g, 3, none⟩ = some (u32 x3))
    (f0 : w.frozen? ⟨g, 0, none⟩ = false) (f1 : w.frozen? ⟨g, 1, none⟩ = false) (f2 : w.frozen? ⟨g, 2, none⟩ = false) (f3 : w.frozen? ⟨g, 3, none⟩ = false) :
    Calls Try.prog 36 #[.pointer (some ⟨g, 0, none⟩), .agg #[u32 y0, u32 y1, u32 y2, u32 y3]] w fun e w' => e = .returned (.tuple #[]) ∧
      w'.cell? ⟨g, 0, none⟩ = some (u32 (max x0 y0)) ∧ w'.cell? ⟨g, 1, none⟩ = some (u32 (max x1 y1)) ∧ w'.cell? ⟨g, 2, none⟩ = some (u32 (max x2 y2)) ∧ w'.cell? ⟨g, 3, none⟩ = some (u32 (max x3 y3)) ∧ w.grownBy w' (some g) := by
  go_enter Try.func36, Try.ntmps36
  go_wp2
  go_rounds 5
  all_goals
    go_returns
    refine ⟨rfl, ?_, ?_, ?_, ?_, ?_⟩
    iterate 4
      · go_simp
        omega
    repeat (first | exact World.grownBy.refl _ _ | refine only_alloc ?_ _ | refine only_setCell ?_ (.inl rfl) _)
end Go.Proofs.Ytdcojgkblfobnaa.Union
