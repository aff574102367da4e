/- The names that one scope reserves. The walks. -/
import Derived.Test.YtofdoaollanbpaaDoorReR
import Derived.Maps.RangeWalk
import Derived.Sort.KeysCollected
namespace Go.Proofs.YtofdoaollanbpaaDoor.Res
open Go.RowKit Go.Proofs.YtofdoaollanbpaaDoor.Aid
attribute [local go_sem ↓] Go.wp_at_zero Go.wp_at_succ
set_option linter.unusedVariables false
set_option linter.unusedSimpArgs false
variable {H : Type}
/-- The table of symbols, as it is read. -/
structure Tab (w : World) (gs : Nat) (A : Option Addr) (cap : Nat) (Y : Nat → Sy) (m : Nat) (y0 y1 : Int) : Prop where
  blk : Blk w gs 84 [.slice A m cap]
  rd : Reads w A (m * 10) (symsAt Y y0 y1)
theorem Tab.of {w : World} {base gs m : Nat} {Y : Nat → Sy} {y0 y1 : Int} (h : TableAt w base gs Y m y0 y1) : ∃ A cap, Tab w gs A cap Y m y0 y1 := by
  obtain ⟨v, _, hb, ho⟩ := h
  obtain ⟨A, c, rfl, hc⟩ := own_form ho
  refine ⟨A, c, hb, fun q hq => ?_⟩
  obtain ⟨g, hA, _, hlt, hcell⟩ := hc q hq
  exact ⟨g, 0, hA, hlt, by rw [Nat.zero_add, hcell, row_get _ _ _ hq]⟩
theorem Tab.below {w w' : World} {gs cap m : Nat} {A : Option Addr} {Y : Nat → Sy} {y0 y1 : Int} (h : Tab w gs A cap Y m y0 y1) (hb : Below w.heap.size w w') : Tab w' gs A cap Y m y0 y1 := ⟨h.blk.below hb h.blk.lt, h.rd.below hb⟩
theorem hasFlag (f : Int) (hf : f = 0 ∨ f = 1) (w : World) : Calls Tryd.prog 42 #[.int .u16 f, .int .u16 1] w fun e w' => e = .returned (.bool (f == 1)) ∧ w' = w := by
  rcases hf with rfl | rfl
  · go_enter Tryd.func42, Tryd.ntmps42
    go_wp2_with fail
    go_returns
    exact ⟨rfl, rfl⟩
  · go_enter Tryd.func42, Tryd.ntmps42
    go_wp2_with fail
    go_returns
    exact ⟨rfl, rfl⟩
set_option maxRecDepth 100000 in
theorem get_ (gs cap m r : Nat) (A : Option Addr) (Y : Nat → Sy) (y0 y1 : Int) (w : World) (h : Tab w gs A cap Y m y0 y1) (hr : r < m) :
    Calls Tryd.prog 41 #[.agg #[.slice (some ⟨gs, 0, none⟩) 1 1], .agg #[.int .u32 0, .int .u32 (r : Int)]] w fun e w' => Below w.heap.size w w' ∧ ∃ b o, A = some ⟨b, o, none⟩ ∧ e = .returned (.pointer (some ⟨b, o + r * 10, none⟩)) := by
  have hr' : (r : Int) < m := by omega
  obtain ⟨b, o, hA, hb, _⟩ := h.rd (r * 10) (by omega)
  subst hA
  have hc := h.blk.get 0 rfl
  have HLT := Lib.hid h.blk.lt
  clear h
  go_enter Tryd.func41, Tryd.ntmps41
  go_upto_region 1 with fail
  obtain ⟨W, hW⟩ : ∃ W, W = (w.alloc (.cells #[.slice (some ⟨gs, 0, none⟩) 1 1] 50)).alloc (.cells #[.int .u32 0, .int .u32 (r : Int)] 69) := ⟨_, rfl⟩
  have HB := Lib.hid (show Below w.heap.size w W by rw [hW]; exact below_at (below_at (Below.refl _ _) _) _)
  have h50 : Blk W w.heap.size 50 [.slice (some ⟨gs, 0, none⟩) 1 1] := by rw [hW]; exact (Blk.new w 50 _).alloc _
  have h69 : Blk W (w.heap.size + 1) 69 [.int .u32 0, .int .u32 (r : Int)] := by
    rw [hW]
    have := Blk.new (w.alloc (.cells #[.slice (some ⟨gs, 0, none⟩) 1 1] 50)) 69 [.int .u32 0, .int .u32 (r : Int)]
    rwa [show (w.alloc (.cells #[.slice (some ⟨gs, 0, none⟩) 1 1] 50)).heap.size = w.heap.size + 1 from by simp] at this
  have hcW := bcell HB.out HLT.out hc
  have q0 := h50.get 0 rfl
  have q1 := h69.get 0 rfl
  have q2 := h69.get 1 rfl
  rw [← hW]
  clear hW h50 h69 hc
  go_quiet (fail)
  go_wp2_with fail
  go_returns
  exact ⟨below_drewN HB.out _, b, o, rfl, rfl⟩
/-- A symbol that is reserved in the module's scope. -/
def Sy.kept (y : Sy) : Bool := y.k == 0 || y.fl == 1
/-- The names that are reserved by now. -/
def Names (w : World) (b n : Nat) (N : DataW H) : Prop := w.ownsMap Tryd.prog 9 (plainElem Tryd.prog 35) b n N ∧ Maps.IsMap N
theorem size_le {w : World} {P : Program} {k : TypeId} {R : Value → Option (DataW H × List MemPlace)} {b n : Nat} {D : DataW H} (h : w.ownsMap P k R b n D) : Maps.size D ≤ n := by
  obtain ⟨es, clock, _, _, hs, rfl⟩ := h
  show (_ : List (Lit × DataW H)).length ≤ n
  rw [length_sorted]
  simpa using hs
end Go.Proofs.YtofdoaollanbpaaDoor.Res
