/- For every kind and flags: the namespace of a symbol is the one that the reference says; one package-level variable, known as the program's text lays it. The row, over the walk. -/
import Derived.Test.YtdcojgkblfobnaaDoorRows
import Derived.Test.YtdcojgkblfobnaaDoorSlotC
import Derived.WalkKit
import Derived.ProofKit
import Derived.LaidMore
import Derived.OpenShut
import Derived.ChangeVars
import Derived.ChangeOld
import Derived.Below
import Derived.Stop.Joined
namespace Go.Proofs.YtdcojgkblfobnaaDoor.fnSlotSpace
open Go.ChangeShapes Go.WideShapes Go.ChangeAt Go.RowKit
set_option linter.unusedVariables false
theorem own : ownKnob Tryd.prog.godebug = none := by kernel_rfl
theorem gV : Tryd.prog.globalNamed "given.example/pub-frisket/pub/esbuild/inner/ast.InvalidRef" = some 1 := by kernel_rfl
theorem tV : (Tryd.prog.globals[1]?).map (·.type) = some 31 := by kernel_rfl
theorem c31 : Tryd.prog.cellsOf 31 = 2 := by kernel_rfl
theorem c23 : Tryd.prog.cellsOf 23 = 1 := by kernel_rfl
/-- The door's own heap meets the condition. -/
theorem door_met (os : Os) (args : Array Value) : laidMetH Tryd.prog Rows.fnSlotSpaceRow.laid ((World.doorLaid Tryd.prog 4000 os).forCall (fun _ _ => 0) ⟨#[], args, []⟩).memory :=
  laidMetH_of_parts3 (fuel := 8) (laidMet_of_run' 8 (by kernel_rfl) (by kernel_rfl)) (by kernel_rfl) (by kernel_rfl)
/-- A variable of two numbers, opened. -/
theorem open_two {H : Type} {enc : TypeId × Value → H} {W : World} {sp : Nat → Bool} {held : Bool} {fuel : Nat} {cs : List Value} {x : DataW H × List MemPlace} (h : DataW.trod enc Tryd.prog W 0 sp held fuel 31 cs = some x) :
    ∃ y0 y1, cs = [.int .u32 y0, .int .u32 y1] ∧ x = (.agg [.lit (.int .u32 y0), .lit (.int .u32 y1)], []) ∧ (Lit.int .u32 y0).wf = true ∧ (Lit.int .u32 y1).wf = true := by
  obtain ⟨z0, z1, n, rfl, hl, h0, h1⟩ := trod_struct2 Tryd.underlying31 h
  rw [c31] at hl
  match cs, hl with
  | [a, b], _ =>
    simp only [c23, List.drop_zero, List.take_succ_cons, List.take_zero, List.drop_succ_cons] at h0 h1
    obtain ⟨y0, e0, rfl, w0⟩ := DataW.trod_int Tryd.underlying23 h0
    obtain ⟨y1, e1, rfl, w1⟩ := DataW.trod_int Tryd.underlying23 h1
    obtain rfl : a = .int .u32 y0 := by injection e0
    obtain rfl : b = .int .u32 y1 := by injection e1
    exact ⟨y0, y1, rfl, rfl, w0, w1⟩
/-- The same, shut in whatever world. -/
theorem shut_two {H : Type} {enc : TypeId × Value → H} {W : World} {sp : Nat → Bool} {held : Bool} {y0 y1 : Int} (w0 : (Lit.int .u32 y0).wf = true) (w1 : (Lit.int .u32 y1).wf = true) :
    DataW.trod enc Tryd.prog W 0 sp held 2 31 [.int .u32 y0, .int .u32 y1] = some (.agg [.lit (.int .u32 y0), .lit (.int .u32 y1)], []) := by
  have h := trod_struct2_mk (enc := enc) (w := W) (base := 0) (spare := sp) (held := held) (n := 1) (cs := [.int .u32 y0, .int .u32 y1]) (y0 := (.lit (.int .u32 y0), [])) (y1 := (.lit (.int .u32 y1), [])) Tryd.underlying31 (by rw [c31]; rfl) (by simp only [c23]; exact trod_int_mk 0 Tryd.underlying23 w0) (by simp only [c23]; exact trod_int_mk 0 Tryd.underlying23 w1)
  exact h
theorem var_below {W W' : World} {B : Nat} {cs : Array Value} (h : W.var? Tryd.prog "given.example/pub-frisket/pub/esbuild/inner/ast.InvalidRef" = some cs) (hb : Below B W W') (h1 : 1 < B) : W'.var? Tryd.prog "given.example/pub-frisket/pub/esbuild/inner/ast.InvalidRef" = some cs := by
  have e := hb.block 1 h1
  unfold World.var? at h ⊢
  rw [gV] at h ⊢
  simpa [e] using h
set_option maxRecDepth 100000 in
theorem lifted (os : Os) (started : os.Started) (H : Type) (enc : TypeId × Value → H) :
    ReturnsInHanded {} Tryd.checked os 3 .any (fun w args => (Rows.fnSlotSpaceSpec.pre enc Tryd.prog Tryd.f3 [] false w args ∧ laidMetH Tryd.prog Rows.fnSlotSpaceRow.laid w) ∧ sizedMet enc Tryd.prog Tryd.f3 (OpenSpec.ofChange Rows.fnSlotSpaceSpec) false w args)
      (Rows.fnSlotSpaceSpec.post enc Tryd.prog Tryd.f3 false true false false) := by
  refine returnsInHanded_of_change_and (C := Tryd.checked) (X := fun w _ => laidMetH Tryd.prog Rows.fnSlotSpaceRow.laid w) (fun _ _ _ hh h => h.of_heap hh) own started (by kernel_rfl) Tryd.func3
    (ChangeSpec.witness_shaped (enc := enc) (C := Tryd.checked) (os := os) (X := fun w _ => laidMetH Tryd.prog Rows.fnSlotSpaceRow.laid w) false (World.doorLaid Tryd.prog 4000 os) #[.int .i64 0, .int .i64 0] 8 rfl (World.shaped_of_RefB (by kernel_rfl) (by kernel_rfl)) (by kernel_rfl) (by kernel_rfl) (by kernel_rfl) (door_met os _)) ?_
  intro W base args ds gs before hval0 hW _ _ hL _
  have hval : ∀ (j : Nat) t v, Tryd.f3.params[j]? = some t → args[j]? = some v → Value.okWide Tryd.prog W .any base t v := hval0
  have hW' := hW
  obtain ⟨p, q, hA0, hV0, rfl, hfz, hnd⟩ := hW
  have hA : DataW.TrodAll enc Tryd.prog W 0 (fun _ => true) true Tryd.f3.params.toList args.toList ds p := hA0
  have hV : DataW.TrodVars enc Tryd.prog W (fun _ => true) ["given.example/pub-frisket/pub/esbuild/inner/ast.InvalidRef"] gs q := hV0
  rw [Tryd.params3] at hA hval
  obtain ⟨v0, vs0, d0, ds0, p0, q0, hargs, rfl, rfl, h0, r0⟩ := trodAll_cons hA
  obtain ⟨v1, vs1, d1, ds1, p1, q1, rfl, rfl, rfl, h1, r1⟩ := trodAll_cons r0
  obtain ⟨rfl, rfl, rfl⟩ := trodAll_nil r1
  obtain rfl : args = #[v0, v1] := by cases args; simp_all
  obtain ⟨a0, rfl, rfl, rfl, w0⟩ := open_int Tryd.underlying3 (hval 0 3 v0 rfl rfl) h0
  obtain ⟨a1, rfl, rfl, rfl, w1⟩ := open_int Tryd.underlying3 (hval 1 3 v1 rfl rfl) h1
  obtain ⟨g, t, cs, fuel, d, pv, rfl, hg, ht, hv, hd, rfl⟩ := trodVars_one hV
  obtain rfl := Option.some.inj (gV.symm.trans hg)
  obtain rfl := Option.some.inj (tV.symm.trans ht)
  obtain ⟨y0, y1, hcs, hx, x0, x1⟩ := open_two hd
  obtain ⟨rfl, rfl⟩ := Prod.mk.inj hx
  obtain rfl : cs = #[.int .u32 y0, .int .u32 y1] := by rw [← Array.toList_inj, hcs]
  have z0 : W.cell? ⟨1, 0, none⟩ = some (.int .u32 y0) := by simpa using World.var?_cell gV hv 0
  have z1 : W.cell? ⟨1, 1, none⟩ = some (.int .u32 y1) := by simpa using World.var?_cell gV hv 1
  have h2 : 2 ≤ W.heap.size := World.block_lt_of_cell? W _ z0
  clear hA0 hV0 hval0
  refine (Slot.law a0 a1 W y0 y1 z0 z1 h2).mono fun e W' ⟨he, bel⟩ => ?_
  subst he
  exact ⟨_, rfl, _, _, _, [], _, _, hW', trodAll_mk1 (shut_bool Tryd.underlying4 _), (trodAll_cons_mk (shut_int Tryd.underlying3 w0) (trodAll_cons_mk (shut_int Tryd.underlying3 w1) trodAll_mk0)), trodVars_mk1 gV tV (var_below hv bel h2) (by rw [hcs]; exact shut_two x0 x1), bel.frame _, fun h => by cases h⟩
theorem over : Rows.fnSlotSpaceRow.holds Tryd.pinned (OpenSpec.ofChange Rows.fnSlotSpaceSpec) :=
  OpenClaim.holds_of_wide 3 Tryd.f3 rfl rfl rfl rfl rfl rfl rfl ⟨rfl, rfl, rfl, rfl, rfl⟩ rfl rfl rfl rfl rfl (by kernel_rfl) Tryd.func3 (by kernel_rfl)
    (of_decide_eq_true (by kernel_rfl)) (by unfold Func.isWrapper; first | (rw [if_pos (by decide +kernel)]; kernel_rfl) | (rw [if_neg (by decide +kernel)]; exact ⟨rfl, rfl⟩))
    (fun os started H enc _ => lifted os started H enc)
theorem proved : Rows.FnSlotSpaceSaid := over
end Go.Proofs.YtdcojgkblfobnaaDoor.fnSlotSpace
