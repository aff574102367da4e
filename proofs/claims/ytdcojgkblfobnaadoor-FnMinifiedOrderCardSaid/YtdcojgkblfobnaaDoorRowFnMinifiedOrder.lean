/- For every two numbers: the name of the greater one is not shorter; one package-level variable, known as the program's text lays it. The row, over the walk. -/
import Derived.Test.YtdcojgkblfobnaaDoorRows
import Derived.Test.YtdcojgkblfobnaaDoorMiniC
import Derived.WalkKit
import Derived.ProofKit
import Derived.LaidMore
import Derived.OpenShut
import Derived.ChangeVars
import Derived.ChangeOld
import Derived.Below
import Derived.Stop.Joined
namespace Go.Proofs.YtdcojgkblfobnaaDoor.fnMinifiedOrder
open Go.ChangeShapes Go.WideShapes Go.ChangeAt Go.RowKit
set_option linter.unusedVariables false
theorem own : ownKnob Tryd.prog.godebug = none := by kernel_rfl
theorem gV : Tryd.prog.globalNamed "given.example/pub-frisket/pub/esbuild/inner/ast.DefaultNameMinifierJS" = some 0 := by kernel_rfl
theorem tV : (Tryd.prog.globals[0]?).map (·.type) = some 50 := by kernel_rfl
theorem c50 : Tryd.prog.cellsOf 50 = 2 := by kernel_rfl
theorem c9 : Tryd.prog.cellsOf 9 = 1 := by kernel_rfl
/-- The door's own heap meets the condition. -/
theorem door_met (os : Os) (args : Array Value) : laidMetH Tryd.prog Rows.fnMinifiedOrderRow.laid ((World.doorLaid Tryd.prog 4000 os).forCall (fun _ _ => 0) ⟨#[], args, []⟩).memory :=
  laidMetH_of_parts3 (fuel := 8) (laidMet_of_run' 8 (by kernel_rfl) (by kernel_rfl)) (by kernel_rfl) (by kernel_rfl)
/-- A variable of two texts, opened. -/
theorem open_two {H : Type} {enc : TypeId × Value → H} {W : World} {sp : Nat → Bool} {held : Bool} {fuel : Nat} {cs : List Value} {x : DataW H × List MemPlace} (h : DataW.trod enc Tryd.prog W 0 sp held fuel 50 cs = some x) :
    ∃ y0 y1 : ByteArray, cs = [.string y0, .string y1] ∧ x = (.agg [.lit (.string y0.data.toList), .lit (.string y1.data.toList)], []) ∧ y0.size ≤ maxLen ∧ y1.size ≤ maxLen := by
  obtain ⟨z0, z1, n, rfl, hl, h0, h1⟩ := trod_struct2 Tryd.underlying50 h
  rw [c50] at hl
  match cs, hl with
  | [a, b], _ =>
    simp only [c9, List.drop_zero, List.take_succ_cons, List.take_zero, List.drop_succ_cons] at h0 h1
    obtain ⟨y0, e0, rfl, w0⟩ := DataW.trod_string Tryd.underlying9 h0
    obtain ⟨y1, e1, rfl, w1⟩ := DataW.trod_string Tryd.underlying9 h1
    obtain rfl : a = .string y0 := by injection e0
    obtain rfl : b = .string y1 := by injection e1
    exact ⟨y0, y1, rfl, rfl, w0, w1⟩
theorem string_mk {H : Type} {enc : TypeId × Value → H} {W : World} {sp : Nat → Bool} {held : Bool} {y : ByteArray} (h : y.size ≤ maxLen) : DataW.trod enc Tryd.prog W 0 sp held 1 9 [.string y] = some (.lit (.string y.data.toList), []) := by
  unfold DataW.trod
  rw [Tryd.underlying9]
  simp [h]
/-- The same, shut in whatever world. -/
theorem shut_two {H : Type} {enc : TypeId × Value → H} {W : World} {sp : Nat → Bool} {held : Bool} {y0 y1 : ByteArray} (w0 : y0.size ≤ maxLen) (w1 : y1.size ≤ maxLen) :
    DataW.trod enc Tryd.prog W 0 sp held 2 50 [.string y0, .string y1] = some (.agg [.lit (.string y0.data.toList), .lit (.string y1.data.toList)], []) := by
  have h := trod_struct2_mk (enc := enc) (w := W) (base := 0) (spare := sp) (held := held) (n := 1) (cs := [.string y0, .string y1]) (y0 := (.lit (.string y0.data.toList), [])) (y1 := (.lit (.string y1.data.toList), [])) Tryd.underlying50 (by rw [c50]; rfl) (by simp only [c9]; exact string_mk w0) (by simp only [c9]; exact string_mk w1)
  exact h
/-- What the condition says of the variable: its two texts are of 54 and of 64 letters. -/
theorem of_laid {W : World} (h : laidMetH Tryd.prog Rows.fnMinifiedOrderRow.laid W) : ∃ y0 y1 : ByteArray, W.var? Tryd.prog "given.example/pub-frisket/pub/esbuild/inner/ast.DefaultNameMinifierJS" = some #[.string y0, .string y1] ∧ y0.size = 54 ∧ y1.size = 64 := by
  rw [MakeChecks.laidMetH_plain _ _ _ (by kernel_rfl)] at h
  obtain ⟨ps, ⟨g0, t0, cs0, f0, p0, q0, hg0, ht0, hv0, hd0, _, _⟩, _, _⟩ := h
  obtain rfl := Option.some.inj (gV.symm.trans hg0)
  obtain rfl := Option.some.inj (tV.symm.trans ht0)
  obtain ⟨y0, y1, hcs, hx, _, _⟩ := open_two hd0
  obtain rfl : cs0 = #[.string y0, .string y1] := by rw [← Array.toList_inj, hcs]
  refine ⟨y0, y1, hv0, ?_, ?_⟩
  · have e := (Prod.mk.inj hx).1
    unfold Rows.laid_given_example_pub_frisket_pub_esbuild_inner_ast_DefaultNameMinifierJS at e
    injection e with e
    injection e with e0 _
    injection e0 with e0
    injection e0 with e0
    have := congrArg List.length e0
    rw [Array.length_toList] at this
    exact this.symm
  · have e := (Prod.mk.inj hx).1
    unfold Rows.laid_given_example_pub_frisket_pub_esbuild_inner_ast_DefaultNameMinifierJS at e
    injection e with e
    injection e with _ e
    injection e with e0 _
    injection e0 with e0
    injection e0 with e0
    have := congrArg List.length e0
    rw [Array.length_toList] at this
    exact this.symm
theorem var_below {W W' : World} {B : Nat} {cs : Array Value} (h : W.var? Tryd.prog "given.example/pub-frisket/pub/esbuild/inner/ast.DefaultNameMinifierJS" = some cs) (hb : Below B W W') (h1 : 0 < B) : W'.var? Tryd.prog "given.example/pub-frisket/pub/esbuild/inner/ast.DefaultNameMinifierJS" = some cs := by
  have e := hb.block 0 h1
  unfold World.var? at h ⊢
  rw [gV] at h ⊢
  simpa [e] using h
set_option maxRecDepth 100000 in
theorem lifted (os : Os) (started : os.Started) (H : Type) (enc : TypeId × Value → H) :
    ReturnsInHanded {} Tryd.checked os 4 .any (fun w args => (Rows.fnMinifiedOrderSpec.pre enc Tryd.prog Tryd.f4 [] false w args ∧ laidMetH Tryd.prog Rows.fnMinifiedOrderRow.laid w) ∧ sizedMet enc Tryd.prog Tryd.f4 (OpenSpec.ofChange Rows.fnMinifiedOrderSpec) false w args)
      (Rows.fnMinifiedOrderSpec.post enc Tryd.prog Tryd.f4 false true false false) := by
  refine returnsInHanded_of_change_and (C := Tryd.checked) (X := fun w _ => laidMetH Tryd.prog Rows.fnMinifiedOrderRow.laid w) (fun _ _ _ hh h => h.of_heap hh) own started (by kernel_rfl) Tryd.func4
    (ChangeSpec.witness_shaped (enc := enc) (C := Tryd.checked) (os := os) (X := fun w _ => laidMetH Tryd.prog Rows.fnMinifiedOrderRow.laid w) false (World.doorLaid Tryd.prog 4000 os) #[.int .i64 0, .int .i64 0] 8 rfl (World.shaped_of_RefB (by kernel_rfl) (by kernel_rfl)) (by kernel_rfl) (by kernel_rfl) (by kernel_rfl) (door_met os _)) ?_
  intro W base args ds gs before hval0 hW _ _ hL _
  have hval : ∀ (j : Nat) t v, Tryd.f4.params[j]? = some t → args[j]? = some v → Value.okWide Tryd.prog W .any base t v := hval0
  have hW' := hW
  obtain ⟨p, q, hA0, hV0, rfl, hfz, hnd⟩ := hW
  have hA : DataW.TrodAll enc Tryd.prog W 0 (fun _ => true) true Tryd.f4.params.toList args.toList ds p := hA0
  have hV : DataW.TrodVars enc Tryd.prog W (fun _ => true) ["given.example/pub-frisket/pub/esbuild/inner/ast.DefaultNameMinifierJS"] gs q := hV0
  rw [Tryd.params4] at hA hval
  obtain ⟨v0, vs0, d0, ds0, p0, q0, hargs, rfl, rfl, h0, r0⟩ := trodAll_cons hA
  obtain ⟨v1, vs1, d1, ds1, p1, q1, rfl, rfl, rfl, h1, r1⟩ := trodAll_cons r0
  obtain ⟨rfl, rfl, rfl⟩ := trodAll_nil r1
  obtain rfl : args = #[v0, v1] := by cases args; simp_all
  obtain ⟨a0, rfl, rfl, rfl, w0⟩ := open_int Tryd.underlying3 (hval 0 3 v0 rfl rfl) h0
  obtain ⟨a1, rfl, rfl, rfl, w1⟩ := open_int Tryd.underlying3 (hval 1 3 v1 rfl rfl) h1
  obtain ⟨g, t, cs, fuel, d, pv, rfl, hg, ht, hv, hd, rfl⟩ := trodVars_one hV
  obtain rfl := Option.some.inj (gV.symm.trans hg)
  obtain rfl := Option.some.inj (tV.symm.trans ht)
  obtain ⟨y0, y1, hcs, hx, x0, x1⟩ := open_two hd
  obtain ⟨rfl, rfl⟩ := Prod.mk.inj hx
  obtain rfl : cs = #[.string y0, .string y1] := by rw [← Array.toList_inj, hcs]
  obtain ⟨u0, u1, hv', s0, s1⟩ := of_laid hL
  have hu := Option.some.inj (hv.symm.trans hv')
  have hu2 : [Value.string y0, Value.string y1] = [Value.string u0, Value.string u1] := congrArg Array.toList hu
  simp only [List.cons.injEq, Value.string.injEq, and_true] at hu2
  obtain ⟨rfl, rfl⟩ := hu2
  have z0 : W.cell? ⟨0, 0, none⟩ = some (.string y0) := by simpa using World.var?_cell gV hv 0
  have z1 : W.cell? ⟨0, 1, none⟩ = some (.string y1) := by simpa using World.var?_cell gV hv 1
  have h2 : 0 < W.heap.size := World.block_lt_of_cell? W _ z0
  clear hA0 hV0 hval0
  refine (Mini.law y0 y1 a0 a1 W ⟨z0, z1⟩ s0 s1).mono fun e W' ⟨he, bel⟩ => ?_
  subst he
  exact ⟨_, rfl, _, _, _, [], _, _, hW', trodAll_mk1 (shut_bool Tryd.underlying4 _), (trodAll_cons_mk (shut_int Tryd.underlying3 w0) (trodAll_cons_mk (shut_int Tryd.underlying3 w1) trodAll_mk0)), trodVars_mk1 gV tV (var_below hv bel h2) (by rw [hcs]; exact shut_two x0 x1), bel.frame _, fun h => by cases h⟩
theorem over : Rows.fnMinifiedOrderRow.holds Tryd.pinned (OpenSpec.ofChange Rows.fnMinifiedOrderSpec) :=
  OpenClaim.holds_of_wide 4 Tryd.f4 rfl rfl rfl rfl rfl rfl rfl ⟨rfl, rfl, rfl, rfl, rfl⟩ rfl rfl rfl rfl rfl (by kernel_rfl) Tryd.func4 (by kernel_rfl)
    (of_decide_eq_true (by kernel_rfl)) (by unfold Func.isWrapper; first | (rw [if_pos (by decide +kernel)]; kernel_rfl) | (rw [if_neg (by decide +kernel)]; exact ⟨rfl, rfl⟩))
    (fun os started H enc _ => lifted os started H enc)
theorem proved : Rows.FnMinifiedOrderSaid := over
end Go.Proofs.YtdcojgkblfobnaaDoor.fnMinifiedOrder
