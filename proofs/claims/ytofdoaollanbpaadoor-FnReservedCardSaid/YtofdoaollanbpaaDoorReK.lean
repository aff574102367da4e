/- A scope and those around it. The walk. -/
import Derived.Test.YtofdoaollanbpaaDoorReJ
namespace Go.Proofs.YtofdoaollanbpaaDoor.Res
open Go.RowKit Go.Proofs.YtofdoaollanbpaaDoor.Aid
attribute [local go_sem ↓] Go.wp_at_zero Go.wp_at_succ
set_option linter.unusedVariables false
set_option linter.unusedSimpArgs false
/-- A list of its own, of numbers below n. -/
def Nums (W : World) (base : Nat) (v : Value) (k n : Nat) : Prop := ∃ g : Nat → Int, W.ownsRow base 3 1 v k (row k fun j => .int .i64 (g j)) ∧ ∀ j, j < k → 0 ≤ g j ∧ g j < n
theorem Nums.snoc {W : World} {base : Nat} {v : Value} {k n : Nat} {g : Nat → Int} {x : Int} (h : W.ownsRow base 3 1 v (k + 1) (row k (fun j => .int .i64 (g j)) ++ [.int .i64 x])) (hg : ∀ j, j < k → 0 ≤ g j ∧ g j < n) (hx : 0 ≤ x ∧ x < n) : Nums W base v (k + 1) n := by
  refine ⟨fun j => if j = k then x else g j, ?_, fun j hj => ?_⟩
  · have e : row (k + 1) (fun j => Value.int .i64 (if j = k then x else g j)) = row k (fun j => .int .i64 (g j)) ++ [.int .i64 x] := by
      rw [row_snoc, if_pos rfl, show row k (fun j => Value.int .i64 (if j = k then x else g j)) = row k (fun j => .int .i64 (g j)) from row_congr _ _ _ fun j hj => by rw [if_neg (by omega)]]
    rw [e]
    exact h
  · show 0 ≤ (if j = k then x else g j) ∧ (if j = k then x else g j) < n
    by_cases q : j = k
    · rw [if_pos q]; exact hx
    · rw [if_neg q]; exact hg j (by omega)
set_option maxRecDepth 100000 in
theorem scopeWay (A : Option Addr) (n c : Nat) (S : Nat → Sc) (x : Int) (w : World) (h : RSc w A n S) (hn : n ≤ 2147483647) :
    Calls Tryd.prog 27 #[.slice A n c, .int .i64 x] w fun e w' => Below w.heap.size w w' ∧ ∃ B k kc, e = .returned (.slice B k kc) ∧ k ≤ n ∧ Nums w' w.heap.size (.slice B k kc) k n := by
  obtain ⟨i0, hi0, hz0, hz1, hz2⟩ := info_parts info3
  have HH := Lib.hid (fun W (hb : Below w.heap.size w W) => h.below hb)
  clear h
  go_enter Tryd.func27, Tryd.ntmps27
  go_wp2_with fail
  go_loopw [1, 5] (fun iv ov wr => ∃ (i : Int) (B : Option Addr) (k kc : Nat), iv = .int .i64 i ∧ ov = .slice B k kc ∧ k ≤ n ∧ Below w.heap.size w wr ∧ Nums wr w.heap.size (.slice B k kc) k n) (fun _ ov _ => n - (match ov with | .slice _ k _ => k | _ => 0))
  case atStart => exact ⟨x, none, 0, 0, rfl, rfl, by omega, Below.refl _ _, fun _ => 0, own_nil _ _ _ _, fun j hj => by omega⟩
  case round =>
    obtain ⟨i, B, k, kc, rfl, rfl, hk, hw, hN⟩ := hrel
    have HN := Lib.hid hN
    have HW := Lib.hid hw
    clear hN hw
    by_cases h0 : 0 ≤ i
    · by_cases h1 : i < n
      · by_cases h2 : k < n
        · have h2' : (k : Int) < n := by omega
          obtain ⟨g, hO, hg⟩ := HN.out
          have hm1 : k + 1 ≤ maxLen := by simp only [maxLen]; omega
          obtain ⟨i', hi'⟩ : ∃ i' : Nat, i = i' := ⟨i.toNat, by omega⟩
          subst hi'
          obtain ⟨_, b, o, rfl, hb, -⟩ := HH.out wr HW.out i' (by omega)
          have HC := Lib.hid (fun W (hb' : Below w.heap.size w W) => (show W.cell? ⟨b, o + i' * 7, none⟩ = some (.int .i64 (S i').p) from by
            obtain ⟨_, b', o', hA, _, c0, _⟩ := HH.out W hb' i' (by omega)
            injection hA with hA
            injection hA with q0 q1
            subst q0 q1
            exact c0))
          have HG := Lib.hid hg
          have HO := Lib.hid hO
          clear hO hg
          go_wp2_with (at_builtin; refine wpList_append_one rfl _ _ 32 rfl w.heap.size 3 i0 _ 8 Tryd.underlying32 hi0 hz0 hz1 hz2 rfl _ _ _ rfl HO.out _ rfl rfl hm1 (by omega) HW.out.size ?_; intro v1 w4 hown1 hgrow1 _; have hw4 := below_of_only HW.out HW.out.size hgrow1 (fun g hg => own_below HO.out g hg); have hc4 := HC.out w4 hw4)
          obtain ⟨B', kc', rfl, -⟩ := own_form hown1
          go_roundw
          case rel =>
            exact ⟨_, B', k + 1, kc', rfl, rfl, h2, hw4, Nums.snoc hown1 HG.out ⟨by omega, by omega⟩⟩
          case measure => simp; omega
        · have h2' : ¬ (k : Int) < n := by omega
          go_wp2_with fail
          go_returns
          exact ⟨HW.out, _, _, _, rfl, hk, HN.out⟩
      · go_wp2_with fail
        go_returns
        exact ⟨HW.out, _, _, _, rfl, hk, HN.out⟩
    · go_wp2_with fail
      go_returns
      exact ⟨HW.out, _, _, _, rfl, hk, HN.out⟩
end Go.Proofs.YtofdoaollanbpaaDoor.Res
