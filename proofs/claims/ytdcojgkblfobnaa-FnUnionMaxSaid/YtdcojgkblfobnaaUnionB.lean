/- The thin function impl.UnionMax: of two lists of four counts a list of the greater ones, in new memory; no condition. The walk. -/
import Derived.Test.YtdcojgkblfobnaaUnionA
namespace Go.Proofs.Ytdcojgkblfobnaa.Union
open Go.RowKit Go.Proofs.Ytdcojgkblfobnaa.Aid
theorem info30 : (Try.prog.info? 30).map (fun i => (i.zero, i.size, i.bytes)) = some (some (.int .u32 0), 1, 4) := by kernel_rfl
theorem size30 : (Try.prog.info? 30).map (·.size) = some 1 := by kernel_rfl
theorem cells4 {w : World} {b o : Nat} {x0 x1 x2 x3 : Int} (h0 : w.cell? ⟨b, o, none⟩ = some (u32 x0)) (h1 : w.cell? ⟨b, o + 1, none⟩ = some (u32 x1)) (h2 : w.cell? ⟨b, o + 2, none⟩ = some (u32 x2)) (h3 : w.cell? ⟨b, o + 3, none⟩ = some (u32 x3)) :
    ∀ j v, [u32 x0, u32 x1, u32 x2, u32 x3][j]? = some v → w.cell? ((⟨b, o, none⟩ : Addr).add j) = some v := by
  intro j v hj
  rw [add_at]
  match j with
  | 0 => simpa [h0] using hj
  | 1 => simpa [h1] using hj
  | 2 => simpa [h2] using hj
  | 3 => simpa [h3] using hj
  | j + 4 => simp at hj
theorem own_empty (w : World) (base : Nat) (h : base ≤ w.heap.size) (e : TypeId) : (w.alloc (.cells #[] e)).ownsRow base e 1 (.slice (some ⟨w.heap.size, 0, none⟩) 0 0) 0 [] :=
  ⟨rfl, .inr ⟨w.heap.size, 0, #[], rfl, h, heap_alloc_new w _, Nat.le_refl _, Nat.zero_le _, rfl, rfl⟩⟩
set_option maxRecDepth 100000 in
set_option maxHeartbeats 400000 in
theorem union (a b o p c d : Nat) (x0 x1 x2 x3 y0 y1 y2 y3 : Int) (w : World) (ha : a < w.heap.size) (hb : b < w.heap.size)
    (h0 : w.cell? ⟨a, o, none⟩ = some (u32 x0)) (h1 : w.cell? ⟨a, o + 1, none⟩ = some (u32 x1)) (h2 : w.cell? ⟨a, o + 2, none⟩ = some (u32 x2)) (h3 : w.cell? ⟨a, o + 3, none⟩ = some (u32 x3))
    (k0 : w.cell? ⟨b, p, none⟩ = some (u32 y0)) (k1 : w.cell? ⟨b, p + 1, none⟩ = some (u32 y1)) (k2 : w.cell? ⟨b, p + 2, none⟩ = some (u32 y2)) (k3 : w.cell? ⟨b, p + 3, none⟩ = some (u32 y3)) :
    Calls Try.prog 18 #[.slice (some ⟨a, o, none⟩) 4 c, .slice (some ⟨b, p, none⟩) 4 d] w fun e w' => ∃ g z, e = .returned (.slice (some ⟨g, 0, none⟩) 4 z) ∧ w.heap.size ≤ g ∧ g < w'.heap.size ∧
      w'.cell? ⟨g, 0, none⟩ = some (u32 (max x0 y0)) ∧ w'.cell? ⟨g, 1, none⟩ = some (u32 (max x1 y1)) ∧ w'.cell? ⟨g, 2, none⟩ = some (u32 (max x2 y2)) ∧ w'.cell? ⟨g, 3, none⟩ = some (u32 (max x3 y3)) ∧ Below w.heap.size w w' := by
  have hx := Lib.hid (cells4 h0 h1 h2 h3)
  have hy := Lib.hid (cells4 k0 k1 k2 k3)
  clear h0 h1 h2 h3 k0 k1 k2 k3
  obtain ⟨i0, hi, hz0, hz1, hz2⟩ := info_parts info30
  go_enter Try.func18, Try.ntmps18
  have Z : ∀ v ∈ [u32 x0, u32 x1, u32 x2, u32 x3], v.oneCell' = true := by simp [Value.oneCell']
  have Z' : ∀ v ∈ [u32 y0, u32 y1, u32 y2, u32 y3], v.oneCell' = true := by simp [Value.oneCell']
  replace Z := Lib.hid Z
  replace Z' := Lib.hid Z'
  have A : ∀ W : World, W.heap.size = w.heap.size + 2 → w.cell? = W.cell? → True := fun _ _ _ => trivial
  clear A
  go_wp2_with (with_reducible refine wpList_copy_only rfl (.tmp 7) (.tmp 8) 28 28 rfl 30 Try.underlying28 size30 (some ⟨w.heap.size, 0, none⟩) (some ⟨a, o, none⟩) 4 4 4 c rfl rfl w.heap.size 0 [u32 0, u32 0, u32 0, u32 0] 65 ((Blk.new w 65 [u32 0, u32 0, u32 0, u32 0]).alloc _) [u32 x0, u32 x1, u32 x2, u32 x3] rfl (fun _ => ⟨rfl, _, rfl, fun j v hj => (below_at (below_at (Below.refl _ w) _) _).cell (by rw [add_at]; exact ha) |>.trans (hx.out j v hj)⟩) (by simp) Z.out ?_)
  intro w1 H1 G1 S1
  have H1' : Blk w1 w.heap.size 65 [u32 x0, u32 x1, u32 x2, u32 x3] := H1
  have K1 : Blk w1 (w.heap.size + 1) 65 [u32 0, u32 0, u32 0, u32 0] := by
    have := (Blk.new (w.alloc (.cells #[u32 0, u32 0, u32 0, u32 0] 65)) 65 [u32 0, u32 0, u32 0, u32 0]).grown G1 (by simp)
    simpa using this
  have B1 : Below w.heap.size w w1 := (below_at (below_at (Below.refl _ w) _) _).grown G1 (by simp; omega) (by simp)
  have S1' := Lib.hid S1
  clear S1 H1
  go_wp2_with (with_reducible refine wpList_copy_only rfl (.tmp 10) (.tmp 11) 28 28 rfl 30 Try.underlying28 size30 (some ⟨w.heap.size + 1, 0, none⟩) (some ⟨b, p, none⟩) 4 4 4 d rfl rfl (w.heap.size + 1) 0 [u32 0, u32 0, u32 0, u32 0] 65 K1 [u32 y0, u32 y1, u32 y2, u32 y3] rfl (fun _ => ⟨rfl, _, rfl, fun j v hj => B1.cell (by rw [add_at]; exact hb) |>.trans (hy.out j v hj)⟩) (by simp) Z'.out ?_)
  intro w2 H2 G2 S2
  have L2 : Blk w2 (w.heap.size + 1) 65 [u32 y0, u32 y1, u32 y2, u32 y3] := H2
  have M2 : Blk w2 w.heap.size 65 [u32 x0, u32 x1, u32 x2, u32 x3] := H1'.grown G2 (by simp)
  have B2 : Below w.heap.size w w2 := B1.grown G2 B1.size (by simp)
  have T2 : w.heap.size + 2 ≤ w2.heap.size := by rw [S2, S1'.out]; simp
  clear S2 H2 K1 H1' G1 G2 B1 S1'
  have c0 := L2.get 0 rfl
  have c1 := L2.get 1 rfl
  have c2 := L2.get 2 rfl
  have c3 := L2.get 3 rfl
  go_wp2_with fail
  refine (method w.heap.size x0 x1 x2 x3 y0 y1 y2 y3 w2 M2.lt (M2.get 0 rfl) (M2.get 1 rfl) (M2.get 2 rfl) (M2.get 3 rfl) (M2.frozen 0) (M2.frozen 1) (M2.frozen 2) (M2.frozen 3)).mono ?_
  rintro e w3 ⟨rfl, d0, d1, d2, d3, G3⟩
  have B3 : Below w.heap.size w w3 := B2.grown G3 B2.size (by simp)
  have T3 : w.heap.size + 2 ≤ w3.heap.size := Nat.le_trans T2 G3.size
  have hn := Lib.hid (cells4 (o := 0) d0 d1 d2 d3)
  clear c0 c1 c2 c3 L2 M2 B2 T2 d0 d1 d2 d3 G3
  go_wp2_with (at_builtin; refine wpList_append_lies _ rfl (.tmp 15) (.tmp 16) 28 rfl w3.heap.size 30 i0 _ 1 4 Try.underlying28 hi hz0 hz1 hz2 rfl (by omega) (.slice (some ⟨w3.heap.size, 0, none⟩) 0 0) 0 [] rfl (own_empty w3 _ (Nat.le_refl _) 30) ⟨w.heap.size, 0, none⟩ 4 4 [u32 (max x0 y0), u32 (max x1 y1), u32 (max x2 y2), u32 (max x3 y3)] rfl rfl ?q1 ?q2 (by omega) (by simp [maxLen]) (by omega) (by simp) (w3.heap.size + 1) (by simp) ?q3)
  case q1 => exact fun j v hj => (World.cell?_alloc_lt w3 _ _ (by rw [add_at]; show w.heap.size < _; omega)).trans (hn.out j v hj)
  case q2 => simp [Value.oneCell']
  case q3 =>
    intro g cap w4 hown hgrow hat hlt
    have e0 := hown.cellAt 0 (by omega)
    have e1 := hown.cellAt 1 (by omega)
    have e2 := hown.cellAt 2 (by omega)
    have e3 := hown.cellAt 3 (by omega)
    have hge : w3.heap.size ≤ g := by
      rcases hat with h | h
      · simp [Value.ownBlock] at h
        omega
      · omega
    have B4 : Below w.heap.size w w4 := (B3.alloc B3.size _).grown hgrow (by simp; omega) (by simp [Value.ownBlock]; omega)
    clear hown hgrow hat B3 hn
    go_wp2
    go_ret
    exact ⟨g, cap, rfl, by omega, hlt, e0, e1, e2, e3, B4⟩
end Go.Proofs.Ytdcojgkblfobnaa.Union
