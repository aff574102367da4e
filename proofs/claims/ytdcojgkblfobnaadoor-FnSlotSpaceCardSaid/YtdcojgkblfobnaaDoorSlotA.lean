/- The package ast and the thin function impl.table: a table of one symbol. The walks. -/
import Derived.Test.YtdcojgkblfobnaaDoorProg
import Derived.Test.YtdcojgkblfobnaaDoorAid
import Derived.Handy
import Derived.WalkLawsBesides
import Derived.Deep.DrawnRows
import Derived.Deep.RegionLaw
import Derived.Test.YtdcojgkblfobnaaDoorHoist
namespace Go.Proofs.YtdcojgkblfobnaaDoor.Slot
open Go.RowKit Go.Proofs.YtdcojgkblfobnaaDoor.Aid
attribute [local go_sem ↓] Go.wp_at_zero Go.wp_at_succ
set_option linter.unusedSimpArgs false
theorem private_ (k : Int) (w : World) : Calls Tryd.prog 15 #[.int .u8 k] w fun e w' => e = .returned (.bool (decide (8 ≤ k ∧ k ≤ 17))) ∧ w' = w := by
  by_cases h1 : 8 ≤ k
  · by_cases h2 : k ≤ 17
    · go_enter Tryd.func15, Tryd.ntmps15
      go_wp2_with fail
      go_returns
      simp [h1, h2]
    · have h2' : 17 < k := by omega
      go_enter Tryd.func15, Tryd.ntmps15
      go_wp2_with fail
      go_returns
      simp; omega
  · have h1' : k < 8 := by omega
    go_enter Tryd.func15, Tryd.ntmps15
    go_wp2_with fail
    go_returns
    simp; omega
theorem between_ (k : Int) (w : World) : Calls Tryd.prog 11 #[.int .i64 8, .int .i64 k, .int .i64 17] w fun e w' => e = .returned (.bool (decide (8 ≤ k ∧ k ≤ 17))) ∧ w' = w := by
  by_cases h1 : 8 ≤ k
  · by_cases h2 : k ≤ 17
    · go_enter Tryd.func11, Tryd.ntmps11
      go_wp2_with fail
      go_returns
      simp [h1, h2]
    · have h2' : 17 < k := by omega
      go_enter Tryd.func11, Tryd.ntmps11
      go_wp2_with fail
      go_returns
      simp; omega
  · have h1' : k < 8 := by omega
    go_enter Tryd.func11, Tryd.ntmps11
    go_wp2_with fail
    go_returns
    simp; omega
theorem mk41 (w : World) : (Instr.makeSlice 41 (.int .i64 1) (.int .i64 1)).run Tryd.prog w = .ok (.slice (some ⟨w.heap.size, 0, none⟩) 1 1) (w.alloc (.cells #[.slice none 0 0] 40)) := by kernel_rfl
theorem new_ (w : World) : Calls Tryd.prog 13 #[.int .i64 1] w fun e w' => e = .returned (.agg #[.slice (some ⟨w.heap.size + 1, 0, none⟩) 1 1]) ∧ Blk w' (w.heap.size + 1) 40 [.slice none 0 0] ∧ Below w.heap.size w w' := by
  have hmk := mk41
  go_enter Tryd.func13, Tryd.ntmps13
  go_wp2_with fail
  go_returns
  have hk := Blk.new (w.alloc (.cells #[.slice (some ⟨w.heap.size + 1, 0, none⟩) 1 1] 43)) 40 [.slice none 0 0]
  rw [show (w.alloc (.cells #[.slice (some ⟨w.heap.size + 1, 0, none⟩) 1 1] 43)).heap.size = w.heap.size + 1 from by simp] at hk
  exact ⟨rfl, hk, below_at (below_at (Below.refl _ _) _) _⟩
theorem far_ (w : World) (p a : Addr) (u : Value) (h : a.block ≠ p.block) : (w.setCell p u).cell? a = w.cell? a := World.cell?_of_block (Below.heap_setCell w p u a.block h)
theorem held_far {w : World} {p G : Nat} {v0 v1 v2 v3 v4 v5 v6 u : Value} (q0 : p ≠ G) (q1 : p + 1 ≠ G) (q2 : 1 ≠ G) (h : (w.cell? ⟨p, 0, none⟩ = some v0 ∧ w.cell? ⟨p + 1, 0, none⟩ = some v1 ∧ w.cell? ⟨p + 1, 1, none⟩ = some v2 ∧ w.cell? ⟨p + 1, 2, none⟩ = some v3 ∧ w.cell? ⟨p + 1, 3, none⟩ = some v4 ∧ w.cell? ⟨1, 0, none⟩ = some v5 ∧ w.cell? ⟨1, 1, none⟩ = some v6)) : ((w.setCell ⟨G, 0, none⟩ u).cell? ⟨p, 0, none⟩ = some v0 ∧ (w.setCell ⟨G, 0, none⟩ u).cell? ⟨p + 1, 0, none⟩ = some v1 ∧ (w.setCell ⟨G, 0, none⟩ u).cell? ⟨p + 1, 1, none⟩ = some v2 ∧ (w.setCell ⟨G, 0, none⟩ u).cell? ⟨p + 1, 2, none⟩ = some v3 ∧ (w.setCell ⟨G, 0, none⟩ u).cell? ⟨p + 1, 3, none⟩ = some v4 ∧ (w.setCell ⟨G, 0, none⟩ u).cell? ⟨1, 0, none⟩ = some v5 ∧ (w.setCell ⟨G, 0, none⟩ u).cell? ⟨1, 1, none⟩ = some v6) := by
  obtain ⟨h0, h1, h2, h3, h4, h5, h6⟩ := h
  exact ⟨(far_ _ _ _ _ q0).trans h0, (far_ _ _ _ _ q1).trans h1, (far_ _ _ _ _ q1).trans h2, (far_ _ _ _ _ q1).trans h3, (far_ _ _ _ _ q1).trans h4, (far_ _ _ _ _ q2).trans h5, (far_ _ _ _ _ q2).trans h6⟩
theorem S_si {S1 SG : World → Prop} (m i : Nat) (h : i ≠ m) : ∀ (L : Array Bool) (w : World), (S1 w ∧ ((L.setIfInBounds i true).getD m true = false → SG w)) → (S1 w ∧ (L.getD m true = false → SG w)) := fun L w hs => ⟨hs.1, fun hm => hs.2 (by rw [getD_set_ne true h]; exact hm)⟩
def sym (nm : ByteArray) (x f k y0 y1 : Int) : List Value := [.pointer none, .string nm, .int .u32 y0, .int .u32 y1, .int .u32 x, .int .u32 0, .int .u32 0, .int .u16 f, .int .u8 k, .int .u8 0]
theorem info39 : (Tryd.prog.info? 39).map (fun i => (i.zero, i.size, i.bytes)) = some (some (.agg #[.pointer none, .string ⟨#[]⟩, .int .u32 0, .int .u32 0, .int .u32 0, .int .u32 0, .int .u32 0, .int .u16 0, .int .u8 0, .int .u8 0]), 10, 48) := by kernel_rfl
set_option maxRecDepth 100000 in
set_option maxHeartbeats 4000000 in
theorem table (h : Nat) (nm : ByteArray) (x f k y0 y1 : Int) (w : World) (hh : Blk w h 25 [.string nm, .int .u32 x, .int .i64 f, .int .i64 k]) (hy0 : w.cell? ⟨1, 0, none⟩ = some (.int .u32 y0)) (hy1 : w.cell? ⟨1, 1, none⟩ = some (.int .u32 y1)) (hb : 2 ≤ w.heap.size) (f0 : 0 ≤ f) (f1 : f ≤ 1) (k0 : 0 ≤ k) (k1 : k ≤ 27) : Calls Tryd.prog 9 #[.slice (some ⟨h, 0, none⟩) 1 1] w fun e w' => ∃ g1 g2 c, e = .returned (.agg #[.slice (some ⟨g1, 0, none⟩) 1 1]) ∧ w'.cell? ⟨g1, 0, none⟩ = some (.slice (some ⟨g2, 0, none⟩) 1 c) ∧ (∀ j, j < 10 → w'.cell? ⟨g2, j, none⟩ = (sym nm x f k y0 y1)[j]?) ∧ Below w.heap.size w w' := by
  have hlt := hh.lt
  go_enter Tryd.func9, Tryd.ntmps9
  go_wp2_with fail
  have B0 := below_at (Below.refl w.heap.size w) (.cells #[.slice none 0 0] 43)
  obtain ⟨w0, e0⟩ : ∃ w0, w0 = w.alloc (.cells #[.slice none 0 0] 43) := ⟨_, rfl⟩
  have P0 : Blk w0 w.heap.size 43 [.slice none 0 0] := by rw [e0]; exact Blk.new w 43 [.slice none 0 0]
  have s0 : w0.heap.size = w.heap.size + 1 := by rw [e0]; simp
  rw [← e0] at B0 ⊢
  clear e0
  refine (new_ w0).mono ?_
  rintro e w1 ⟨rfl, K1, B1⟩
  rw [s0] at K1
  have P1 := P0.below B1 P0.lt
  have B01 := B0.trans (B1.mono B0.size)
  have n1 : w.heap.size + 1 + 1 < w1.heap.size := K1.lt
  have H1 := hh.below B01 hlt
  have y0' := bcell B01 (by omega) hy0
  have y1' := bcell B01 (by omega) hy1
  have H2 := (H1.alloc (.cells #[.slice (some ⟨w.heap.size + 1 + 1, 0, none⟩) 1 1] 43))
  have c0 := H2.get 0 rfl
  have c1 := H2.get 1 rfl
  have c2 := H2.get 2 rfl
  have c3 := H2.get 3 rfl
  rw [s0]
  go_wp2_with fail
  go_rounds 2
  obtain ⟨i0, hi, hz0, hz1, hz2⟩ := info_parts info39
  obtain ⟨w2, e2⟩ : ∃ w2, w2 = (w1.alloc (.cells #[.slice (some ⟨w.heap.size + 1 + 1, 0, none⟩) 1 1] 43)).alloc (.cells #[.string nm, .int .u32 x, .int .i64 f, .int .i64 k] 25) := ⟨_, rfl⟩
  have B12 : Below w1.heap.size w1 w2 := by rw [e2]; exact below_at (below_at (Below.refl _ _) _) _
  have K2 := K1.below B12 K1.lt
  have s2 : w2.heap.size = w1.heap.size + 2 := by rw [e2]; simp
  have q43 : Blk w2 w1.heap.size 43 [.slice (some ⟨w.heap.size + 1 + 1, 0, none⟩) 1 1] := by rw [e2]; exact (Blk.new w1 43 _).alloc _
  have q25 : Blk w2 (w1.heap.size + 1) 25 [.string nm, .int .u32 x, .int .i64 f, .int .i64 k] := by
    rw [e2]
    have := Blk.new (w1.alloc (.cells #[.slice (some ⟨w.heap.size + 1 + 1, 0, none⟩) 1 1] 43)) 25 [.string nm, .int .u32 x, .int .i64 f, .int .i64 k]
    rwa [show (w1.alloc (.cells #[.slice (some ⟨w.heap.size + 1 + 1, 0, none⟩) 1 1] 43)).heap.size = w1.heap.size + 1 from by simp] at this
  have y02 := bcell B12 (by omega) y0'
  have y12 := bcell B12 (by omega) y1'
  have P2 := P1.below B12 P1.lt
  rw [← e2]
  clear e2 H1 H2 c0 c1 c2 c3 K1 P0 P1 hh hy0 hy1 y0' y1'
  have d0 := q43.get 0 rfl
  have d1 := q25.get 0 rfl
  have d2 := q25.get 1 rfl
  have d3 := q25.get 2 rfl
  have d4 := q25.get 3 rfl
  have d5 := K2.get 0 rfl
  have d6 := K2.frozen 0
  have hbase : w.heap.size ≤ w2.heap.size := by omega
  have S2 := Lib.hid s2
  clear s2
  have HNE : Hid (some (w.heap.size + 1 + 1) ≠ (Value.slice none 0 0).ownBlock) := Lib.hid (by simp [Value.ownBlock])
  go_wp2_with fail
  have hfar : ∀ w3 : World, (w2.alloc (.cells #[.pointer none, .string nm, .int .u32 y0, .int .u32 y1, .int .u32 x, .int .u32 0, .int .u32 0, .int .u16 (IntKind.u16.wrap f), .int .u8 (IntKind.u8.wrap k), .int .u8 0] 39)).drew.grownBy w3 (Value.slice none 0 0).ownBlock → ∀ a v, w2.cell? a = some v → w3.cell? a = some v := by
    intro w3 hg a v hv
    have hl : a.block < w2.heap.size := World.block_lt_of_cell? w2 _ hv
    have h1 : (w2.alloc (.cells #[.pointer none, .string nm, .int .u32 y0, .int .u32 y1, .int .u32 x, .int .u32 0, .int .u32 0, .int .u16 (IntKind.u16.wrap f), .int .u8 (IntKind.u8.wrap k), .int .u8 0] 39)).drew.cell? a = some v := (World.cell?_of_block (Below.heap_alloc w2 _ a.block hl)).trans hv
    exact (hg.cell_far a (by simp; omega) (by simp [Value.ownBlock])).trans h1
  have HFAR := Lib.hid hfar
  have q0 : w1.heap.size ≠ w.heap.size + 1 + 1 := by omega
  have q1 : w1.heap.size + 1 ≠ w.heap.size + 1 + 1 := by omega
  have q2 : 1 ≠ w.heap.size + 1 + 1 := by omega
  have q3 : w.heap.size + 1 + 1 ≠ w1.heap.size := by omega
  have q4 : w.heap.size + 1 ≠ w1.heap.size := by omega
  have d5' := (K2.alloc (.cells #[.pointer none, .string nm, .int .u32 y0, .int .u32 y1, .int .u32 x, .int .u32 0, .int .u32 0, .int .u16 (IntKind.u16.wrap f), .int .u8 (IntKind.u8.wrap k), .int .u8 0] 39)).get 0 rfl
  clear hfar
  obtain ⟨S1, hS1⟩ : ∃ S1 : World → Prop, S1 = fun w' => (w'.cell? ⟨w1.heap.size, 0, none⟩ = some (.slice (some ⟨w.heap.size + 1 + 1, 0, none⟩) 1 1) ∧ w'.cell? ⟨w1.heap.size + 1, 0, none⟩ = some (.string nm) ∧ w'.cell? ⟨w1.heap.size + 1, 1, none⟩ = some (.int .u32 x) ∧ w'.cell? ⟨w1.heap.size + 1, 2, none⟩ = some (.int .i64 f) ∧ w'.cell? ⟨w1.heap.size + 1, 3, none⟩ = some (.int .i64 k) ∧ w'.cell? ⟨1, 0, none⟩ = some (.int .u32 y0) ∧ w'.cell? ⟨1, 1, none⟩ = some (.int .u32 y1)) := ⟨_, rfl⟩
  obtain ⟨SG, hSG⟩ : ∃ SG : World → Prop, SG = fun w' => w'.cell? ⟨w.heap.size + 1 + 1, 0, none⟩ = some (.slice none 0 0) := ⟨_, rfl⟩
  have h1 : S1 w2.drew := by rw [hS1]; exact ⟨d0, d1, d2, d3, d4, y02, y12⟩
  have hg : SG w2.drew := by rw [hSG]; exact d5
  have HS1 := Lib.hid hS1
  have HSG := Lib.hid hSG
  clear hS1 hSG
  refine Hoist.start (S := fun L w' => S1 w' ∧ (L.getD 19 true = false → SG w')) (by kernel_rfl) ?_
  refine Hoist.take (i := 0) (T := S1) (G := fun _ => True) (v := ?v0) rfl (by kernel_rfl) (by kernel_rfl) (by kernel_rfl) (fun _ _ _ h => h) (S_si 19 0 (by decide)) (fun _ _ _ _ _ _ => trivial) (fun _ _ _ h => h.1) trivial (Or.inl ⟨by rfl, ?hy0⟩) ⟨h1, fun _ => hg⟩ ?rest0
  case hy0 =>
    intro w' hSw
    rw [HS1.out] at hSw
    obtain ⟨t0, t1, t2, t3, t4, t5, t6⟩ := hSw
    go_simp
    rfl
  simp only [Act.put, List.setIfInBounds_toArray, List.set_cons_zero, List.set_cons_succ]
  refine Hoist.take (i := 1) (T := S1) (G := fun _ => True) (v := ?v1) rfl (by kernel_rfl) (by kernel_rfl) (by kernel_rfl) (fun _ _ _ h => h) (S_si 19 1 (by decide)) (fun _ _ _ _ _ _ => trivial) (fun _ _ _ h => h.1) trivial (Or.inl ⟨by rfl, ?hy1⟩) ⟨h1, fun _ => hg⟩ ?rest1
  case hy1 =>
    intro w' hSw
    rw [HS1.out] at hSw
    obtain ⟨t0, t1, t2, t3, t4, t5, t6⟩ := hSw
    go_simp
    rfl
  simp only [Act.put, List.setIfInBounds_toArray, List.set_cons_zero, List.set_cons_succ]
  refine Hoist.take (i := 2) (T := S1) (G := fun _ => True) (v := ?v2) rfl (by kernel_rfl) (by kernel_rfl) (by kernel_rfl) (fun _ _ _ h => h) (S_si 19 2 (by decide)) (fun _ _ _ _ _ _ => trivial) (fun _ _ _ h => h.1) trivial (Or.inl ⟨by rfl, ?hy2⟩) ⟨h1, fun _ => hg⟩ ?rest2
  case hy2 =>
    intro w' hSw
    rw [HS1.out] at hSw
    obtain ⟨t0, t1, t2, t3, t4, t5, t6⟩ := hSw
    go_simp
    rfl
  simp only [Act.put, List.setIfInBounds_toArray, List.set_cons_zero, List.set_cons_succ]
  refine Hoist.take (i := 3) (T := S1) (G := fun _ => True) (v := ?v3) rfl (by kernel_rfl) (by kernel_rfl) (by kernel_rfl) (fun _ _ _ h => h) (S_si 19 3 (by decide)) (fun _ _ _ _ _ _ => trivial) (fun _ _ _ h => h.1) trivial (Or.inl ⟨by rfl, ?hy3⟩) ⟨h1, fun _ => hg⟩ ?rest3
  case hy3 =>
    intro w' hSw
    rw [HS1.out] at hSw
    obtain ⟨t0, t1, t2, t3, t4, t5, t6⟩ := hSw
    go_simp
    rfl
  simp only [Act.put, List.setIfInBounds_toArray, List.set_cons_zero, List.set_cons_succ]
  refine Hoist.take (i := 4) (T := S1) (G := fun _ => True) (v := ?v4) rfl (by kernel_rfl) (by kernel_rfl) (by kernel_rfl) (fun _ _ _ h => h) (S_si 19 4 (by decide)) (fun _ _ _ _ _ _ => trivial) (fun _ _ _ h => h.1) trivial (Or.inl ⟨by rfl, ?hy4⟩) ⟨h1, fun _ => hg⟩ ?rest4
  case hy4 =>
    intro w' hSw
    rw [HS1.out] at hSw
    obtain ⟨t0, t1, t2, t3, t4, t5, t6⟩ := hSw
    go_simp
    rfl
  simp only [Act.put, List.setIfInBounds_toArray, List.set_cons_zero, List.set_cons_succ]
  refine Hoist.take (i := 5) (T := fun w' => S1 w' ∧ SG w') (G := fun L => L.getD 19 true = false) (v := ?v5) rfl (by kernel_rfl) (by kernel_rfl) (by kernel_rfl) (fun _ _ _ h => h) (S_si 19 5 (by decide)) (Hoist.waits 19 5 (by kernel_rfl)) (fun _ _ hL h => ⟨h.1, h.2 hL⟩) (by kernel_rfl) (Or.inl ⟨by rfl, ?hy5⟩) ⟨h1, fun _ => hg⟩ ?rest5
  case hy5 =>
    intro w' hSw
    rw [HSG.out] at hSw
    obtain ⟨-, t7⟩ := hSw
    go_simp
    rfl
  simp only [Act.put, List.setIfInBounds_toArray, List.set_cons_zero, List.set_cons_succ]
  refine Hoist.take (i := 6) (T := S1) (G := fun _ => True) (v := ?v6) rfl (by kernel_rfl) (by kernel_rfl) (by kernel_rfl) (fun _ _ _ h => h) (S_si 19 6 (by decide)) (fun _ _ _ _ _ _ => trivial) (fun _ _ _ h => h.1) trivial (Or.inl ⟨by rfl, ?hy6⟩) ⟨h1, fun _ => hg⟩ ?rest6
  case hy6 =>
    intro w' hSw
    rw [HS1.out] at hSw
    obtain ⟨t0, t1, t2, t3, t4, t5, t6⟩ := hSw
    go_simp
    rfl
  simp only [Act.put, List.setIfInBounds_toArray, List.set_cons_zero, List.set_cons_succ]
  refine Hoist.take (i := 7) (T := S1) (G := fun _ => True) (v := ?v7) rfl (by kernel_rfl) (by kernel_rfl) (by kernel_rfl) (fun _ _ _ h => h) (S_si 19 7 (by decide)) (fun _ _ _ _ _ _ => trivial) (fun _ _ _ h => h.1) trivial (Or.inl ⟨by rfl, ?hy7⟩) ⟨h1, fun _ => hg⟩ ?rest7
  case hy7 =>
    intro w' hSw
    rw [HS1.out] at hSw
    obtain ⟨t0, t1, t2, t3, t4, t5, t6⟩ := hSw
    go_simp
    rfl
  simp only [Act.put, List.setIfInBounds_toArray, List.set_cons_zero, List.set_cons_succ]
  refine Hoist.take (i := 8) (T := S1) (G := fun _ => True) (v := ?v8) rfl (by kernel_rfl) (by kernel_rfl) (by kernel_rfl) (fun _ _ _ h => h) (S_si 19 8 (by decide)) (fun _ _ _ _ _ _ => trivial) (fun _ _ _ h => h.1) trivial (Or.inl ⟨by rfl, ?hy8⟩) ⟨h1, fun _ => hg⟩ ?rest8
  case hy8 =>
    intro w' hSw
    rw [HS1.out] at hSw
    obtain ⟨t0, t1, t2, t3, t4, t5, t6⟩ := hSw
    go_simp
    rfl
  simp only [Act.put, List.setIfInBounds_toArray, List.set_cons_zero, List.set_cons_succ]
  refine Hoist.take (i := 9) (T := S1) (G := fun _ => True) (v := ?v9) rfl (by kernel_rfl) (by kernel_rfl) (by kernel_rfl) (fun _ _ _ h => h) (S_si 19 9 (by decide)) (fun _ _ _ _ _ _ => trivial) (fun _ _ _ h => h.1) trivial (Or.inl ⟨by rfl, ?hy9⟩) ⟨h1, fun _ => hg⟩ ?rest9
  case hy9 =>
    intro w' hSw
    rw [HS1.out] at hSw
    obtain ⟨t0, t1, t2, t3, t4, t5, t6⟩ := hSw
    go_simp
    rfl
  simp only [Act.put, List.setIfInBounds_toArray, List.set_cons_zero, List.set_cons_succ]
  refine Hoist.take (i := 10) (T := S1) (G := fun _ => True) (v := ?v10) rfl (by kernel_rfl) (by kernel_rfl) (by kernel_rfl) (fun _ _ _ h => h) (S_si 19 10 (by decide)) (fun _ _ _ _ _ _ => trivial) (fun _ _ _ h => h.1) trivial (Or.inl ⟨by rfl, ?hy10⟩) ⟨h1, fun _ => hg⟩ ?rest10
  case hy10 =>
    intro w' hSw
    rw [HS1.out] at hSw
    obtain ⟨t0, t1, t2, t3, t4, t5, t6⟩ := hSw
    go_simp
    rfl
  simp only [Act.put, List.setIfInBounds_toArray, List.set_cons_zero, List.set_cons_succ]
  refine Hoist.take (i := 11) (T := S1) (G := fun _ => True) (v := ?v11) rfl (by kernel_rfl) (by kernel_rfl) (by kernel_rfl) (fun _ _ _ h => h) (S_si 19 11 (by decide)) (fun _ _ _ _ _ _ => trivial) (fun _ _ _ h => h.1) trivial (Or.inl ⟨by rfl, ?hy11⟩) ⟨h1, fun _ => hg⟩ ?rest11
  case hy11 =>
    intro w' hSw
    rw [HS1.out] at hSw
    obtain ⟨t0, t1, t2, t3, t4, t5, t6⟩ := hSw
    go_simp
    rfl
  simp only [Act.put, List.setIfInBounds_toArray, List.set_cons_zero, List.set_cons_succ]
  refine Hoist.take (i := 12) (T := S1) (G := fun _ => True) (v := ?v12) rfl (by kernel_rfl) (by kernel_rfl) (by kernel_rfl) (fun _ _ _ h => h) (S_si 19 12 (by decide)) (fun _ _ _ _ _ _ => trivial) (fun _ _ _ h => h.1) trivial (Or.inl ⟨by rfl, ?hy12⟩) ⟨h1, fun _ => hg⟩ ?rest12
  case hy12 =>
    intro w' hSw
    rw [HS1.out] at hSw
    obtain ⟨t0, t1, t2, t3, t4, t5, t6⟩ := hSw
    go_simp
    rfl
  simp only [Act.put, List.setIfInBounds_toArray, List.set_cons_zero, List.set_cons_succ]
  refine Hoist.take (i := 13) (T := S1) (G := fun _ => True) (v := ?v13) rfl (by kernel_rfl) (by kernel_rfl) (by kernel_rfl) (fun _ _ _ h => h) (S_si 19 13 (by decide)) (fun _ _ _ _ _ _ => trivial) (fun _ _ _ h => h.1) trivial (Or.inl ⟨by rfl, ?hy13⟩) ⟨h1, fun _ => hg⟩ ?rest13
  case hy13 =>
    intro w' hSw
    rw [HS1.out] at hSw
    obtain ⟨t0, t1, t2, t3, t4, t5, t6⟩ := hSw
    go_simp
    rfl
  simp only [Act.put, List.setIfInBounds_toArray, List.set_cons_zero, List.set_cons_succ]
  refine Hoist.take (i := 14) (T := S1) (G := fun _ => True) (v := ?v14) rfl (by kernel_rfl) (by kernel_rfl) (by kernel_rfl) (fun _ _ _ h => h) (S_si 19 14 (by decide)) (fun _ _ _ _ _ _ => trivial) (fun _ _ _ h => h.1) trivial (Or.inl ⟨by rfl, ?hy14⟩) ⟨h1, fun _ => hg⟩ ?rest14
  case hy14 =>
    intro w' hSw
    rw [HS1.out] at hSw
    obtain ⟨t0, t1, t2, t3, t4, t5, t6⟩ := hSw
    go_simp
    rfl
  simp only [Act.put, List.setIfInBounds_toArray, List.set_cons_zero, List.set_cons_succ]
  refine Hoist.take (i := 15) (T := S1) (G := fun _ => True) (v := ?v15) rfl (by kernel_rfl) (by kernel_rfl) (by kernel_rfl) (fun _ _ _ h => h) (S_si 19 15 (by decide)) (fun _ _ _ _ _ _ => trivial) (fun _ _ _ h => h.1) trivial (Or.inl ⟨by rfl, ?hy15⟩) ⟨h1, fun _ => hg⟩ ?rest15
  case hy15 =>
    intro w' hSw
    rw [HS1.out] at hSw
    obtain ⟨t0, t1, t2, t3, t4, t5, t6⟩ := hSw
    go_simp
    rfl
  simp only [Act.put, List.setIfInBounds_toArray, List.set_cons_zero, List.set_cons_succ]
  refine Hoist.take (i := 16) (T := S1) (G := fun _ => True) (v := ?v16) rfl (by kernel_rfl) (by kernel_rfl) (by kernel_rfl) (fun _ _ _ h => h) (S_si 19 16 (by decide)) (fun _ _ _ _ _ _ => trivial) (fun _ _ _ h => h.1) trivial (Or.inl ⟨by rfl, ?hy16⟩) ⟨h1, fun _ => hg⟩ ?rest16
  case hy16 =>
    intro w' hSw
    rw [HS1.out] at hSw
    obtain ⟨t0, t1, t2, t3, t4, t5, t6⟩ := hSw
    go_simp
    rfl
  simp only [Act.put, List.setIfInBounds_toArray, List.set_cons_zero, List.set_cons_succ]
  refine Hoist.take (i := 17) (T := S1) (G := fun _ => True) (v := ?v17) rfl (by kernel_rfl) (by kernel_rfl) (by kernel_rfl) (fun _ _ _ h => h) (S_si 19 17 (by decide)) (fun _ _ _ _ _ _ => trivial) (fun _ _ _ h => h.1) trivial (Or.inl ⟨by rfl, ?hy17⟩) ⟨h1, fun _ => hg⟩ ?rest17
  case hy17 =>
    intro w' hSw
    rw [HS1.out] at hSw
    obtain ⟨t0, t1, t2, t3, t4, t5, t6⟩ := hSw
    go_simp
    rfl
  simp only [Act.put, List.setIfInBounds_toArray, List.set_cons_zero, List.set_cons_succ]
  refine Hoist.only (i := 18) rfl (by kernel_rfl) ?_
  intro K hK
  go_simp
  have h1a : S1 (w2.alloc (.cells #[.pointer none, .string nm, .int .u32 y0, .int .u32 y1, .int .u32 x, .int .u32 0, .int .u32 0, .int .u16 (IntKind.u16.wrap f), .int .u8 (IntKind.u8.wrap k), .int .u8 0] 39)).drew := by
    rw [HS1.out]
    exact ⟨(q43.alloc _).get 0 rfl, (q25.alloc _).get 0 rfl, (q25.alloc _).get 1 rfl, (q25.alloc _).get 2 rfl, (q25.alloc _).get 3 rfl, (World.cell?_of_block (Below.heap_alloc w2 _ 1 (World.block_lt_of_cell? w2 _ y02))).trans y02, (World.cell?_of_block (Below.heap_alloc w2 _ 1 (World.block_lt_of_cell? w2 _ y12))).trans y12⟩
  have hga : SG (w2.alloc (.cells #[.pointer none, .string nm, .int .u32 y0, .int .u32 y1, .int .u32 x, .int .u32 0, .int .u32 0, .int .u16 (IntKind.u16.wrap f), .int .u8 (IntKind.u8.wrap k), .int .u8 0] 39)).drew := by
    rw [HSG.out]
    exact (K2.alloc _).get 0 rfl
  refine hK _ _ ⟨h1a, fun _ => hga⟩ ?_
  clear hK K
  refine Hoist.only (i := 19) rfl (by kernel_rfl) ?_
  intro K hK
  refine step_append_el (by rfl) (.tmp 18) (.tmp 31) 40 (by rfl) w.heap.size 39 i0 _ 10 48 Tryd.underlying40 hi hz0 hz1 hz2 rfl (by omega) (.slice none 0 0) 0 [] (by rfl) (own_nil _ _ _ _) w2.heap.size (by rfl) [.pointer none, .string nm, .int .u32 y0, .int .u32 y1, .int .u32 x, .int .u32 0, .int .u32 0, .int .u16 (IntKind.u16.wrap f), .int .u8 (IntKind.u8.wrap k), .int .u8 0] (Blk.new _ _ _) rfl (by simp [Value.oneCell']) (by simp [maxLen]) (by omega) (by simp; omega) ?_
  intro g' cap w3 hown3 hgrow hat hlt3
  have K3 := ((K2.alloc (.cells #[.pointer none, .string nm, .int .u32 y0, .int .u32 y1, .int .u32 x, .int .u32 0, .int .u32 0, .int .u16 (IntKind.u16.wrap f), .int .u8 (IntKind.u8.wrap k), .int .u8 0] 39)).drew).grown hgrow HNE.out
  have R43 := ((q43.alloc (.cells #[.pointer none, .string nm, .int .u32 y0, .int .u32 y1, .int .u32 x, .int .u32 0, .int .u32 0, .int .u16 (IntKind.u16.wrap f), .int .u8 (IntKind.u8.wrap k), .int .u8 0] 39)).drew).grown hgrow (by simp [Value.ownBlock])
  have R25 := ((q25.alloc (.cells #[.pointer none, .string nm, .int .u32 y0, .int .u32 y1, .int .u32 x, .int .u32 0, .int .u32 0, .int .u16 (IntKind.u16.wrap f), .int .u8 (IntKind.u8.wrap k), .int .u8 0] 39)).drew).grown hgrow (by simp [Value.ownBlock])
  have h1b : S1 w3 := by
    have hga' : ∀ b o v, w2.cell? ⟨b, o, none⟩ = some v → w3.cell? ⟨b, o, none⟩ = some v := fun b o v hv => HFAR.out w3 hgrow _ _ hv
    rw [HS1.out]
    exact ⟨hga' _ _ _ d0, hga' _ _ _ d1, hga' _ _ _ d2, hga' _ _ _ d3, hga' _ _ _ d4, hga' _ _ _ y02, hga' _ _ _ y12⟩
  have d7 := K3.get 0 rfl
  have d8 := K3.frozen 0
  refine hK _ _ ⟨h1b, fun hL => absurd hL (by simp)⟩ ?_
  clear hK K
  refine Hoist.only (i := 20) rfl (by kernel_rfl) ?_
  intro K hK
  go_simp
  refine hK _ _ ⟨h1b, fun hL => absurd hL (by simp)⟩ ?_
  clear hK K
  refine Hoist.only (i := 21) rfl (by kernel_rfl) ?_
  intro K hK
  go_simp
  have h1c : S1 (w3.setCell ⟨w.heap.size + 1 + 1, 0, none⟩ (.slice (some ⟨g', 0, none⟩) 1 cap)) := by
    rw [HS1.out] at h1b ⊢
    exact held_far q0 q1 q2 h1b
  refine hK _ _ ⟨h1c, fun hL => absurd hL (by simp)⟩ ?_
  clear hK K
  refine Hoist.over (by kernel_rfl) ?_ _
  have P3 := (((P2.alloc (.cells #[.pointer none, .string nm, .int .u32 y0, .int .u32 y1, .int .u32 x, .int .u32 0, .int .u32 0, .int .u16 (IntKind.u16.wrap f), .int .u8 (IntKind.u8.wrap k), .int .u8 0] 39)).drew).grown hgrow (by simp [Value.ownBlock])).far (p := ⟨w.heap.size + 1 + 1, 0, none⟩) (by show w.heap.size ≠ w.heap.size + 1 + 1; omega) (.slice (some ⟨g', 0, none⟩) 1 cap)
  have R43' := R43.far (p := ⟨w.heap.size + 1 + 1, 0, none⟩) q0 (.slice (some ⟨g', 0, none⟩) 1 cap)
  have K4 := K3.set_ 0 (.slice (some ⟨g', 0, none⟩) 1 cap)
  have B13 : Below w.heap.size w w3 := by
    have b1 : Below w.heap.size w w2 := B01.trans (B12.mono B01.size)
    have b2 : Below w.heap.size w (w2.alloc (.cells #[.pointer none, .string nm, .int .u32 y0, .int .u32 y1, .int .u32 x, .int .u32 0, .int .u32 0, .int .u16 (IntKind.u16.wrap f), .int .u8 (IntKind.u8.wrap k), .int .u8 0] 39)).drew := (below_at b1 _).drew
    exact b2.grown hgrow b2.size (by simp [Value.ownBlock])
  have hne3 := own_ne hown3 K3 (by decide)
  have hown4 := (Two.of_block (r := none) (only_setCell (p := ⟨w.heap.size + 1 + 1, 0, none⟩) (World.grownBy.refl w3 _) (.inl rfl) (.slice (some ⟨g', 0, none⟩) 1 cap))).own hown3 hne3 (Classical.em _)
  have B14 : Below w.heap.size w (w3.setCell ⟨w.heap.size + 1 + 1, 0, none⟩ (.slice (some ⟨g', 0, none⟩) 1 cap)) := B13.grown (only_setCell (p := ⟨w.heap.size + 1 + 1, 0, none⟩) (World.grownBy.refl w3 _) (.inl rfl) _) B13.size (fun g hg => by have e : w.heap.size + 1 + 1 = g := Option.some.inj hg; omega)
  obtain ⟨w4, e4⟩ : ∃ w4, w4 = w3.setCell ⟨w.heap.size + 1 + 1, 0, none⟩ (.slice (some ⟨g', 0, none⟩) 1 cap) := ⟨_, rfl⟩
  rw [← e4] at P3 R43' K4 hown4 B14 ⊢
  clear e4 h1 h1a h1b h1c hg hga d0 d1 d2 d3 d4 d5 d6 d7 d8 d5' K2 q43 q25 y02 y12 P2 R43 R25 K3
  have c0 := P3.get 0 rfl
  have c1 := P3.frozen 0
  have c2 := R43'.get 0 rfl
  go_wp2_with fail
  rw [rounds_succ]
  go_wp2_with fail
  have P4 := P3.set_ 0 (.slice (some ⟨w.heap.size + 1 + 1, 0, none⟩) 1 1)
  have z0 := P4.get 0 rfl
  have K5 := K4.far (p := ⟨w.heap.size, 0, none⟩) (by show w.heap.size + 1 + 1 ≠ w.heap.size; omega) (.slice (some ⟨w.heap.size + 1 + 1, 0, none⟩) 1 1)
  have hne4 := own_ne hown4 P3 (by decide)
  have hown5 := (Two.of_block (r := none) (only_setCell (p := ⟨w.heap.size, 0, none⟩) (World.grownBy.refl w4 _) (.inl rfl) (.slice (some ⟨w.heap.size + 1 + 1, 0, none⟩) 1 1))).own hown4 hne4 (Classical.em _)
  have B15 : Below w.heap.size w (w4.setCell ⟨w.heap.size, 0, none⟩ (.slice (some ⟨w.heap.size + 1 + 1, 0, none⟩) 1 1)) := B14.grown (only_setCell (p := ⟨w.heap.size, 0, none⟩) (World.grownBy.refl w4 _) (.inl rfl) _) B14.size (fun g hg => by have e : w.heap.size = g := Option.some.inj hg; omega)
  have ef : IntKind.u16.wrap f = f := by simp [IntKind.wrap, IntKind.bits, IntKind.signed]; omega
  have ek : IntKind.u8.wrap k = k := by simp [IntKind.wrap, IntKind.bits, IntKind.signed]; omega
  rw [ef, ek] at hown5
  have hc := fun j (hj : j < 10) => hown5.cellAt j (by omega)
  have k5 := K5.get 0 rfl
  obtain ⟨w5, e5⟩ : ∃ w5, w5 = w4.setCell ⟨w.heap.size, 0, none⟩ (.slice (some ⟨w.heap.size + 1 + 1, 0, none⟩) 1 1) := ⟨_, rfl⟩
  rw [← e5] at z0 k5 hc B15 ⊢
  clear e5 K5 hown5 P4 c0 c1 c2
  refine bodyPost_ret (by simp [results, Tryd.results9, z0, go_sem]; try rfl) rfl ?_
  exact ⟨_, _, _, rfl, k5, hc, B15⟩
end Go.Proofs.YtdcojgkblfobnaaDoor.Slot
