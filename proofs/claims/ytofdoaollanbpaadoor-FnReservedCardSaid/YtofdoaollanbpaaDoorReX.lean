/- The example of three scopes, one in the other. The walk. -/
import Derived.Test.YtofdoaollanbpaaDoorReW
namespace Go.Proofs.YtofdoaollanbpaaDoor.Res
open Go.RowKit Go.Proofs.YtofdoaollanbpaaDoor.Aid
attribute [local go_sem ↓] Go.wp_at_zero Go.wp_at_succ
set_option linter.unusedVariables false
set_option linter.unusedSimpArgs false
def exName (i : Nat) : ByteArray := match i with | 0 => ⟨#[97]⟩ | 1 => ⟨#[98]⟩ | _ => ⟨#[99]⟩
def exS (s : Nat) (i : Nat) : Sc :=
  { p := (i : Int) - 1, k := match i with | 0 => 6 | 1 => 8 | _ => 0, A := some ⟨s + 2 * i, 0, none⟩, n := 1, c := 1, R := some ⟨s + 2 * i + 1, 0, none⟩, rn := 1, rc := 1, G := none, gn := 0, gc := 0, l := -1, ev := false, names := fun _ => exName i, refs := fun _ => i, gens := fun _ => 0 }
def exY (i : Nat) : Sy := { name := exName i, u := 0, fl := 0, k := match i with | 0 => 1 | _ => 27 }
theorem ex_good (s : Nat) : Good (exS s) 3 exY 3 := by
  have hsz : ∀ i, (exName i).size ≤ 1 := fun i => by
    unfold exName
    split <;> decide
  refine ⟨by omega, by omega, by omega, fun i hi => ⟨by simp [exS], fun j hj => by have := hsz i; simp only [exS]; omega, by simp [exS], by simp [exS]⟩, fun i hi => ?_, fun j hj => ⟨?_, by have := hsz j; simp only [exY]; omega⟩, fun j hj h => by simp [exS] at h⟩
  · refine ⟨fun h => ?_, fun h => ?_, ?_, by simp [exS], fun j hj => ?_, fun j hj => by simp [exS] at hj, fun h => by simp [exS] at h, fun h => ?_, ?_⟩
    · subst h
      simp [exS]
    · simp only [exS]
      omega
    · simp only [exS]
      split <;> omega
    · simp only [exS]
      omega
    · simp only [exS] at h
      split at h <;> simp at h
    · refine ⟨rfl, fun a b h1 h2 => ?_, fun a ha => ?_⟩
      · simp only [exS] at h2
        omega
      · simp [exS, exY]
  · simp only [Sy.Plain, exY]
    refine ⟨?_, ?_, .inl trivial⟩
    · split <;> omega
    · split <;> omega
set_option maxRecDepth 100000 in
set_option maxHeartbeats 4000000 in
theorem nested (w : World) : Calls Tryd.prog 9 #[] w fun e w' => Below w.heap.size w w' ∧ ∃ s, e = .returned (.tuple #[.slice (some ⟨s + 6, 0, none⟩) 3 3, .slice (some ⟨s + 7, 0, none⟩) 3 3]) ∧ RSc w' (some ⟨s + 6, 0, none⟩) 3 (exS s) ∧ RSy w' (some ⟨s + 7, 0, none⟩) 3 exY := by
  go_enter Tryd.func9, Tryd.ntmps9
  go_wp2_with fail
  go_returns
  obtain ⟨w0, e0⟩ : ∃ w0, w0 = w.alloc (.cells #[.string ⟨#[97]⟩] 9) := ⟨_, rfl⟩
  have b0 : Blk w0 (w.heap.size) 9 [.string ⟨#[97]⟩] := by rw [e0]; exact Blk.new w 9 _
  have z0 : w0.heap.size = w.heap.size + 1 := by rw [e0]; simp
  have B0 : Below w.heap.size w w0 := by rw [e0]; exact below_at (Below.refl _ _) _
  obtain ⟨w1, e1⟩ : ∃ w1, w1 = w0.alloc (.cells #[.int .i64 0] 3) := ⟨_, rfl⟩
  have b1 : Blk w1 (w.heap.size + 1) 3 [.int .i64 0] := by rw [e1, ← z0]; exact Blk.new w0 3 _
  have z1 : w1.heap.size = w.heap.size + 2 := by rw [e1]; simp [z0]
  have B1 : Below w.heap.size w w1 := by rw [e1]; exact below_at B0 _
  replace b0 := by have h := b0.alloc (.cells #[.int .i64 0] 3); rw [← e1] at h; exact h
  obtain ⟨w2, e2⟩ : ∃ w2, w2 = w1.alloc (.cells #[.string ⟨#[98]⟩] 9) := ⟨_, rfl⟩
  have b2 : Blk w2 (w.heap.size + 2) 9 [.string ⟨#[98]⟩] := by rw [e2, ← z1]; exact Blk.new w1 9 _
  have z2 : w2.heap.size = w.heap.size + 3 := by rw [e2]; simp [z1]
  have B2 : Below w.heap.size w w2 := by rw [e2]; exact below_at B1 _
  replace b0 := by have h := b0.alloc (.cells #[.string ⟨#[98]⟩] 9); rw [← e2] at h; exact h
  replace b1 := by have h := b1.alloc (.cells #[.string ⟨#[98]⟩] 9); rw [← e2] at h; exact h
  obtain ⟨w3, e3⟩ : ∃ w3, w3 = w2.alloc (.cells #[.int .i64 1] 3) := ⟨_, rfl⟩
  have b3 : Blk w3 (w.heap.size + 3) 3 [.int .i64 1] := by rw [e3, ← z2]; exact Blk.new w2 3 _
  have z3 : w3.heap.size = w.heap.size + 4 := by rw [e3]; simp [z2]
  have B3 : Below w.heap.size w w3 := by rw [e3]; exact below_at B2 _
  replace b0 := by have h := b0.alloc (.cells #[.int .i64 1] 3); rw [← e3] at h; exact h
  replace b1 := by have h := b1.alloc (.cells #[.int .i64 1] 3); rw [← e3] at h; exact h
  replace b2 := by have h := b2.alloc (.cells #[.int .i64 1] 3); rw [← e3] at h; exact h
  obtain ⟨w4, e4⟩ : ∃ w4, w4 = w3.alloc (.cells #[.string ⟨#[99]⟩] 9) := ⟨_, rfl⟩
  have b4 : Blk w4 (w.heap.size + 4) 9 [.string ⟨#[99]⟩] := by rw [e4, ← z3]; exact Blk.new w3 9 _
  have z4 : w4.heap.size = w.heap.size + 5 := by rw [e4]; simp [z3]
  have B4 : Below w.heap.size w w4 := by rw [e4]; exact below_at B3 _
  replace b0 := by have h := b0.alloc (.cells #[.string ⟨#[99]⟩] 9); rw [← e4] at h; exact h
  replace b1 := by have h := b1.alloc (.cells #[.string ⟨#[99]⟩] 9); rw [← e4] at h; exact h
  replace b2 := by have h := b2.alloc (.cells #[.string ⟨#[99]⟩] 9); rw [← e4] at h; exact h
  replace b3 := by have h := b3.alloc (.cells #[.string ⟨#[99]⟩] 9); rw [← e4] at h; exact h
  obtain ⟨w5, e5⟩ : ∃ w5, w5 = w4.alloc (.cells #[.int .i64 2] 3) := ⟨_, rfl⟩
  have b5 : Blk w5 (w.heap.size + 5) 3 [.int .i64 2] := by rw [e5, ← z4]; exact Blk.new w4 3 _
  have z5 : w5.heap.size = w.heap.size + 6 := by rw [e5]; simp [z4]
  have B5 : Below w.heap.size w w5 := by rw [e5]; exact below_at B4 _
  replace b0 := by have h := b0.alloc (.cells #[.int .i64 2] 3); rw [← e5] at h; exact h
  replace b1 := by have h := b1.alloc (.cells #[.int .i64 2] 3); rw [← e5] at h; exact h
  replace b2 := by have h := b2.alloc (.cells #[.int .i64 2] 3); rw [← e5] at h; exact h
  replace b3 := by have h := b3.alloc (.cells #[.int .i64 2] 3); rw [← e5] at h; exact h
  replace b4 := by have h := b4.alloc (.cells #[.int .i64 2] 3); rw [← e5] at h; exact h
  obtain ⟨w6, e6⟩ : ∃ w6, w6 = w5.alloc (.cells #[.int .i64 (-1), .int .i64 6, .slice (some ⟨w.heap.size, 0, none⟩) 1 1, .slice (some ⟨w.heap.size + 1, 0, none⟩) 1 1, .slice none 0 0, .int .i64 (-1), .bool false, .int .i64 0, .int .i64 8, .slice (some ⟨w.heap.size + 1 + 1, 0, none⟩) 1 1, .slice (some ⟨w.heap.size + 1 + 1 + 1, 0, none⟩) 1 1, .slice none 0 0, .int .i64 (-1), .bool false, .int .i64 1, .int .i64 0, .slice (some ⟨w.heap.size + 1 + 1 + 1 + 1, 0, none⟩) 1 1, .slice (some ⟨w.heap.size + 1 + 1 + 1 + 1 + 1, 0, none⟩) 1 1, .slice none 0 0, .int .i64 (-1), .bool false] 39) := ⟨_, rfl⟩
  have b6 : Blk w6 (w.heap.size + 6) 39 [.int .i64 (-1), .int .i64 6, .slice (some ⟨w.heap.size, 0, none⟩) 1 1, .slice (some ⟨w.heap.size + 1, 0, none⟩) 1 1, .slice none 0 0, .int .i64 (-1), .bool false, .int .i64 0, .int .i64 8, .slice (some ⟨w.heap.size + 1 + 1, 0, none⟩) 1 1, .slice (some ⟨w.heap.size + 1 + 1 + 1, 0, none⟩) 1 1, .slice none 0 0, .int .i64 (-1), .bool false, .int .i64 1, .int .i64 0, .slice (some ⟨w.heap.size + 1 + 1 + 1 + 1, 0, none⟩) 1 1, .slice (some ⟨w.heap.size + 1 + 1 + 1 + 1 + 1, 0, none⟩) 1 1, .slice none 0 0, .int .i64 (-1), .bool false] := by rw [e6, ← z5]; exact Blk.new w5 39 _
  have z6 : w6.heap.size = w.heap.size + 7 := by rw [e6]; simp [z5]
  have B6 : Below w.heap.size w w6 := by rw [e6]; exact below_at B5 _
  replace b0 := by have h := b0.alloc (.cells #[.int .i64 (-1), .int .i64 6, .slice (some ⟨w.heap.size, 0, none⟩) 1 1, .slice (some ⟨w.heap.size + 1, 0, none⟩) 1 1, .slice none 0 0, .int .i64 (-1), .bool false, .int .i64 0, .int .i64 8, .slice (some ⟨w.heap.size + 1 + 1, 0, none⟩) 1 1, .slice (some ⟨w.heap.size + 1 + 1 + 1, 0, none⟩) 1 1, .slice none 0 0, .int .i64 (-1), .bool false, .int .i64 1, .int .i64 0, .slice (some ⟨w.heap.size + 1 + 1 + 1 + 1, 0, none⟩) 1 1, .slice (some ⟨w.heap.size + 1 + 1 + 1 + 1 + 1, 0, none⟩) 1 1, .slice none 0 0, .int .i64 (-1), .bool false] 39); rw [← e6] at h; exact h
  replace b1 := by have h := b1.alloc (.cells #[.int .i64 (-1), .int .i64 6, .slice (some ⟨w.heap.size, 0, none⟩) 1 1, .slice (some ⟨w.heap.size + 1, 0, none⟩) 1 1, .slice none 0 0, .int .i64 (-1), .bool false, .int .i64 0, .int .i64 8, .slice (some ⟨w.heap.size + 1 + 1, 0, none⟩) 1 1, .slice (some ⟨w.heap.size + 1 + 1 + 1, 0, none⟩) 1 1, .slice none 0 0, .int .i64 (-1), .bool false, .int .i64 1, .int .i64 0, .slice (some ⟨w.heap.size + 1 + 1 + 1 + 1, 0, none⟩) 1 1, .slice (some ⟨w.heap.size + 1 + 1 + 1 + 1 + 1, 0, none⟩) 1 1, .slice none 0 0, .int .i64 (-1), .bool false] 39); rw [← e6] at h; exact h
  replace b2 := by have h := b2.alloc (.cells #[.int .i64 (-1), .int .i64 6, .slice (some ⟨w.heap.size, 0, none⟩) 1 1, .slice (some ⟨w.heap.size + 1, 0, none⟩) 1 1, .slice none 0 0, .int .i64 (-1), .bool false, .int .i64 0, .int .i64 8, .slice (some ⟨w.heap.size + 1 + 1, 0, none⟩) 1 1, .slice (some ⟨w.heap.size + 1 + 1 + 1, 0, none⟩) 1 1, .slice none 0 0, .int .i64 (-1), .bool false, .int .i64 1, .int .i64 0, .slice (some ⟨w.heap.size + 1 + 1 + 1 + 1, 0, none⟩) 1 1, .slice (some ⟨w.heap.size + 1 + 1 + 1 + 1 + 1, 0, none⟩) 1 1, .slice none 0 0, .int .i64 (-1), .bool false] 39); rw [← e6] at h; exact h
  replace b3 := by have h := b3.alloc (.cells #[.int .i64 (-1), .int .i64 6, .slice (some ⟨w.heap.size, 0, none⟩) 1 1, .slice (some ⟨w.heap.size + 1, 0, none⟩) 1 1, .slice none 0 0, .int .i64 (-1), .bool false, .int .i64 0, .int .i64 8, .slice (some ⟨w.heap.size + 1 + 1, 0, none⟩) 1 1, .slice (some ⟨w.heap.size + 1 + 1 + 1, 0, none⟩) 1 1, .slice none 0 0, .int .i64 (-1), .bool false, .int .i64 1, .int .i64 0, .slice (some ⟨w.heap.size + 1 + 1 + 1 + 1, 0, none⟩) 1 1, .slice (some ⟨w.heap.size + 1 + 1 + 1 + 1 + 1, 0, none⟩) 1 1, .slice none 0 0, .int .i64 (-1), .bool false] 39); rw [← e6] at h; exact h
  replace b4 := by have h := b4.alloc (.cells #[.int .i64 (-1), .int .i64 6, .slice (some ⟨w.heap.size, 0, none⟩) 1 1, .slice (some ⟨w.heap.size + 1, 0, none⟩) 1 1, .slice none 0 0, .int .i64 (-1), .bool false, .int .i64 0, .int .i64 8, .slice (some ⟨w.heap.size + 1 + 1, 0, none⟩) 1 1, .slice (some ⟨w.heap.size + 1 + 1 + 1, 0, none⟩) 1 1, .slice none 0 0, .int .i64 (-1), .bool false, .int .i64 1, .int .i64 0, .slice (some ⟨w.heap.size + 1 + 1 + 1 + 1, 0, none⟩) 1 1, .slice (some ⟨w.heap.size + 1 + 1 + 1 + 1 + 1, 0, none⟩) 1 1, .slice none 0 0, .int .i64 (-1), .bool false] 39); rw [← e6] at h; exact h
  replace b5 := by have h := b5.alloc (.cells #[.int .i64 (-1), .int .i64 6, .slice (some ⟨w.heap.size, 0, none⟩) 1 1, .slice (some ⟨w.heap.size + 1, 0, none⟩) 1 1, .slice none 0 0, .int .i64 (-1), .bool false, .int .i64 0, .int .i64 8, .slice (some ⟨w.heap.size + 1 + 1, 0, none⟩) 1 1, .slice (some ⟨w.heap.size + 1 + 1 + 1, 0, none⟩) 1 1, .slice none 0 0, .int .i64 (-1), .bool false, .int .i64 1, .int .i64 0, .slice (some ⟨w.heap.size + 1 + 1 + 1 + 1, 0, none⟩) 1 1, .slice (some ⟨w.heap.size + 1 + 1 + 1 + 1 + 1, 0, none⟩) 1 1, .slice none 0 0, .int .i64 (-1), .bool false] 39); rw [← e6] at h; exact h
  obtain ⟨w7, e7⟩ : ∃ w7, w7 = w6.alloc (.cells #[.string ⟨#[97]⟩, .int .u32 0, .int .i64 0, .int .i64 1, .string ⟨#[98]⟩, .int .u32 0, .int .i64 0, .int .i64 27, .string ⟨#[99]⟩, .int .u32 0, .int .i64 0, .int .i64 27] 37) := ⟨_, rfl⟩
  have b7 : Blk w7 (w.heap.size + 7) 37 [.string ⟨#[97]⟩, .int .u32 0, .int .i64 0, .int .i64 1, .string ⟨#[98]⟩, .int .u32 0, .int .i64 0, .int .i64 27, .string ⟨#[99]⟩, .int .u32 0, .int .i64 0, .int .i64 27] := by rw [e7, ← z6]; exact Blk.new w6 37 _
  have z7 : w7.heap.size = w.heap.size + 8 := by rw [e7]; simp [z6]
  have B7 : Below w.heap.size w w7 := by rw [e7]; exact below_at B6 _
  replace b0 := by have h := b0.alloc (.cells #[.string ⟨#[97]⟩, .int .u32 0, .int .i64 0, .int .i64 1, .string ⟨#[98]⟩, .int .u32 0, .int .i64 0, .int .i64 27, .string ⟨#[99]⟩, .int .u32 0, .int .i64 0, .int .i64 27] 37); rw [← e7] at h; exact h
  replace b1 := by have h := b1.alloc (.cells #[.string ⟨#[97]⟩, .int .u32 0, .int .i64 0, .int .i64 1, .string ⟨#[98]⟩, .int .u32 0, .int .i64 0, .int .i64 27, .string ⟨#[99]⟩, .int .u32 0, .int .i64 0, .int .i64 27] 37); rw [← e7] at h; exact h
  replace b2 := by have h := b2.alloc (.cells #[.string ⟨#[97]⟩, .int .u32 0, .int .i64 0, .int .i64 1, .string ⟨#[98]⟩, .int .u32 0, .int .i64 0, .int .i64 27, .string ⟨#[99]⟩, .int .u32 0, .int .i64 0, .int .i64 27] 37); rw [← e7] at h; exact h
  replace b3 := by have h := b3.alloc (.cells #[.string ⟨#[97]⟩, .int .u32 0, .int .i64 0, .int .i64 1, .string ⟨#[98]⟩, .int .u32 0, .int .i64 0, .int .i64 27, .string ⟨#[99]⟩, .int .u32 0, .int .i64 0, .int .i64 27] 37); rw [← e7] at h; exact h
  replace b4 := by have h := b4.alloc (.cells #[.string ⟨#[97]⟩, .int .u32 0, .int .i64 0, .int .i64 1, .string ⟨#[98]⟩, .int .u32 0, .int .i64 0, .int .i64 27, .string ⟨#[99]⟩, .int .u32 0, .int .i64 0, .int .i64 27] 37); rw [← e7] at h; exact h
  replace b5 := by have h := b5.alloc (.cells #[.string ⟨#[97]⟩, .int .u32 0, .int .i64 0, .int .i64 1, .string ⟨#[98]⟩, .int .u32 0, .int .i64 0, .int .i64 27, .string ⟨#[99]⟩, .int .u32 0, .int .i64 0, .int .i64 27] 37); rw [← e7] at h; exact h
  replace b6 := by have h := b6.alloc (.cells #[.string ⟨#[97]⟩, .int .u32 0, .int .i64 0, .int .i64 1, .string ⟨#[98]⟩, .int .u32 0, .int .i64 0, .int .i64 27, .string ⟨#[99]⟩, .int .u32 0, .int .i64 0, .int .i64 27] 37); rw [← e7] at h; exact h
  rw [← e0, ← e1, ← e2, ← e3, ← e4, ← e5, ← e6, ← e7]
  clear e0 e1 e2 e3 e4 e5 e6 e7
  refine ⟨B7, w.heap.size, rfl, fun i hi => ?_, fun i hi => ?_⟩
  · have hc : i = 0 ∨ i = 1 ∨ i = 2 := by omega
    rcases hc with rfl | rfl | rfl
    · refine ⟨⟨by simp [exS], by simp [exS], by simp [exS], reads_blk b0 1 (fun j hj => by have hj' : j < 1 := hj; have e : j = 0 := (by omega); subst e; rfl), reads_blk b1 1 (fun j hj => by have hj' : j < 1 := hj; have e : j = 0 := (by omega); subst e; rfl), fun j hj => absurd hj (by simp [exS]), by simp [exS], by simp [exS], by simp [exS]⟩, w.heap.size + 6, 0, rfl, b6.lt, b6.get 0 rfl, b6.get 1 rfl, b6.get 2 rfl, b6.get 3 rfl, b6.get 4 rfl, b6.get 5 rfl, b6.get 6 rfl⟩
    · refine ⟨⟨by simp [exS], by simp [exS], by simp [exS], reads_blk b2 1 (fun j hj => by have hj' : j < 1 := hj; have e : j = 0 := (by omega); subst e; rfl), reads_blk b3 1 (fun j hj => by have hj' : j < 1 := hj; have e : j = 0 := (by omega); subst e; rfl), fun j hj => absurd hj (by simp [exS]), by simp [exS], by simp [exS], by simp [exS]⟩, w.heap.size + 6, 0, rfl, b6.lt, b6.get 7 rfl, b6.get 8 rfl, b6.get 9 rfl, b6.get 10 rfl, b6.get 11 rfl, b6.get 12 rfl, b6.get 13 rfl⟩
    · refine ⟨⟨by simp [exS], by simp [exS], by simp [exS], reads_blk b4 1 (fun j hj => by have hj' : j < 1 := hj; have e : j = 0 := (by omega); subst e; rfl), reads_blk b5 1 (fun j hj => by have hj' : j < 1 := hj; have e : j = 0 := (by omega); subst e; rfl), fun j hj => absurd hj (by simp [exS]), by simp [exS], by simp [exS], by simp [exS]⟩, w.heap.size + 6, 0, rfl, b6.lt, b6.get 14 rfl, b6.get 15 rfl, b6.get 16 rfl, b6.get 17 rfl, b6.get 18 rfl, b6.get 19 rfl, b6.get 20 rfl⟩
  · have hc : i = 0 ∨ i = 1 ∨ i = 2 := by omega
    rcases hc with rfl | rfl | rfl
    · exact ⟨w.heap.size + 7, 0, rfl, b7.lt, by decide, b7.get 0 rfl, b7.get 1 rfl, b7.get 2 rfl, b7.get 3 rfl⟩
    · exact ⟨w.heap.size + 7, 0, rfl, b7.lt, by decide, b7.get 4 rfl, b7.get 5 rfl, b7.get 6 rfl, b7.get 7 rfl⟩
    · exact ⟨w.heap.size + 7, 0, rfl, b7.lt, by decide, b7.get 8 rfl, b7.get 9 rfl, b7.get 10 rfl, b7.get 11 rfl⟩
end Go.Proofs.YtofdoaollanbpaaDoor.Res
