/- The contract of the joiner's AddBytes. -/
import Derived.Test.YtdcojgkblfobnaaPasteA
namespace Go.Proofs.Ytdcojgkblfobnaa.Paste
open Go.RowKit Go.Proofs.Ytdcojgkblfobnaa.Aid
attribute [local go_sem ↓] Go.wp_at_zero Go.wp_at_succ
def lastB (f : Nat → Int) (m : Nat) (last : Int) : Int := if 0 < m then f (m - 1) else last
theorem info133 : (Try.prog.info? 133).map (fun i => (i.zero, i.size, i.bytes)) = some (some (.agg #[.slice none 0 0, .int .u32 0]), 2, 32) := by kernel_rfl
set_option maxRecDepth 100000 in
set_option maxHeartbeats 2000000 in
theorem add_bytes (g n h m c : Nat) (sv bv : Value) (len last : Int) (f : Nat → Int) (cells : List Value) (base : Nat) (w : World) (hj : Blk w g 110 (joiner sv bv len last)) (hown : w.ownsRow base 133 2 bv n cells)
    (hb : base ≤ w.heap.size) (hn : n ≤ 1000) (h0 : 0 ≤ len) (hl : len ≤ 1000000) (hs : m ≤ 1000) (hf : ∀ i, i < m → w.cell? ⟨h, i, none⟩ = some (.int .u8 (f i))) :
    Calls Try.prog 59 #[.pointer (some ⟨g, 0, none⟩), .slice (some ⟨h, 0, none⟩) m c] w fun e w' => e = .returned (.tuple #[]) ∧ ∃ bv', Blk w' g 110 (joiner sv bv' (len + m) (lastB f m last)) ∧ w'.ownsRow base 133 2 bv' (n + 1) (cells ++ [.slice (some ⟨h, 0, none⟩) m c, .int .u32 len]) ∧ Two w w' g bv.ownBlock := by
  obtain ⟨i0, hi, hz0, hz1, hz2⟩ := info_parts info133
  have hg : Blk w g 110 [sv, bv, .int .u32 len, .int .u8 last] := hj
  clear hj
  have c0 := hg.get 0 rfl
  have c1 := hg.get 1 rfl
  have c2 := hg.get 2 rfl
  have c3 := hg.get 3 rfl
  have f0 := hg.frozen 0
  have f1 := hg.frozen 1
  have f2 := hg.frozen 2
  have f3 := hg.frozen 3
  have hlt := hg.lt
  have hne := own_ne hown hg (by decide)
  have HF := Lib.hid hf
  have q1 : n + 1 ≤ maxLen := by simp only [maxLen]; omega
  have q2 : (n + 1) * 32 ≤ 140737488355328 := by omega
  have q3 := Lib.hid (show ∀ u ∈ [Value.slice (some ⟨h, 0, none⟩) m c, .int .u32 len], u.oneCell' = true from by simp [Value.oneCell'])
  by_cases hz : m = 0
  · have hz' : ¬ 0 < m := by omega
    have hlast : lastB f m last = last := by simp [lastB, hz]
    have HL := Lib.hid hlast
    have HZ := Lib.hid hz
    have hsum : len + (m : Int) = len := by omega
    have HS := Lib.hid hsum
    clear hf hz
    clear hlast hsum
    go_enter Try.func59, Try.ntmps59
    go_wp2_with fail
    go_region_law ((refine step_append_el (by rfl) _ _ _ (by rfl) base 133 i0 _ 2 32 Try.underlying108 hi hz0 hz1 hz2 rfl (by omega) bv n cells (by rfl) (hown.alloc _) w.heap.size (by rfl) [.slice (some ⟨h, 0, none⟩) m c, .int .u32 len] (Blk.new _ _ _) rfl q3.out q1 q2 (by simp; omega) ?_; intro g' cap w1 hown1 hgrow hat hlt1; have hg1 := ((hg.alloc (.cells #[.slice (some ⟨h, 0, none⟩) m c, .int .u32 len] 133)).drew).grown hgrow hne; have d0 := hg1.get 1 rfl; have d2 := hg1.get 2 rfl; have e0 := hg1.frozen 1; have e2 := hg1.frozen 2))
    all_goals
      clear c0 c1 c2 c3 f0 f1 f2 f3
      go_wp2_with fail
      go_returns
      obtain ⟨z1, z2, z3⟩ := fin_add (L := 2) (i := 1) (u := .int .u32 len) (Two.of_below (Below.refl _ w)) hg hgrow hne (by decide) hown1
      rw [HL.out, HS.out]
      exact ⟨rfl, _, z1, z2, z3⟩
  · have hz' : 0 < m := by omega
    have hlast : lastB f m last = f (m - 1) := by simp [lastB, hz']
    have HL := Lib.hid hlast
    clear hlast
    have hcl := hf (m - 1) (by omega)
    obtain ⟨x, hx⟩ : ∃ x : Int, f (m - 1) = x := ⟨_, rfl⟩
    rw [hx] at hcl
    rw [hx] at HL
    clear hx
    clear hf
    have hgS : Blk (w.setCell ⟨g, 3, none⟩ (.int .u8 x)) g 110 [sv, bv, .int .u32 len, .int .u8 x] := hg.set_ 3 _
    have hoS : (w.setCell ⟨g, 3, none⟩ (.int .u8 x)).ownsRow base 133 2 bv n cells := (Two.of_block (r := none) (only_setCell (World.grownBy.refl w _) (.inl rfl) _)).own hown hne (Classical.em _)
    have hsz : (w.setCell ⟨g, 3, none⟩ (.int .u8 x)).heap.size = w.heap.size := by simp [World.setCell]
    have HSZ := Lib.hid hsz
    clear hsz
    go_enter Try.func59, Try.ntmps59
    go_wp2_with fail
    go_region_law ((refine step_append_el (by rfl) _ _ _ (by rfl) base 133 i0 _ 2 32 Try.underlying108 hi hz0 hz1 hz2 rfl (by omega) bv n cells (by rfl) (hoS.alloc _) w.heap.size (by rfl) [.slice (some ⟨h, 0, none⟩) m c, .int .u32 len] (by rw [← HSZ.out]; exact Blk.new _ _ _) rfl q3.out q1 q2 (by simp; omega) ?_; intro g' cap w1 hown1 hgrow hat hlt1; have hg1 := ((hgS.alloc (.cells #[.slice (some ⟨h, 0, none⟩) m c, .int .u32 len] 133)).drew).grown hgrow hne; have d0 := hg1.get 1 rfl; have d2 := hg1.get 2 rfl; have e0 := hg1.frozen 1; have e2 := hg1.frozen 2))
    all_goals
      clear c0 c1 c2 c3 f0 f1 f2 f3
      go_wp2_with fail
      go_returns
      obtain ⟨z1, z2, z3⟩ := fin_add (L := 2) (i := 1) (u := .int .u32 (len + m)) (Two.of_block (only_setCell (World.grownBy.refl w _) (.inl rfl) (.int .u8 x))) hgS hgrow hne (by decide) hown1
      rw [HL.out]
      exact ⟨rfl, _, z1, z2, z3⟩
end Go.Proofs.Ytdcojgkblfobnaa.Paste
