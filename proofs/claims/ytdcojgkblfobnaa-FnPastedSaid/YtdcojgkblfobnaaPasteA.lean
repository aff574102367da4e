/- The package's Joiner.AddString: a text is noted with its offset, the length and the last byte are kept; texts of at most 1000 bytes, at most 1000 of them. The walk. -/
import Derived.Test.YtdcojgkblfobnaaProg
import Derived.Test.YtdcojgkblfobnaaAid
import Derived.Handy
import Derived.WalkLawsBesides
import Derived.Deep.DrawnRows
import Derived.Deep.RegionLaw
namespace Go.Proofs.Ytdcojgkblfobnaa.Paste
open Go.RowKit Go.Proofs.Ytdcojgkblfobnaa.Aid
attribute [local go_sem ↓] Go.wp_at_zero Go.wp_at_succ
/-- The joiner as its block holds it. -/
def joiner (sv bv : Value) (len last : Int) : List Value := [sv, bv, .int .u32 len, .int .u8 last]
/-- The last byte behind a text. -/
def lastOf (s : ByteArray) (last : Int) : Int := if h : 0 < s.size then ((s[s.size - 1]'(by omega)).toNat : Int) else last
theorem fin_add {w0 w w1 : World} {g base e n1 L i : Nat} {r : Option Nat} {X : Obj} {v' u : Value} {js cells1 : List Value} (h0 : Two w0 w g r) (hg : Blk w g 110 js) (hgrow : (w.alloc X).drew.grownBy w1 r) (hne : some g ≠ r) (he : e ≠ 110) (hown : w1.ownsRow base e 2 v' n1 cells1) :
    Blk ((w1.setCell ⟨g, i, none⟩ v').setCell ⟨g, L, none⟩ u) g 110 ((js.set i v').set L u) ∧ ((w1.setCell ⟨g, i, none⟩ v').setCell ⟨g, L, none⟩ u).ownsRow base e 2 v' n1 cells1 ∧ Two w0 ((w1.setCell ⟨g, i, none⟩ v').setCell ⟨g, L, none⟩ u) g r := by
  have hg1 : Blk w1 g 110 js := ((hg.alloc X).drew).grown hgrow hne
  have hn1 := own_ne hown hg1 he
  have t0 : w1.grownBy (w1.setCell ⟨g, i, none⟩ v') (some g) := only_setCell (p := ⟨g, i, none⟩) (World.grownBy.refl w1 _) (.inl rfl) v'
  have t1 : w1.grownBy ((w1.setCell ⟨g, i, none⟩ v').setCell ⟨g, L, none⟩ u) (some g) := only_setCell (p := ⟨g, L, none⟩) t0 (.inl rfl) u
  have b1 : Below w.heap.size w (w.alloc X).drew := (below_at (Below.refl _ w) X).drew
  have t2 : Two w w1 g r := (Two.of_below b1).trans (Two.of_row hgrow)
  have z1 := (hg1.set_ i v').set_ L u
  have t3 : Two w1 ((w1.setCell ⟨g, i, none⟩ v').setCell ⟨g, L, none⟩ u) g none := Two.of_block t1
  have z2 := t3.own hown hn1 (Classical.em _)
  have z3 := h0.trans (t2.trans (Two.of_block t1))
  exact ⟨z1, z2, z3⟩
theorem info131 : (Try.prog.info? 131).map (fun i => (i.zero, i.size, i.bytes)) = some (some (.agg #[.string ⟨#[]⟩, .int .u32 0]), 2, 24) := by kernel_rfl
set_option maxRecDepth 100000 in
set_option maxHeartbeats 2000000 in
theorem add_string (g n : Nat) (sv bv : Value) (len last : Int) (s : ByteArray) (cells : List Value) (base : Nat) (w : World) (hj : Blk w g 110 (joiner sv bv len last)) (hown : w.ownsRow base 131 2 sv n cells)
    (hb : base ≤ w.heap.size) (hn : n ≤ 1000) (h0 : 0 ≤ len) (hl : len ≤ 1000000) (hs : s.size ≤ 1000) :
    Calls Try.prog 58 #[.pointer (some ⟨g, 0, none⟩), .string s] w fun e w' => e = .returned (.tuple #[]) ∧ ∃ sv', Blk w' g 110 (joiner sv' bv (len + s.size) (lastOf s last)) ∧ w'.ownsRow base 131 2 sv' (n + 1) (cells ++ [.string s, .int .u32 len]) ∧ Two w w' g sv.ownBlock := by
  obtain ⟨i0, hi, hz0, hz1, hz2⟩ := info_parts info131
  have hg : Blk w g 110 [sv, bv, .int .u32 len, .int .u8 last] := hj
  clear hj
  have c0 := hg.get 0 rfl
  have c1 := hg.get 1 rfl
  have c2 := hg.get 2 rfl
  have c3 := hg.get 3 rfl
  have f0 := hg.frozen 0
  have f2 := hg.frozen 2
  have f3 := hg.frozen 3
  have hlt := hg.lt
  have hne := own_ne hown hg (by decide)
  have q1 : n + 1 ≤ maxLen := by simp only [maxLen]; omega
  have q2 : (n + 1) * 24 ≤ 140737488355328 := by omega
  have q3 := Lib.hid (show ∀ u ∈ [Value.string s, .int .u32 len], u.oneCell' = true from by simp [Value.oneCell'])
  by_cases hz : s.size = 0
  · have hz' : ¬ 0 < s.size := by omega
    have hlast : lastOf s last = last := by simp [lastOf, hz]
    have HL := Lib.hid hlast
    have HZ := Lib.hid hz
    have hsum : len + (s.size : Int) = len := by omega
    have HS := Lib.hid hsum
    clear hlast hsum
    go_enter Try.func58, Try.ntmps58
    go_wp2_with fail
    go_region_law ((refine step_append_el (by rfl) _ _ _ (by rfl) base 131 i0 _ 2 24 Try.underlying107 hi hz0 hz1 hz2 rfl (by omega) sv n cells (by rfl) (hown.alloc _) w.heap.size (by rfl) [.string s, .int .u32 len] (Blk.new _ _ _) rfl q3.out q1 q2 (by simp; omega) ?_; intro g' cap w1 hown1 hgrow hat hlt1; have hg1 := ((hg.alloc (.cells #[.string s, .int .u32 len] 131)).drew).grown hgrow hne; have d0 := hg1.get 0 rfl; have d2 := hg1.get 2 rfl; have e0 := hg1.frozen 0; have e2 := hg1.frozen 2))
    all_goals
      clear c0 c1 c2 c3 f0 f2 f3
      go_wp2_with fail
      go_returns
      obtain ⟨z1, z2, z3⟩ := fin_add (L := 2) (i := 0) (u := .int .u32 len) (Two.of_below (Below.refl _ w)) hg hgrow hne (by decide) hown1
      rw [HL.out, HS.out]
      exact ⟨rfl, _, z1, z2, z3⟩
  · have hz' : 0 < s.size := by omega
    have hlast : lastOf s last = ((s[s.size - 1]'(by omega)).toNat : Int) := by simp [lastOf, hz']
    have HL := Lib.hid hlast
    clear hlast
    obtain ⟨x, hx⟩ : ∃ x : Int, ((s[s.size - 1]'(by omega)).toNat : Int) = x := ⟨_, rfl⟩
    rw [hx] at HL
    have hgS : Blk (w.setCell ⟨g, 3, none⟩ (.int .u8 x)) g 110 [sv, bv, .int .u32 len, .int .u8 x] := hg.set_ 3 _
    have hoS : (w.setCell ⟨g, 3, none⟩ (.int .u8 x)).ownsRow base 131 2 sv n cells := (Two.of_block (r := none) (only_setCell (World.grownBy.refl w _) (.inl rfl) _)).own hown hne (Classical.em _)
    have hsz : (w.setCell ⟨g, 3, none⟩ (.int .u8 x)).heap.size = w.heap.size := by simp [World.setCell]
    have HSZ := Lib.hid hsz
    clear hsz
    go_enter Try.func58, Try.ntmps58
    go_wp2_with fail
    go_region_law ((refine step_append_el (by rfl) _ _ _ (by rfl) base 131 i0 _ 2 24 Try.underlying107 hi hz0 hz1 hz2 rfl (by omega) sv n cells (by rfl) (hoS.alloc _) w.heap.size (by rfl) [.string s, .int .u32 len] (by rw [← HSZ.out]; exact Blk.new _ _ _) rfl q3.out q1 q2 (by simp; omega) ?_; intro g' cap w1 hown1 hgrow hat hlt1; have hg1 := ((hgS.alloc (.cells #[.string s, .int .u32 len] 131)).drew).grown hgrow hne; have d0 := hg1.get 0 rfl; have d2 := hg1.get 2 rfl; have e0 := hg1.frozen 0; have e2 := hg1.frozen 2))
    all_goals
      clear c0 c1 c2 c3 f0 f2 f3
      go_wp2_with fail
      go_returns
      obtain ⟨z1, z2, z3⟩ := fin_add (L := 2) (i := 0) (u := .int .u32 (len + s.size)) (Two.of_block (only_setCell (World.grownBy.refl w _) (.inl rfl) (.int .u8 x))) hgS hgrow hne (by decide) hown1
      rw [HL.out]
      exact ⟨rfl, _, z1, z2, z3⟩
end Go.Proofs.Ytdcojgkblfobnaa.Paste
