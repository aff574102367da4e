/- The law FnUnionMax returns true, whatever the two lists; no condition. The walk of the law. -/
import Derived.Test.YtdcojgkblfobnaaUnionB
import Derived.OpenShut
namespace Go.Proofs.Ytdcojgkblfobnaa.Union
open Go.RowKit Go.Proofs.Ytdcojgkblfobnaa.Aid
theorem max_neq (x y : Int) : (max x y != if x < y then y else x) = false := by
  simp only [bne_eq_false_iff_eq]
  split <;> omega
set_option maxRecDepth 100000 in
set_option maxHeartbeats 400000 in
theorem law_main (a b o p c d : Nat) (x0 x1 x2 x3 y0 y1 y2 y3 : Int) (w : World) (ha : a < w.heap.size) (hb : b < w.heap.size)
    (h0 : w.cell? ⟨a, o, none⟩ = some (u32 x0)) (h1 : w.cell? ⟨a, o + 1, none⟩ = some (u32 x1)) (h2 : w.cell? ⟨a, o + 2, none⟩ = some (u32 x2)) (h3 : w.cell? ⟨a, o + 3, none⟩ = some (u32 x3))
    (k0 : w.cell? ⟨b, p, none⟩ = some (u32 y0)) (k1 : w.cell? ⟨b, p + 1, none⟩ = some (u32 y1)) (k2 : w.cell? ⟨b, p + 2, none⟩ = some (u32 y2)) (k3 : w.cell? ⟨b, p + 3, none⟩ = some (u32 y3)) :
    Calls Try.prog 5 #[.slice (some ⟨a, o, none⟩) 4 c, .slice (some ⟨b, p, none⟩) 4 d] w fun e w' => e = .returned (.bool true) ∧ Below w.heap.size w w' := by
  go_enter Try.func5, Try.ntmps5
  go_wp2_with fail
  refine (union w.heap.size (w.heap.size + 1) 0 0 _ _ 1 0 0 0 0 2 0 0 _ ?_ ?_ ?_ ?_ ?_ ?_ ?_ ?_ ?_ ?_).mono ?_
  iterate 2
    · go_simp
  iterate 8
    · go_simp
  rintro e w1 ⟨g, z, rfl, hg, hlt, e0, e1, -, -, B1⟩
  replace e0 : w1.cell? ⟨g, 0, none⟩ = some (u32 1) := e0
  replace e1 : w1.cell? ⟨g, 1, none⟩ = some (u32 2) := e1
  have B : Below w.heap.size w w1 := (below_at (below_at (Below.refl _ w) _) _).trans (B1.mono (by simp; omega))
  have g0 := bcell B ha h0
  have g1 := bcell B ha h1
  have g2 := bcell B ha h2
  have g3 := bcell B ha h3
  have l0 := bcell B hb k0
  have l1 := bcell B hb k1
  have l2 := bcell B hb k2
  have l3 := bcell B hb k3
  have hz := Nat.le_trans B.size (Nat.le_refl w1.heap.size)
  clear B1 h0 h1 h2 h3 k0 k1 k2 k3
  go_wp2_with fail
  refine (union a b o p c d x0 x1 x2 x3 y0 y1 y2 y3 w1 (by omega) (by omega) g0 g1 g2 g3 l0 l1 l2 l3).mono ?_
  rintro e w2 ⟨g', z', rfl, hg', hlt', f0, f1, f2, f3, B2⟩
  replace g0 := bcell B2 (by omega) g0
  replace g1 := bcell B2 (by omega) g1
  replace g2 := bcell B2 (by omega) g2
  replace g3 := bcell B2 (by omega) g3
  replace l0 := bcell B2 (by omega) l0
  replace l1 := bcell B2 (by omega) l1
  replace l2 := bcell B2 (by omega) l2
  replace l3 := bcell B2 (by omega) l3
  have B3 : Below w.heap.size w w2 := B.trans (B2.mono hz)
  clear B B2 e0 e1
  have m0 := max_neq x0 y0
  have m1 := max_neq x1 y1
  have m2 := max_neq x2 y2
  have m3 := max_neq x3 y3
  go_wp2_with fail
  refine wp_loop_rounds 5 ?_
  iterate 4
    all_goals
      rw [rounds_succ]
      go_wp2
      go_quiet (fail)
    all_goals go_wp2
  all_goals
    rw [rounds_succ]
    go_wp2
    go_ret
    exact ⟨rfl, by repeat (first | exact B3 | refine below_drewN ?_ _)⟩
set_option maxRecDepth 100000 in
set_option maxHeartbeats 400000 in
theorem law_some (r s : Option Addr) (m n c d : Nat) (w : World) (h : ¬ (m = 4 ∧ n = 4)) (hm : m ≤ 2147483647) (hn : n ≤ 2147483647) :
    Calls Try.prog 5 #[.slice r m c, .slice s n d] w fun e w' => e = .returned (.bool true) ∧ Below w.heap.size w w' := by
  go_enter Try.func5, Try.ntmps5
  go_wp2_with fail
  refine (union w.heap.size (w.heap.size + 1) 0 0 _ _ 1 0 0 0 0 2 0 0 _ ?_ ?_ ?_ ?_ ?_ ?_ ?_ ?_ ?_ ?_).mono ?_
  iterate 10
    · go_simp
  rintro e w1 ⟨g, z, rfl, hg, hlt, e0, e1, -, -, B1⟩
  replace e0 : w1.cell? ⟨g, 0, none⟩ = some (u32 1) := e0
  replace e1 : w1.cell? ⟨g, 1, none⟩ = some (u32 2) := e1
  have B : Below w.heap.size w w1 := (below_at (below_at (Below.refl _ w) _) _).trans (B1.mono (by simp; omega))
  clear B1
  by_cases h4 : m = 4
  · have h5 : ¬ n = 4 := fun e => h ⟨h4, e⟩
    have h6 : ((m : Int) != 4) = false := by simp; omega
    have h7 : ((n : Int) != 4) = true := by simp; omega
    clear h h4 h5
    go_wp2_with fail
    go_ret
    exact ⟨rfl, B⟩
  · have h6 : ((m : Int) != 4) = true := by simp; omega
    clear h h4
    go_wp2_with fail
    go_ret
    exact ⟨rfl, B⟩
theorem law_large (r s : Option Addr) (m n c d : Nat) (w : World) (h : ¬ (m ≤ 2147483647 ∧ n ≤ 2147483647)) :
    Calls Try.prog 5 #[.slice r m c, .slice s n d] w fun e w' => e = .returned (.bool true) ∧ Below w.heap.size w w' := by
  go_enter Try.func5, Try.ntmps5
  go_wp2_with fail
  all_goals first | (exfalso; omega) | (go_ret; exact ⟨rfl, Below.refl _ _⟩)

abbrev Row32 (w : World) (a : Option Addr) (len cap : Nat) (zs : List Int) : Prop :=
  (a = none ∧ len = 0 ∧ cap = 0 ∧ zs = []) ∨
  ∃ x, a = some x ∧ len ≤ cap ∧ cap ≤ maxLen ∧ zs.length = cap ∧ (∀ i, i < zs.length → w.cell? (x.add i) = some (.int .u32 (zs.getD i 0))) ∧ ∀ n ∈ zs, (Lit.int .u32 n).wf = true
theorem four {w : World} {a : Option Addr} {len cap : Nat} {zs : List Int} (h : Row32 w a len cap zs) (h4 : len = 4) : ∃ b off, a = some ⟨b, off, none⟩ ∧ b < w.heap.size ∧
    ∃ x0 x1 x2 x3, w.cell? ⟨b, off, none⟩ = some (u32 x0) ∧ w.cell? ⟨b, off + 1, none⟩ = some (u32 x1) ∧ w.cell? ⟨b, off + 2, none⟩ = some (u32 x2) ∧ w.cell? ⟨b, off + 3, none⟩ = some (u32 x3) := by
  rcases h with ⟨_, h, _⟩ | ⟨x, rfl, hl, _, hz, hc, _⟩
  · omega
  · obtain ⟨b, off, rfl, hc'⟩ := ints_at hc (by omega)
    have h0 := hc' 0 (by omega)
    exact ⟨b, off, rfl, World.block_lt_of_cell? w _ h0, _, _, _, _, h0, hc' 1 (by omega), hc' 2 (by omega), hc' 3 (by omega)⟩
theorem whole (a0 : Option Addr) (len0 cap0 : Nat) (z0 : List Int) (a1 : Option Addr) (len1 cap1 : Nat) (z1 : List Int) (w : World) (w0 : Row32 w a0 len0 cap0 z0) (_ : len0 * 4 ≤ 140737488351232) (w1 : Row32 w a1 len1 cap1 z1) (_ : len1 * 4 ≤ 140737488351232) :
    Calls Try.prog 5 #[.slice a0 len0 cap0, .slice a1 len1 cap1] w fun e w' => e = .returned (.bool true) ∧ Below w.heap.size w w' := by
  by_cases hl : len0 ≤ 2147483647 ∧ len1 ≤ 2147483647
  · by_cases h4 : len0 = 4 ∧ len1 = 4
    · obtain ⟨rfl, rfl⟩ := h4
      obtain ⟨b, o, rfl, hb, x0, x1, x2, x3, c0, c1, c2, c3⟩ := four w0 rfl
      obtain ⟨b', o', rfl, hb', y0, y1, y2, y3, d0, d1, d2, d3⟩ := four w1 rfl
      exact law_main b b' o o' cap0 cap1 x0 x1 x2 x3 y0 y1 y2 y3 w hb hb' c0 c1 c2 c3 d0 d1 d2 d3
    · exact law_some a0 a1 len0 len1 cap0 cap1 w h4 hl.1 hl.2
  · exact law_large a0 a1 len0 len1 cap0 cap1 w hl
end Go.Proofs.Ytdcojgkblfobnaa.Union
