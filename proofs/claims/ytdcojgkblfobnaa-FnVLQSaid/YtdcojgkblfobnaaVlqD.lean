/- The closure of impl.DecodeVLQ: the data are copied, the number is read and laid into the two results. The walk. -/
import Derived.Test.YtdcojgkblfobnaaVlqC
import Derived.Defers
import Derived.Recover
import Derived.Laws.CopyOwn
import Derived.Lib.ConvBytes
import Derived.Deep.RegionHeld3
import Derived.Deep.AppendLies
namespace Go.Proofs.Ytdcojgkblfobnaa.Vlq
open Go.RowKit Go.Proofs.Ytdcojgkblfobnaa.Aid
theorem info5 : (Try.prog.info? 5).map (fun i => (i.zero, i.size, i.bytes)) = some (some (.int .u8 0), 1, 1) := by kernel_rfl
/-- Bytes as cells. -/
def cellsOf (l : List UInt8) : List Value := l.map fun x => .int .u8 (x.toNat : Int)
theorem cells_one (l : List UInt8) : ∀ u ∈ cellsOf l, u.oneCell' = true := by
  intro u hu
  simp only [cellsOf, List.mem_map] at hu
  obtain ⟨x, _, rfl⟩ := hu
  rfl
theorem row_digits {w : World} {base gg n s v cap : Nat} {l : List UInt8} (hown : w.ownsRow base 5 1 (.slice (some ⟨gg, 0, none⟩) n cap) n ([] ++ cellsOf l)) (hs : s + (enc v).length ≤ n) (hd : ∀ j d, (enc v)[j]? = some d → l[s + j]? = some (alpha d)) :
    ∀ j d, (enc v)[j]? = some d → w.cell? ⟨gg, 0 + (s + j), none⟩ = some (.int .u8 ((alpha d).toNat : Int)) := by
  intro j d h
  have hj : j < (enc v).length := by
    rcases Nat.lt_or_ge j (enc v).length with h' | h'
    · exact h'
    · rw [List.getElem?_eq_none h'] at h
      cases h
  rw [Nat.zero_add, hown.cellAt (s + j) (by omega)]
  simp [cellsOf, hd j d h]
theorem new_cells {w : World} {b : Nat} {l : List UInt8} (hb : b < w.heap.size) (hr : ∀ j x, (cellsOf l)[j]? = some x → w.cell? ((⟨b, 0, none⟩ : Addr).add j) = some x) (o : Obj) :
    ∀ j x, (cellsOf l)[j]? = some x → (w.alloc o).drew.cell? ((⟨b, 0, none⟩ : Addr).add j) = some x := by
  intro j x h
  have := hr j x h
  rw [add_at] at this ⊢
  exact bcell ((below_at (Below.refl _ w) o).drew) hb this
/-- What stands behind the append. -/
theorem behind {w w1 : World} {g : Nat} {v2 v3 : Value} (hgw : g + 4 ≤ w.heap.size) (c2 : w.cell? ⟨g + 2, 0, none⟩ = some v2) (c3 : w.cell? ⟨g + 3, 0, none⟩ = some v3) (f2 : w.frozen? ⟨g + 2, 0, none⟩ = false) (f3 : w.frozen? ⟨g + 3, 0, none⟩ = false)
    {o : Obj} (hgrow : (w.alloc o).drew.grownBy w1 (Value.slice (some ⟨w.heap.size, 0, none⟩) 0 0).ownBlock) :
    Hid (Below w.heap.size w w1) ∧ w1.cell? ⟨g + 2, 0, none⟩ = some v2 ∧ w1.cell? ⟨g + 3, 0, none⟩ = some v3 ∧ w1.frozen? ⟨g + 2, 0, none⟩ = false ∧ w1.frozen? ⟨g + 3, 0, none⟩ = false := by
  have hb : Below w.heap.size w w1 := ((below_at (Below.refl _ w) o).drew).grown hgrow (by simp) (fun k hk => by simp [Value.ownBlock] at hk; omega)
  exact ⟨Lib.hid hb, bcell hb (by omega) c2, bcell hb (by omega) c3, (hb.frozen (p := ⟨g + 2, 0, none⟩) (by simp; omega)).trans f2, (hb.frozen (p := ⟨g + 3, 0, none⟩) (by simp; omega)).trans f3⟩
set_option maxRecDepth 100000 in
set_option maxHeartbeats 2000000 in
theorem closure (g : Nat) (b n c s v : Nat) (l : List UInt8) (w : World) (hgw : g + 4 ≤ w.heap.size) (hbg : b < g)
    (c0 : w.cell? ⟨g, 0, none⟩ = some (.slice (some ⟨b, 0, none⟩) n c)) (c1 : w.cell? ⟨g + 1, 0, none⟩ = some (.int .i64 s))
    (c2 : w.cell? ⟨g + 2, 0, none⟩ = some (.int .i64 0)) (c3 : w.cell? ⟨g + 3, 0, none⟩ = some (.int .i64 0))
    (f2 : w.frozen? ⟨g + 2, 0, none⟩ = false) (f3 : w.frozen? ⟨g + 3, 0, none⟩ = false)
    (hl : l.length = n) (hn : n ≤ 1000000) (hv : v < 4294967296) (hs : s + (enc v).length ≤ n) (hs0 : s < n)
    (hr : ∀ j x, (cellsOf l)[j]? = some x → w.cell? ((⟨b, 0, none⟩ : Addr).add j) = some x)
    (hd : ∀ j d, (enc v)[j]? = some d → l[s + j]? = some (alpha d)) :
    Calls Try.prog 56 #[.pointer (some ⟨g, 0, none⟩), .pointer (some ⟨g + 1, 0, none⟩), .pointer (some ⟨g + 2, 0, none⟩), .pointer (some ⟨g + 3, 0, none⟩)] w fun e w' => e = .returned (.tuple #[]) ∧
      ∃ w1, Below w.heap.size w w1 ∧ w' = (w1.setCell ⟨g + 2, 0, none⟩ (.int .i64 (unsign v))).setCell ⟨g + 3, 0, none⟩ (.int .i64 ((s + (enc v).length : Nat) : Int)) := by
  obtain ⟨i0, hi, hz0, hz1, hz2⟩ := info_parts info5
  have HNC := Lib.hid (new_cells (l := l) (by omega : b < w.heap.size) hr (.cells #[] 5))
  have HD := Lib.hid hd
  have HL := Lib.hid hl
  have HS := Lib.hid hs
  have HB := Lib.hid ((below_at (Below.refl _ w) (.cells #[] 5)).drew)
  have q1 : 0 + n ≤ maxLen := by simp only [maxLen]; omega
  have n0 : (⟨g, 0, none⟩ : Addr).block ≠ w.heap.size := by simp; omega
  have n1 : (⟨g + 1, 0, none⟩ : Addr).block ≠ w.heap.size := by simp; omega
  clear hr hd hl hs
  go_enter Try.func56, Try.ntmps56
  go_wp2_with fail
  go_region_held3 (fun w' => w'.cell? ⟨g, 0, none⟩ = some (.slice (some ⟨b, 0, none⟩) n c) ∧ w'.cell? ⟨g + 1, 0, none⟩ = some (.int .i64 s))
    (first
      | go_keep
      | (go_split_ands
         refine ⟨?_, ?_⟩
         · (rw [hgrow.cell_far _ (by simp; omega) (by simp [Value.ownBlock]; omega)]; assumption)
         · (rw [hgrow.cell_far _ (by simp; omega) (by simp [Value.ownBlock]; omega)]; assumption)))
    (first
      | (refine step_append_lies _ (by rfl) _ _ _ (by rfl) w.heap.size 5 i0 _ 1 1 Try.underlying55 hi hz0 hz1 hz2 rfl (by omega) (.slice (some ⟨w.heap.size, 0, none⟩) 0 0) 0 [] (by rfl) ((World.ownsRow_made w #[] 0 (Nat.le_refl _) (Nat.zero_le _) rfl).drew) ⟨b, 0, none⟩ n c (cellsOf l) (by rfl) (by simp [cellsOf, HL.out]) HNC.out (cells_one l) (by omega) q1 (by omega) (by simp) (w.heap.size + 1) (by simp) ?_; intro gg cap w1 hown1 hgrow hat hlt; rw [Nat.zero_add] at hown1; obtain ⟨HB1, d2, d3, e2, e3⟩ := behind hgw c2 c3 f2 f3 hgrow)
      | (go_at_call 57; (with_reducible refine (decode gg 0 n cap s v _ hv (by omega) (by have := HS.out; omega) (row_digits hown1 (by have := HS.out; omega) HD.out)).mono ?_); rintro e w2 ⟨rfl, rfl⟩))
  go_wp2_with fail
  go_returns
  refine ⟨rfl, w2, HB1.out, ?_⟩
  rw [Int.natCast_add]
end Go.Proofs.Ytdcojgkblfobnaa.Vlq
