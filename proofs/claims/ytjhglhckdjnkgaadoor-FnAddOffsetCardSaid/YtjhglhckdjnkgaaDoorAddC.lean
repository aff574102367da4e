/- The package's AdvanceString: lines and columns over a text. The walk. -/
import Derived.Test.YtjhglhckdjnkgaaDoorAddB
import Derived.Lib.OthersKept
namespace Go.Proofs.YtjhglhckdjnkgaaDoor.Runes
open Go.RowKit Go.Proofs.YtjhglhckdjnkgaaDoor.Aid
attribute [local go_sem ↓] Go.wp_at_zero Go.wp_at_succ
set_option linter.unusedVariables false
/-- What is known at a round's head. -/
def AdvAt (s : ByteArray) (g it : Nat) (w wr : World) (k l : Nat) : Prop := wr.heap[it]? = some (.stringIter s k) ∧ Blk wr g 54 [.int .i64 l, .int .i64 0] ∧ w.grownBy wr (some g)
theorem AdvAt.next {s : ByteArray} {g it : Nat} {w wr : World} {k l n : Nat} (h : AdvAt s g it w wr k l) (hit : w.heap.size ≤ it) (hg : g ≠ it) : AdvAt s g it w (wr.iterAt it s (k + n)) (k + n) l := by
  obtain ⟨h1, h2, h3⟩ := h
  refine ⟨Lib.iterAt_heap wr it s k (k + n) h1, (Lib.iterAt_other wr it g s _ hg).trans h2, h3.os, h3.tape, h3.output, by rw [Lib.iterAt_size]; exact h3.size, fun i hi hne => ?_⟩
  rw [Lib.iterAt_other wr it i s _ (by omega)]
  exact h3.block i hi hne
theorem AdvAt.line {s : ByteArray} {g it : Nat} {w wr : World} {k l : Nat} (h : AdvAt s g it w wr k l) (hg : g ≠ it) : AdvAt s g it w (wr.setCell ⟨g, 0, none⟩ (.int .i64 ((l : Int) + 1))) k (l + 1) := by
  obtain ⟨h1, h2, h3⟩ := h
  refine ⟨(Below.heap_setCell wr ⟨g, 0, none⟩ _ it (fun e => hg e.symm)).trans h1, ?_, only_setCell (p := ⟨g, 0, none⟩) h3 (.inl rfl) _⟩
  have := h2.set_ 0 (.int .i64 ((l : Int) + 1))
  simpa using this
theorem adv_walk_end {s : ByteArray} {g it : Nat} {w wr : World} {k l c : Nat} (h : AdvAt s g it w wr k l) : Blk (wr.setCell ⟨g, 1, none⟩ (.int .i64 c)) g 54 (placeCells (l, c)) ∧ w.grownBy (wr.setCell ⟨g, 1, none⟩ (.int .i64 c)) (some g) :=
  ⟨by simpa [placeCells] using h.2.1.set_ 1 (.int .i64 (c : Int)), only_setCell (p := ⟨g, 1, none⟩) h.2.2 (.inl rfl) _⟩
set_option maxRecDepth 100000 in
set_option maxHeartbeats 4000000 in
theorem adv_walk (s : ByteArray) (g : Nat) (w : World) (hs : s.size ≤ 1000000) (hg : Blk w g 54 [.int .i64 0, .int .i64 0]) (hwf : wf s 0 = true) :
    Calls Tryd.prog 26 #[.pointer (some ⟨g, 0, none⟩), .string s] w fun e w' => e = .returned (.tuple #[]) ∧ Blk w' g 54 (placeCells (adv s 0 (0, 0))) ∧ w.grownBy w' (some g) := by
  obtain ⟨P, hP⟩ : ∃ P, P = adv s 0 (0, 0) := ⟨_, rfl⟩
  rw [← hP]
  have HP := Lib.hid hP
  have HG := Lib.hid hg
  have HW := Lib.hid hwf
  have c0 := hg.get 0 rfl
  have c1 := hg.get 1 rfl
  have hlt := hg.lt
  clear hP hg hwf
  go_enter Tryd.func26, Tryd.ntmps26
  go_wp2_with fail
  go_loopw [4] (fun i wr => ∃ (k l c : Nat), k ≤ s.size ∧ i = .int .i64 c ∧ l ≤ k ∧ c ≤ 2 * k ∧ P = adv s k (l, c) ∧ wf s k = true ∧ AdvAt s g w.heap.size w wr k l) (fun _ wr => s.size - wr.iterPos w.heap.size)
  case atStart => exact ⟨0, 0, 0, Nat.zero_le _, rfl, Nat.le_refl _, Nat.le_refl _, HP.out, HW.out, World.iter_heap w s 0, HG.out.alloc _, only_of_below (below_at (Below.refl _ _) _) _⟩
  case round =>
    obtain ⟨k, l, c, hk, rfl, hl, hc, hP, hw, hat⟩ := hrel
    have HPP := Lib.hid hP
    have HAT := Lib.hid hat
    have HWK := Lib.hid hw
    have HPOS := Lib.hid (show wr.iterPos w.heap.size = k by simp [World.iterPos, hat.1])
    clear hP
    by_cases hk1 : k < s.size
    · have hp0 := wf_pos hk1 hw
      obtain ⟨r, n, hrn⟩ : ∃ r n, rune s k = (r, n) := ⟨_, _, rfl⟩
      rw [hrn] at hp0
      have hp := rune_pos hrn hp0
      have h4 := hp.2.2.1
      have h5 := hp.2.2.2.1
      have h6 : r < 128 ↔ n = 1 := hp.2.2.2.2.1
      have hr : r ≤ 1114111 := hp.2.2.2.2.2.1
      have hnp : 0 < n := hp0
      obtain ⟨wn, hwn⟩ : ∃ wn, wn = wr.iterAt w.heap.size s (k + n) := ⟨_, rfl⟩
      have hnx : ∀ ty, (Instr.next (.pointer (some ⟨w.heap.size, 0, none⟩)) true ty).run Tryd.prog wr = .ok (.tuple #[.bool true, .int .i64 k, .int .i32 r]) wn := by
        intro ty
        rw [Lib.run_next_any_at wr _ s k ty hat.1 hk1, hp.2.1, hwn]
      have hatn : AdvAt s g w.heap.size w wn (k + n) l := by rw [hwn]; exact hat.next (Nat.le_refl _) (by omega)
      have HATN := Lib.hid hatn
      have n0 := hatn.2.1.get 0 rfl
      have n1 := hatn.2.1.frozen 0
      have HE := Lib.hid (show P = adv s (k + n) (stepG s k (r, n) (l, c)) by rw [HPP.out, adv_next hk1 (by rw [hrn]; exact hnp), hrn])
      have HWN := Lib.hid (show wf s (k + n) = true by rw [← hw, wf_next hk1 (by rw [hrn]; exact hnp), hrn])
      have HPN := Lib.hid (show wn.iterPos w.heap.size = k + n by simp [World.iterPos, hatn.1])
      clear hrn hp hp0 hw hat hatn hwn
      by_cases q13 : r = 13
      · have hn1 : n = 1 := h6.1 (by omega)
        have t13 : ((r : Int) == 13) = true := by simp; omega
        by_cases q2 : k + 1 < s.size
        · have t2 : ((k : Int) + 1) < s.size := by omega
          have t2' : ((k : Int) + 1).toNat = k + 1 := by omega
          by_cases q3 : byt s (k + 1) = 10
          · have ec := byt_eq s (k + 1) q2
            rw [q3] at ec
            have ec2 : (s[k + 1]'q2).toNat = 10 := ec.symm
            have HS := Lib.hid (show stepG s k (r, n) (l, c) = (l, c + 1) from if_pos ⟨q13, by simp only; omega, by simp only; rw [hn1]; exact q3⟩)
            have HN1 := Lib.hid hn1
            clear q13 q3 ec hn1 h6
            go_wp2_with fail
            go_roundw
            case rel => exact ⟨k + n, l, c + 1, h5, val_int (by omega), by omega, by omega, by rw [HE.out, HS.out], HWN.out, HATN.out⟩
            case measure =>
              have h1 := HPOS.out
              have h2 := HPN.out
              omega
          · obtain ⟨x, ex⟩ : ∃ x : Nat, (s[k + 1]'q2).toNat = x := ⟨_, rfl⟩
            have t3 : ((x : Int) == 10) = false := by
              have : x ≠ 10 := fun h => q3 (by rw [byt_eq s _ q2, ex, h])
              simp
              omega
            have HS := Lib.hid (show stepG s k (r, n) (l, c) = (l + 1, 0) from (if_neg (by simp only; rw [hn1]; exact fun h => q3 h.2.2)).trans (if_pos (by rw [q13]; rfl)))
            clear q13 q3 hn1 h6
            go_wp2_with fail
            go_roundw
            case rel => exact ⟨k + n, l + 1, 0, h5, rfl, by omega, by omega, by rw [HE.out, HS.out], HWN.out, HATN.out.line (by omega)⟩
            case measure =>
              have hq := (HATN.out.line (by omega)).1
              have := HPOS.out
              have hz : (wn.setCell ⟨g, 0, none⟩ (.int .i64 ((l : Int) + 1))).iterPos w.heap.size = k + n := by simp [World.iterPos, hq]
              rw [hz]
              omega
        · have t2 : (s.size : Int) ≤ ((k : Int) + 1) := by omega
          have HS := Lib.hid (show stepG s k (r, n) (l, c) = (l + 1, 0) from (if_neg (by simp only; rw [hn1]; exact fun h => q2 h.2.1)).trans (if_pos (by rw [q13]; rfl)))
          clear q13 hn1 h6 q2
          go_wp2_with fail
          go_roundw
          case rel => exact ⟨k + n, l + 1, 0, h5, rfl, by omega, by omega, by rw [HE.out, HS.out], HWN.out, HATN.out.line (by omega)⟩
          case measure =>
            have hq := (HATN.out.line (by omega)).1
            have := HPOS.out
            have hz : (wn.setCell ⟨g, 0, none⟩ (.int .i64 ((l : Int) + 1))).iterPos w.heap.size = k + n := by simp [World.iterPos, hq]
            rw [hz]
            omega
      · have t13 : ((r : Int) == 13) = false := by simp; omega
        have HNC := Lib.hid (show ¬ (r = 13 ∧ k + n < s.size ∧ byt s (k + n) = 10) from fun h => q13 h.1)
        by_cases q10 : r = 10
        · have t10 : ((r : Int) == 10) = true := by simp; omega
          have HS := Lib.hid (show stepG s k (r, n) (l, c) = (l + 1, 0) from (if_neg HNC.out).trans (if_pos (by rw [q10]; rfl)))
          clear q13 q10 h6
          go_wp2_with fail
          go_roundw
          case rel => exact ⟨k + n, l + 1, 0, h5, rfl, by omega, by omega, by rw [HE.out, HS.out], HWN.out, HATN.out.line (by omega)⟩
          case measure =>
            have hq := (HATN.out.line (by omega)).1
            have := HPOS.out
            have hz : (wn.setCell ⟨g, 0, none⟩ (.int .i64 ((l : Int) + 1))).iterPos w.heap.size = k + n := by simp [World.iterPos, hq]
            rw [hz]
            omega
        have t10 : ((r : Int) == 10) = false := by simp; omega
        by_cases q28 : r = 8232
        · have t28 : ((r : Int) == 8232) = true := by simp; omega
          have HS := Lib.hid (show stepG s k (r, n) (l, c) = (l + 1, 0) from (if_neg HNC.out).trans (if_pos (by rw [q28]; rfl)))
          clear q13 q10 q28 h6
          go_wp2_with fail
          go_roundw
          case rel => exact ⟨k + n, l + 1, 0, h5, rfl, by omega, by omega, by rw [HE.out, HS.out], HWN.out, HATN.out.line (by omega)⟩
          case measure =>
            have hq := (HATN.out.line (by omega)).1
            have := HPOS.out
            have hz : (wn.setCell ⟨g, 0, none⟩ (.int .i64 ((l : Int) + 1))).iterPos w.heap.size = k + n := by simp [World.iterPos, hq]
            rw [hz]
            omega
        have t28 : ((r : Int) == 8232) = false := by simp; omega
        by_cases q29 : r = 8233
        · have t29 : ((r : Int) == 8233) = true := by simp; omega
          have HS := Lib.hid (show stepG s k (r, n) (l, c) = (l + 1, 0) from (if_neg HNC.out).trans (if_pos (by rw [q29]; rfl)))
          clear q13 q10 q28 q29 h6
          go_wp2_with fail
          go_roundw
          case rel => exact ⟨k + n, l + 1, 0, h5, rfl, by omega, by omega, by rw [HE.out, HS.out], HWN.out, HATN.out.line (by omega)⟩
          case measure =>
            have hq := (HATN.out.line (by omega)).1
            have := HPOS.out
            have hz : (wn.setCell ⟨g, 0, none⟩ (.int .i64 ((l : Int) + 1))).iterPos w.heap.size = k + n := by simp [World.iterPos, hq]
            rw [hz]
            omega
        have t29 : ((r : Int) == 8233) = false := by simp; omega
        have hle : ¬ lineEnd r = true := by simp [lineEnd, q13, q10, q28, q29]
        by_cases hb : 65535 < r
        · have HS := Lib.hid (show stepG s k (r, n) (l, c) = (l, c + 2) from (if_neg HNC.out).trans ((if_neg hle).trans (if_pos hb)))
          have hb' : (65535 : Int) < r := by omega
          clear q13 q10 q28 q29 h6 hle hb
          go_wp2_with fail
          go_roundw
          case rel => exact ⟨k + n, l, c + 2, h5, val_int (by omega), by omega, by omega, by rw [HE.out, HS.out], HWN.out, HATN.out⟩
          case measure =>
            have h1 := HPOS.out
            have h2 := HPN.out
            omega
        · have HS := Lib.hid (show stepG s k (r, n) (l, c) = (l, c + 1) from (if_neg HNC.out).trans ((if_neg hle).trans (if_neg hb)))
          have hb' : (r : Int) ≤ 65535 := by omega
          clear q13 q10 q28 q29 h6 hle hb
          go_wp2_with fail
          go_roundw
          case rel => exact ⟨k + n, l, c + 1, h5, val_int (by omega), by omega, by omega, by rw [HE.out, HS.out], HWN.out, HATN.out⟩
          case measure =>
            have h1 := HPOS.out
            have h2 := HPN.out
            omega
    · have hnx : ∀ ty, (Instr.next (.pointer (some ⟨w.heap.size, 0, none⟩)) true ty).run Tryd.prog wr = .ok (.tuple #[.bool false]) wr := fun ty => Lib.run_next_end_at wr _ s k ty hat.1 hk1
      have n1 := hat.2.1.get 1 rfl
      have n2 := hat.2.1.frozen 1
      have HE := Lib.hid (show P = (l, c) by rw [HPP.out, adv_end hk1])
      clear hw hat hk1
      go_wp2_with fail
      go_end0
      obtain ⟨z1, z2⟩ := adv_walk_end (c := c) HAT.out
      exact ⟨rfl, by rw [HE.out]; exact z1, z2⟩
end Go.Proofs.YtjhglhckdjnkgaaDoor.Runes
