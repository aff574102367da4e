/- The statement FnSlotSpace, walked: the namespaces of the package are those of the reference. -/
import Derived.Test.YtdcojgkblfobnaaDoorSlotB
import Derived.Deep.RegionHeld3
namespace Go.Proofs.YtdcojgkblfobnaaDoor.Slot
open Go.RowKit Go.Proofs.YtdcojgkblfobnaaDoor.Aid
attribute [local go_sem ↓] Go.wp_at_zero Go.wp_at_succ
set_option linter.unusedSimpArgs false
set_option linter.unusedVariables false
set_option maxHeartbeats 2000000 in
theorem slotspace_ (nm : ByteArray) (x f k y0 y1 : Int) (w : World) (hy0 : w.cell? ⟨1, 0, none⟩ = some (.int .u32 y0)) (hy1 : w.cell? ⟨1, 1, none⟩ = some (.int .u32 y1)) (hb : 2 ≤ w.heap.size) (f0 : 0 ≤ f) (f1 : f ≤ 1) (k0 : 0 ≤ k) (k1 : k ≤ 27) :
    Calls Tryd.prog 5 #[.agg #[.string nm, .int .u32 x, .int .i64 f, .int .i64 k]] w fun e w' => e = .returned (.int .i64 (slot k f)) ∧ Below w.heap.size w w' := by
  have hs0 : 0 ≤ slot k f := by unfold slot; split <;> (try split) <;> (try split) <;> (try split) <;> omega
  have hs1 : slot k f ≤ 4 := by unfold slot; split <;> (try split) <;> (try split) <;> (try split) <;> omega
  obtain ⟨s, es⟩ : ∃ s, s = slot k f := ⟨_, rfl⟩
  have HN := namespace_
  rw [← es] at hs0 hs1 ⊢
  have hq := Lib.hid (Blk.new (w.alloc (.cells #[.string nm, .int .u32 x, .int .i64 f, .int .i64 k] 25)) 25 [.string nm, .int .u32 x, .int .i64 f, .int .i64 k])
  have B0 := Lib.hid (below_at (below_at (Below.refl w.heap.size w) (.cells #[.string nm, .int .u32 x, .int .i64 f, .int .i64 k] 25)) (.cells #[.string nm, .int .u32 x, .int .i64 f, .int .i64 k] 25))
  have s0 := Lib.hid (show ((w.alloc (.cells #[.string nm, .int .u32 x, .int .i64 f, .int .i64 k] 25)).alloc (.cells #[.string nm, .int .u32 x, .int .i64 f, .int .i64 k] 25)).heap.size = w.heap.size + 2 from by simp)
  have s00 := Lib.hid (show (w.alloc (.cells #[.string nm, .int .u32 x, .int .i64 f, .int .i64 k] 25)).heap.size = w.heap.size + 1 from by simp)
  have hfd : ∀ (w : World) (a : Option Addr) (n c : Nat), (Instr.field 43 (.agg #[.slice a n c]) 0).run Tryd.prog w = .ok (.slice a n c) w := fun _ _ _ _ => by kernel_rfl

  go_enter Tryd.func5, Tryd.ntmps5
  go_wp2_with fail
  have hq' := hq.out
  rw [s00.out] at hq'
  refine (table (w.heap.size + 1) nm x f k y0 y1 _ hq' (bcell B0.out (by omega) hy0) (bcell B0.out (by omega) hy1) (by rw [s0.out]; omega) f0 f1 k0 k1).mono ?_
  rintro e w1 ⟨g1, g2, c, rfl, hc1, hc2, hb1⟩
  have e0 := hc2 0 (by omega)
  have e1 := hc2 1 (by omega)
  have e2 := hc2 2 (by omega)
  have e3 := hc2 3 (by omega)
  have e4 := hc2 4 (by omega)
  have e5 := hc2 5 (by omega)
  have e6 := hc2 6 (by omega)
  have e7 := hc2 7 (by omega)
  have e8 := hc2 8 (by omega)
  have e9 := hc2 9 (by omega)
  simp only [sym, List.getElem?_cons_zero, List.getElem?_cons_succ] at e0 e1 e2 e3 e4 e5 e6 e7 e8 e9
  have B1 := Lib.hid (B0.out.trans (hb1.mono B0.out.size))
  have hz := Lib.hid (Blk.new w1 39 (sym nm x f k y0 y1))
  clear hc2 hb1 hq'
  go_wp2_with fail
  refine (HN w1.heap.size k f _ (hz.out.get 8 rfl) (hz.out.get 7 rfl) f0 f1).mono ?_
  rintro e w2 ⟨rfl, hb2⟩
  rw [← es]
  have B2 := Lib.hid (below_at B1.out (.cells #[.pointer none, .string nm, .int .u32 y0, .int .u32 y1, .int .u32 x, .int .u32 0, .int .u32 0, .int .u16 f, .int .u8 k, .int .u8 0] 39))
  have B3 := Lib.hid (B2.out.trans (hb2.mono B2.out.size))
  clear hb2
  go_wp2_with fail
  go_returns
  exact ⟨by subst es; rfl, B3.out⟩
set_option maxHeartbeats 4000000 in
theorem law (kind flags : Int) (w : World) (y0 y1 : Int) (hy0 : w.cell? ⟨1, 0, none⟩ = some (.int .u32 y0)) (hy1 : w.cell? ⟨1, 1, none⟩ = some (.int .u32 y1)) (hb : 2 ≤ w.heap.size) :
    Calls Tryd.prog 3 #[.int .i64 kind, .int .i64 flags] w fun e w' => e = .returned (.bool true) ∧ Below w.heap.size w w' := by
  by_cases hin : (0 ≤ kind ∧ kind ≤ 27) ∧ (flags = 0 ∨ flags = 1)
  · obtain ⟨⟨k0, k1⟩, hf⟩ := hin
    have f0 : 0 ≤ flags := by omega
    have f1 : flags ≤ 1 := by omega
    have d1 : decide (kind < 0) = false := by simp; omega
    have d2 : decide (27 < kind) = false := by simp; omega
    have d3 : ((flags != 0) && (flags != 1)) = false := by rcases hf with rfl | rfl <;> rfl
    go_enter Tryd.func3, Tryd.ntmps3
    go_wp2_with fail
    refine (slotspace_ ⟨#[]⟩ 0 0 18 y0 y1 w hy0 hy1 hb (by omega) (by omega) (by omega) (by omega)).mono ?_
    rintro e w1 ⟨rfl, hb1⟩
    have e18 : slot 18 0 = 1 := rfl
    rw [e18]
    rcases hf with rfl | rfl
    · go_wp2_with fail
      have q := Blk.new w1 25 [.string ⟨#[]⟩, .int .u32 0, .int .i64 0, .int .i64 kind]
      have hlt : w1.heap.size < (w1.alloc (.cells #[.string ⟨#[]⟩, .int .u32 0, .int .i64 0, .int .i64 kind] 25)).heap.size := q.lt
      have B02 : Below w.heap.size w (w1.alloc (.cells #[.string ⟨#[]⟩, .int .u32 0, .int .i64 0, .int .i64 kind] 25)) := below_at hb1 _
      have Y0 := bcell B02 (by omega) hy0
      have Y1 := bcell B02 (by omega) hy1
      have hb2 : 2 ≤ (w1.alloc (.cells #[.string ⟨#[]⟩, .int .u32 0, .int .i64 0, .int .i64 kind] 25)).heap.size := Nat.le_trans hb B02.size
      obtain ⟨p, ep⟩ : ∃ p, p = w1.heap.size := ⟨_, rfl⟩
      obtain ⟨w2, e2⟩ : ∃ w2, w2 = w1.alloc (.cells #[.string ⟨#[]⟩, .int .u32 0, .int .i64 0, .int .i64 kind] 25) := ⟨_, rfl⟩
      rw [← ep] at q hlt ⊢
      rw [← e2] at q hlt B02 Y0 Y1 hb2 ⊢
      clear e2 ep hb1 hy0 hy1
      have c0 := q.get 0 rfl
      have c1 := q.get 1 rfl
      have c2 := q.get 2 rfl
      have c3 := q.get 3 rfl
      have HL := Lib.hid hlt
      have HY0 := Lib.hid Y0
      have HY1 := Lib.hid Y1
      have HB2 := Lib.hid hb2
      have HQ := Lib.hid q
      have HB02 := Lib.hid B02
      have HF := Lib.hid (And.intro f0 f1)
      clear hlt Y0 Y1 hb2 q B02
      go_region_held3 (fun w' => w'.cell? ⟨p, 0, none⟩ = some (.string ⟨#[]⟩) ∧ w'.cell? ⟨p, 1, none⟩ = some (.int .u32 0) ∧ w'.cell? ⟨p, 2, none⟩ = some (.int .i64 0) ∧ w'.cell? ⟨p, 3, none⟩ = some (.int .i64 kind)) (go_keep) (first | (go_at_call 5; refine (slotspace_ ⟨#[]⟩ 0 0 kind y0 y1 w2.drew HY0.out HY1.out HB2.out HF.out.1 HF.out.2 k0 k1).mono ?_; rintro e w3 ⟨rfl, hb3⟩; have q3 := (HQ.out.drew).below hb3 HL.out; have z0 := q3.get 0 rfl; have z1 := q3.get 1 rfl; have z2 := q3.get 2 rfl; have z3 := q3.get 3 rfl; have HB3 := Lib.hid ((HB02.out.drew).trans (hb3.mono HB02.out.drew.size)); have HQ3 := Lib.hid q3) | (go_at_call 6; refine (scope_ ⟨#[]⟩ 0 kind 0 _ HF.out.1 HF.out.2).mono ?_; rintro e w4 ⟨rfl, hb4⟩; have q4 := HQ3.out.below hb4 HQ3.out.lt; have z0 := q4.get 0 rfl; have z1 := q4.get 1 rfl; have z2 := q4.get 2 rfl; have z3 := q4.get 3 rfl; have HB4 := Lib.hid (HB3.out.trans (hb4.mono HB3.out.size))))
      all_goals
        go_wp2_with fail
        go_returns
        exact ⟨rfl, HB4.out⟩
    · go_wp2_with fail
      have q := Blk.new w1 25 [.string ⟨#[]⟩, .int .u32 0, .int .i64 1, .int .i64 kind]
      have hlt : w1.heap.size < (w1.alloc (.cells #[.string ⟨#[]⟩, .int .u32 0, .int .i64 1, .int .i64 kind] 25)).heap.size := q.lt
      have B02 : Below w.heap.size w (w1.alloc (.cells #[.string ⟨#[]⟩, .int .u32 0, .int .i64 1, .int .i64 kind] 25)) := below_at hb1 _
      have Y0 := bcell B02 (by omega) hy0
      have Y1 := bcell B02 (by omega) hy1
      have hb2 : 2 ≤ (w1.alloc (.cells #[.string ⟨#[]⟩, .int .u32 0, .int .i64 1, .int .i64 kind] 25)).heap.size := Nat.le_trans hb B02.size
      obtain ⟨p, ep⟩ : ∃ p, p = w1.heap.size := ⟨_, rfl⟩
      obtain ⟨w2, e2⟩ : ∃ w2, w2 = w1.alloc (.cells #[.string ⟨#[]⟩, .int .u32 0, .int .i64 1, .int .i64 kind] 25) := ⟨_, rfl⟩
      rw [← ep] at q hlt ⊢
      rw [← e2] at q hlt B02 Y0 Y1 hb2 ⊢
      clear e2 ep hb1 hy0 hy1
      have c0 := q.get 0 rfl
      have c1 := q.get 1 rfl
      have c2 := q.get 2 rfl
      have c3 := q.get 3 rfl
      have HL := Lib.hid hlt
      have HY0 := Lib.hid Y0
      have HY1 := Lib.hid Y1
      have HB2 := Lib.hid hb2
      have HQ := Lib.hid q
      have HB02 := Lib.hid B02
      have HF := Lib.hid (And.intro f0 f1)
      clear hlt Y0 Y1 hb2 q B02
      go_region_held3 (fun w' => w'.cell? ⟨p, 0, none⟩ = some (.string ⟨#[]⟩) ∧ w'.cell? ⟨p, 1, none⟩ = some (.int .u32 0) ∧ w'.cell? ⟨p, 2, none⟩ = some (.int .i64 1) ∧ w'.cell? ⟨p, 3, none⟩ = some (.int .i64 kind)) (go_keep) (first | (go_at_call 5; refine (slotspace_ ⟨#[]⟩ 0 1 kind y0 y1 w2.drew HY0.out HY1.out HB2.out HF.out.1 HF.out.2 k0 k1).mono ?_; rintro e w3 ⟨rfl, hb3⟩; have q3 := (HQ.out.drew).below hb3 HL.out; have z0 := q3.get 0 rfl; have z1 := q3.get 1 rfl; have z2 := q3.get 2 rfl; have z3 := q3.get 3 rfl; have HB3 := Lib.hid ((HB02.out.drew).trans (hb3.mono HB02.out.drew.size)); have HQ3 := Lib.hid q3) | (go_at_call 6; refine (scope_ ⟨#[]⟩ 0 kind 1 _ HF.out.1 HF.out.2).mono ?_; rintro e w4 ⟨rfl, hb4⟩; have q4 := HQ3.out.below hb4 HQ3.out.lt; have z0 := q4.get 0 rfl; have z1 := q4.get 1 rfl; have z2 := q4.get 2 rfl; have z3 := q4.get 3 rfl; have HB4 := Lib.hid (HB3.out.trans (hb4.mono HB3.out.size))))
      all_goals
        go_wp2_with fail
        go_returns
        exact ⟨rfl, HB4.out⟩
  · by_cases k0 : kind < 0
    · have d1 : decide (kind < 0) = true := by simpa using k0
      go_enter Tryd.func3, Tryd.ntmps3
      go_wp2_with fail
      refine (slotspace_ ⟨#[]⟩ 0 0 18 y0 y1 w hy0 hy1 hb (by omega) (by omega) (by omega) (by omega)).mono ?_
      rintro e w1 ⟨rfl, hb1⟩
      have e18 : slot 18 0 = 1 := rfl
      rw [e18]
      go_wp2_with fail
      go_returns
      exact ⟨rfl, hb1⟩
    · have d1 : decide (kind < 0) = false := by simpa using k0
      by_cases k1 : 27 < kind
      · have d2 : decide (27 < kind) = true := by simpa using k1
        go_enter Tryd.func3, Tryd.ntmps3
        go_wp2_with fail
        refine (slotspace_ ⟨#[]⟩ 0 0 18 y0 y1 w hy0 hy1 hb (by omega) (by omega) (by omega) (by omega)).mono ?_
        rintro e w1 ⟨rfl, hb1⟩
        have e18 : slot 18 0 = 1 := rfl
        rw [e18]
        go_wp2_with fail
        go_returns
        exact ⟨rfl, hb1⟩
      · have d2 : decide (27 < kind) = false := by simpa using k1
        have d3 : (flags == 0) = false := by simp; omega
        have d4 : (flags == 1) = false := by simp; omega
        have d5 : (flags != 0) = true := by simp [bne, d3]
        have d6 : (flags != 1) = true := by simp [bne, d4]
        go_enter Tryd.func3, Tryd.ntmps3
        go_wp2_with fail
        refine (slotspace_ ⟨#[]⟩ 0 0 18 y0 y1 w hy0 hy1 hb (by omega) (by omega) (by omega) (by omega)).mono ?_
        rintro e w1 ⟨rfl, hb1⟩
        have e18 : slot 18 0 = 1 := rfl
        rw [e18]
        go_wp2_with fail
        go_returns
        exact ⟨rfl, hb1⟩
end Go.Proofs.YtdcojgkblfobnaaDoor.Slot
