/- The reference's scanner: nothing is passed at a digit. The walk. -/
import Derived.Test.YtefippeaalkmeaaScE
namespace Go.Proofs.Ytefippeaalkmeaa.Scan
open Go.RowKit Go.Proofs.Ytefippeaalkmeaa.Aid Go.Proofs.Ytefippeaalkmeaa.Runes Go.Proofs.Ytefippeaalkmeaa.Bytes Go.Proofs.Ytefippeaalkmeaa.Nats
attribute [local go_sem ↓] Go.wp_at_zero Go.wp_at_succ
set_option linter.unusedVariables false
theorem ne_lit {r : Nat} (k : Int) (h : r < 58) (h' : 48 ≤ r) (hk : k < 48 ∨ 57 < k) : ((r : Int) == k) = false := by
  rw [beq_eq_false_iff_ne]
  omega
set_option maxRecDepth 100000 in
theorem lineEnd_dig (r : Nat) (w : World) (h : r < 58) (h' : 48 ≤ r) : Calls Try.prog 18 #[.int .i64 r] w fun e w' => e = .returned (.bool false) ∧ w' = w := by
  have t1 := ne_lit 10 h h' (by omega)
  have t2 := ne_lit 13 h h' (by omega)
  have t3 := ne_lit 8232 h h' (by omega)
  have t4 := ne_lit 8233 h h' (by omega)
  go_enter Try.func18, Try.ntmps18
  go_wp2_with fail
  go_returns
  exact ⟨rfl, rfl⟩
set_option maxRecDepth 100000 in
theorem blank_dig (r : Nat) (w : World) (h : r < 58) (h' : 48 ≤ r) : Calls Try.prog 19 #[.int .i64 r] w fun e w' => e = .returned (.bool false) ∧ w' = w := by
  have t1 := ne_lit 9 h h' (by omega)
  have t2 := ne_lit 11 h h' (by omega)
  have t3 := ne_lit 12 h h' (by omega)
  have t4 := ne_lit 32 h h' (by omega)
  have t5 := ne_lit 160 h h' (by omega)
  have t6 := ne_lit 65279 h h' (by omega)
  have t7 := ne_lit 5760 h h' (by omega)
  have t8 := ne_lit 8239 h h' (by omega)
  have t9 := ne_lit 8287 h h' (by omega)
  have ta := ne_lit 12288 h h' (by omega)
  have HB := Lib.hid (show Calls Try.prog 29 #[.int .i64 8192, .int .i64 r, .int .i64 8202] w fun e w' => e = .returned (.bool false) ∧ w' = w by
    have h1 := between_walk 8192 r 8202 w
    rwa [show (decide (8192 ≤ r) && decide (r ≤ 8202)) = false by simp; omega] at h1)
  go_enter Try.func19, Try.ntmps19
  go_wp2_with fail
  refine HB.out.mono ?_
  rintro e w' ⟨rfl, rfl⟩
  go_wp2_with fail
  go_returns
  exact ⟨rfl, rfl⟩
theorem is_not {g : Nat} {s : ByteArray} {q : Nat} {b : Int} {w : World} (h : Sc w g s q b) (hs : s.size ≤ 4096) (hq : q < s.size) (c d : Nat) (hc : c < 256) (hd : d < 256) (hne : byt s q ≠ c) :
    Calls Try.prog 14 #[.pointer (some ⟨g, 0, none⟩), .string ⟨#[UInt8.ofNat c, UInt8.ofNat d]⟩] w fun e w' => e = .returned (.bool false) ∧ Drawn w w' := by
  have h1 := scanIs g s q b ⟨#[UInt8.ofNat c, UInt8.ofNat d]⟩ w h (by omega) (by omega) (by show 2 ≤ 100; omega)
  rwa [isAt_two s q ⟨#[UInt8.ofNat c, UInt8.ofNat d]⟩ c d (by simp [nats]; omega) hq hne] at h1
set_option maxRecDepth 100000 in
set_option maxHeartbeats 8000000 in
theorem scanPass (g : Nat) (s : ByteArray) (p : Nat) (w : World) (h : Sc w g s p 0) (hs : s.size ≤ 4096) (hp : p < s.size) (h0 : 48 ≤ byt s p) (h1 : byt s p ≤ 57) :
    Calls Try.prog 12 #[.pointer (some ⟨g, 0, none⟩)] w fun e w' => e = .returned (.tuple #[]) ∧ Drawn w w' := by
  have HS := Lib.hid h
  have HR := Lib.hid (fun w' (h : Sc w' g s p 0) => show Calls Try.prog 16 #[.pointer (some ⟨g, 0, none⟩)] w' fun e w'' => e = .returned (.tuple #[.int .i64 ((byt s p : Nat) : Int), .int .i64 1]) ∧ Drawn w' w'' from by
    have := scanRune g s p 0 w' h (by omega) (by omega)
    rwa [rune_ascii s p hp (by omega)] at this)
  have HI1 := Lib.hid (fun w' (h : Sc w' g s p 0) => show Calls Try.prog 14 #[.pointer (some ⟨g, 0, none⟩), .string ⟨#[35, 33]⟩] w' fun e w'' => e = .returned (.bool false) ∧ Drawn w' w'' from is_not h hs hp 35 33 (by omega) (by omega) (by omega))
  have HI2 := Lib.hid (fun w' (h : Sc w' g s p 0) => show Calls Try.prog 14 #[.pointer (some ⟨g, 0, none⟩), .string ⟨#[47, 47]⟩] w' fun e w'' => e = .returned (.bool false) ∧ Drawn w' w'' from is_not h hs hp 47 47 (by omega) (by omega) (by omega))
  have HI3 := Lib.hid (fun w' (h : Sc w' g s p 0) => show Calls Try.prog 14 #[.pointer (some ⟨g, 0, none⟩), .string ⟨#[47, 42]⟩] w' fun e w'' => e = .returned (.bool false) ∧ Drawn w' w'' from is_not h hs hp 47 42 (by omega) (by omega) (by omega))
  obtain ⟨b, hb⟩ : ∃ b, b = byt s p := ⟨_, rfl⟩
  rw [← hb] at HR h0 h1
  have HLE := Lib.hid (fun w => lineEnd_dig b w (by omega) h0)
  have HBL := Lib.hid (fun w => blank_dig b w (by omega) h0)
  have c1 := Blk.get h 1 rfl
  clear h hb
  go_enter Try.func12, Try.ntmps12
  go_upto_region 0 with fail
  go_cut [13] (fun bv wx => bv = .bool false ∧ ∃ k : Nat, wx = w.drewN k)
  case first =>
    by_cases hp0 : p = 0
    · have t0 : ((p : Int) == 0) = true := by rw [hp0]; rfl
      clear hp0
      go_wp2_with fail
      refine (HI1.out _ HS.out).mono ?_
      rintro e w1 ⟨rfl, k1, rfl⟩
      go_wp2_with fail
      go_meet
      exact ⟨rfl, _, rfl⟩
    · have t0 : ((p : Int) == 0) = false := by rw [beq_eq_false_iff_ne]; omega
      clear hp0
      go_wp2_with fail
      go_meet
      exact ⟨rfl, 0, rfl⟩
  case rest =>
    obtain ⟨rfl, k, hwc⟩ := hcut
    have HWC := Lib.hid hwc
    have HS1 := Lib.hid (show Sc wc g s p 0 by rw [hwc]; exact HS.out.drewN k)
    clear hwc c1
    have c1 := Blk.get HS1.out 1 rfl
    go_wp2_with fail
    go_loopw [3] (fun _ wr => wr = wc) (fun _ _ => 0)
    case atStart => rfl
    case round =>
      subst hrel
      have c0 := Blk.get HS1.out 0 rfl
      have c4 := Blk.get HS1.out 4 rfl
      have t1 : decide ((p : Int) < (s.size : Int)) = true := by simp; omega
      have t2 : (p : Int) < (s.size : Int) := by omega
      go_wp2_with fail
      go_quiet (fail)
      obtain ⟨W2, hW2⟩ : ∃ W2, W2 = wr.drewN nq := ⟨_, rfl⟩
      have HS2 := Lib.hid (show Sc W2 g s p 0 by rw [hW2]; exact HS1.out.drewN nq)
      have HW2 := Lib.hid (show W2 = w.drewN (k + nq) by rw [hW2, HWC.out, World.drewN_drewN])
      rw [← hW2]
      clear hW2 c0 c1 c4
      have c2 := Blk.get HS2.out 2 rfl
      go_wp2_with fail
      refine (HR.out _ HS2.out).mono ?_
      rintro e w3 ⟨rfl, k3, rfl⟩
      go_wp2_with fail
      refine (HLE.out _).mono ?_
      rintro e w4 ⟨rfl, rfl⟩
      go_wp2_with fail
      refine (HBL.out _).mono ?_
      rintro e w4 ⟨rfl, rfl⟩
      go_wp2_with fail
      refine (HI2.out _ (HS2.out.drewN _)).mono ?_
      rintro e w5 ⟨rfl, k5, rfl⟩
      go_wp2_with fail
      refine (HI3.out _ (HS2.out.drewN _)).mono ?_
      rintro e w6 ⟨rfl, k6, rfl⟩
      go_wp2_with fail
      go_returns
      exact ⟨rfl, k + nq + (k3 + k5 + k6), by rw [HW2.out]; simp only [World.drewN_drewN]⟩
end Go.Proofs.Ytefippeaalkmeaa.Scan
