/- The reference's scanner: what stands before a string, the token. The walks. -/
import Derived.Test.YtkhnkemmkedfcaaJsG
namespace Go.Proofs.Ytkhnkemmkedfcaa.Js
open Go.RowKit Go.Proofs.Ytkhnkemmkedfcaa.Aid Go.Proofs.Ytkhnkemmkedfcaa.Runes Go.Proofs.Ytkhnkemmkedfcaa.Bytes Go.Proofs.Ytkhnkemmkedfcaa.Wtf Go.Proofs.Ytkhnkemmkedfcaa.Esc
attribute [local go_sem ↓] Go.wp_at_zero Go.wp_at_succ
set_option linter.unusedVariables false
theorem lineEnd34 (w : World) : Calls Try.prog 51 #[.int .i64 34] w fun e w' => e = .returned (.bool false) ∧ w' = w := by
  go_enter Try.func51, Try.ntmps51
  go_wp2_with fail
  go_returns
  exact ⟨rfl, rfl⟩
set_option maxHeartbeats 1000000 in
theorem blank34 (w : World) : Calls Try.prog 52 #[.int .i64 34] w fun e w' => e = .returned (.bool false) ∧ w' = w := by
  have HB := Lib.hid (show ∀ w, Calls Try.prog 45 #[.int .i64 8192, .int .i64 34, .int .i64 8202] w fun e w' => e = .returned (.bool false) ∧ w' = w from fun w => between_is (a := 8192) (n := 34) (b := 8202) (v := false) (by decide) w)
  go_enter Try.func52, Try.ntmps52
  go_wp2_with fail
  refine (HB.out _).mono ?_
  rintro e w' ⟨rfl, rfl⟩
  go_wp2_with fail
  go_returns
  exact ⟨rfl, rfl⟩
theorem ur34 (s : ByteArray) (h0 : 0 < s.size) (hb0 : byt s 0 = 34) : ur ((nats s).drop 0) = (34, 1) := by
  rw [drop_at s 0 h0, hb0, ur_one 34 _ (by omega)]
set_option maxRecDepth 100000 in
set_option maxHeartbeats 4000000 in
theorem pass (g : Nat) (s : ByteArray) (w : World) (h : Sc w g s 0 0) (hs : s.size ≤ 34359738368) (h0 : 0 < s.size) (hb0 : byt s 0 = 34) :
    Calls Try.prog 28 #[.pointer (some ⟨g, 0, none⟩)] w fun e w' => e = .returned (.tuple #[]) ∧ Drawn w w' := by
  have HI := Lib.hid (show ∀ (c d : Nat) (t : ByteArray), nats t = [c, d] → c ≠ 34 → ∀ w', Sc w' g s 0 0 → Calls Try.prog 47 #[.pointer (some ⟨g, 0, none⟩), .string t] w' fun e w'' => e = .returned (.bool false) ∧ Drawn w' w'' from fun c d t ht hc w' hw => by
    have h1 := scanIs g s 0 0 t w' hw (by omega) (Nat.zero_le _) (by rw [← nats_length, ht]; simp)
    rw [isAt_two s 0 t c d ht h0 (by rw [hb0]; exact fun e => hc e.symm)] at h1
    exact h1)
  have HR := Lib.hid (show ∀ w', Sc w' g s 0 0 → Calls Try.prog 49 #[.pointer (some ⟨g, 0, none⟩)] w' fun e w'' => e = .returned (.tuple #[.int .i64 34, .int .i64 1]) ∧ Drawn w' w'' from fun w' hw => by
    have h1 := scanRune g s 0 0 w' hw (by omega) (Nat.zero_le _)
    rw [ur34 s h0 hb0] at h1
    exact h1)
  have HS := Lib.hid h
  have c0 := Blk.get h 0 rfl
  have c1 := Blk.get h 1 rfl
  have c2 := Blk.get h 2 rfl
  have c3 := Blk.get h 3 rfl
  have c4 := Blk.get h 4 rfl
  have i0 : (0 : Int) < s.size := by omega
  clear h hb0
  go_enter Try.func28, Try.ntmps28
  go_wp2_with fail
  refine (HI.out 35 33 _ rfl (by omega) _ HS.out).mono ?_
  rintro e w1 ⟨rfl, n1, rfl⟩
  go_wp2_with fail
  have HS2 := Lib.hid (Sc.drewN HS.out n1)
  obtain ⟨W, hW⟩ : ∃ W, W = w.drewN n1 := ⟨_, rfl⟩
  have HD := Lib.hid (show Drawn w W from ⟨n1, hW⟩)
  rw [← hW] at HS2 ⊢
  clear hW c0 c1 c2 c3 c4 HS
  have c0 := Blk.get HS2.out 0 rfl
  have c1 := Blk.get HS2.out 1 rfl
  have c2 := Blk.get HS2.out 2 rfl
  have c3 := Blk.get HS2.out 3 rfl
  have c4 := Blk.get HS2.out 4 rfl
  have t1 : decide (0 < s.size) = true := by simp; omega
  have t1' : decide ((0 : Int) < s.size) = true := by simp; omega
  go_rounds 1
  go_quiet (fail)
  go_wp2_with fail
  refine (HR.out _ (Sc.drewN HS2.out _)).mono ?_
  rintro e w1 ⟨rfl, n2, rfl⟩
  go_wp2_with fail
  refine (lineEnd34 _).mono ?_
  rintro e w1 ⟨rfl, rfl⟩
  go_wp2_with fail
  refine (blank34 _).mono ?_
  rintro e w1 ⟨rfl, rfl⟩
  go_wp2_with fail
  refine (HI.out 47 47 ⟨#[47, 47]⟩ rfl (by omega) _ (Sc.drewN HS2.out _)).mono ?_
  rintro e w1 ⟨rfl, n3, rfl⟩
  go_wp2_with fail
  refine (HI.out 47 42 ⟨#[47, 42]⟩ rfl (by omega) _ (Sc.drewN HS2.out _)).mono ?_
  rintro e w1 ⟨rfl, n4, rfl⟩
  go_wp2_with fail
  go_returns
  obtain ⟨m, rfl⟩ := HD.out
  exact ⟨rfl, _, World.drewN_drewN _ _ _⟩
set_option maxRecDepth 100000 in
set_option maxHeartbeats 4000000 in
theorem token (g : Nat) (s : ByteArray) (w : World) (h : Sc w g s 0 0) (hs : s.size ≤ 34359738368) (h0 : 0 < s.size) (hb0 : byt s 0 = 34) :
    Calls Try.prog 29 #[.pointer (some ⟨g, 0, none⟩), .int .i64 0] w (TextPost (js ((nats s).drop 1)) g s w) := by
  have hlt := Blk.lt h
  have HI := Lib.hid (show ∀ w', Sc w' g s 0 0 → Calls Try.prog 47 #[.pointer (some ⟨g, 0, none⟩), .string ⟨#[46]⟩] w' fun e w'' => e = .returned (.bool false) ∧ Drawn w' w'' from fun w' hw => by
    have h1 := scanIs g s 0 0 ⟨#[46]⟩ w' hw (by omega) (Nat.zero_le _) (by decide)
    rw [isAt_one s 0 ⟨#[46]⟩ 46 rfl (Nat.zero_le _), hb0] at h1
    simpa using h1)
  have HR := Lib.hid (show ∀ w', Sc w' g s 0 0 → Calls Try.prog 49 #[.pointer (some ⟨g, 0, none⟩)] w' fun e w'' => e = .returned (.tuple #[.int .i64 34, .int .i64 1]) ∧ Drawn w' w'' from fun w' hw => by
    have h1 := scanRune g s 0 0 w' hw (by omega) (Nat.zero_le _)
    rw [ur34 s h0 hb0] at h1
    exact h1)
  have HD := Lib.hid (show ∀ w, Calls Try.prog 54 #[.int .i64 34] w fun e w' => e = .returned (.bool false) ∧ w' = w from fun w => digit_walk 34 w false (by decide))
  have HT := Lib.hid (fun w' (hw : Sc w' g s 0 0) => text g s w' hw hs h0 hb0)
  obtain ⟨O, hO⟩ : ∃ O, O = js ((nats s).drop 1) := ⟨_, rfl⟩
  rw [← hO] at HT ⊢
  have HS := Lib.hid h
  clear h hb0 hO
  go_enter Try.func29, Try.ntmps29
  go_wp2_with fail
  obtain ⟨W0, hW0⟩ : ∃ W0, W0 = w.alloc (.cells zer.toArray 37) := ⟨_, rfl⟩
  have HS0 := Lib.hid (show Sc W0 g s 0 0 by rw [hW0]; exact Blk.alloc HS.out _)
  have HZ0 := Lib.hid (show Blk W0 w.heap.size 37 zer by rw [hW0]; exact Blk.new w 37 zer)
  have HG0 := Lib.hid (show w.grownBy W0 (some g) by rw [hW0]; exact only_alloc (World.grownBy.refl w _) _)
  simp only [zer] at hW0
  rw [← hW0]
  clear hW0 HS
  refine (HR.out _ HS0.out).mono ?_
  rintro e w1 ⟨rfl, n1, rfl⟩
  go_wp2_with fail
  have HS1 := Lib.hid (Sc.drewN HS0.out n1)
  have HZ1 := Lib.hid (Blk.drewN HZ0.out n1)
  have HG1 := Lib.hid (only_drewN HG0.out n1)
  obtain ⟨W1, hW1⟩ : ∃ W1, W1 = W0.drewN n1 := ⟨_, rfl⟩
  rw [← hW1] at HS1 HZ1 HG1 ⊢
  clear hW1 HS0 HZ0 HG0
  go_quiet ((go_at_call 47; exact Calls.quiet_of (HI.out _ (Sc.drewN HS1.out _))))
  have HS2 := Lib.hid (Sc.drewN HS1.out nq)
  have HZ2 := Lib.hid (Blk.drewN HZ1.out nq)
  have HG2 := Lib.hid (only_drewN HG1.out nq)
  go_wp2_with fail
  refine (HD.out _).mono ?_
  rintro e w3 ⟨rfl, rfl⟩
  go_wp2_with fail
  refine (HT.out _ HS2.out).mono ?_
  rintro e W3 ⟨hg3, hpost⟩
  have HZ3 := Lib.hid (Blk.grown HZ2.out hg3 (by intro e; injection e with e; omega))
  have HG3 := Lib.hid (grown_trans HG2.out hg3)
  clear hg3 HZ2 HG2 HS2
  cases O with
  | some us =>
    obtain ⟨M, rfl, hs3⟩ := hpost
    have HS3 := Lib.hid hs3
    clear hs3
    go_wp2_with (with_reducible refine wpList_store_blk rfl 37 (.tmp 4) (.tmp 104) rfl w.heap.size zer (tok (str (ub us)) M false) 37 rfl rfl HZ3.out (tok_zer _ _ _) (size_tok _ _ _) (tok_one _ _ _) ?_)
    intro W4 H4 G4 S4
    have HG4 := Lib.hid (grown_new HG3.out G4 (Nat.le_refl _))
    have HS4 := Lib.hid (Blk.grown HS3.out G4 (by intro e; injection e with e; omega))
    clear G4
    go_wp2_with fail
    refine bodyPost_ret (results_cell_row Try.results29 _ _ w.heap.size 37 _ (0, 0) _ rfl H4 Try.underlying37 rfl size37) rfl ?_
    exact ⟨HG4.out, M, rfl, HS4.out⟩
  | none =>
    obtain ⟨T, M, old, p, b, rfl, hb0, hb2, hp, hs3, hor⟩ := hpost
    have HS3 := Lib.hid hs3
    have HOR := Lib.hid hor
    clear hs3 hor
    go_wp2_with (with_reducible refine wpList_store_blk rfl 37 (.tmp 4) (.tmp 104) rfl w.heap.size zer (tok (T) M old) 37 rfl rfl HZ3.out (tok_zer _ _ _) (size_tok _ _ _) (tok_one _ _ _) ?_)
    intro W4 H4 G4 S4
    have HG4 := Lib.hid (grown_new HG3.out G4 (Nat.le_refl _))
    have HS4 := Lib.hid (Blk.grown HS3.out G4 (by intro e; injection e with e; omega))
    clear G4
    go_wp2_with fail
    refine bodyPost_ret (results_cell_row Try.results29 _ _ w.heap.size 37 _ (0, 0) _ rfl H4 Try.underlying37 rfl size37) rfl ?_
    exact ⟨HG4.out, T, M, old, p, b, rfl, hb0, hb2, hp, HS4.out, HOR.out⟩
end Go.Proofs.Ytkhnkemmkedfcaa.Js
