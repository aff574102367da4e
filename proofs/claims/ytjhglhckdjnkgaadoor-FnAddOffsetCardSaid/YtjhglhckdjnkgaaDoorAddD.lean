/- The statement FnAddOffset, walked: the distance over two texts, one behind the other, is the sum of the distances over both. -/
import Derived.Test.YtjhglhckdjnkgaaDoorAddC
import Derived.Deep.QuietTactic
import Derived.BigQuiet
import Derived.RegionTactic
namespace Go.Proofs.YtjhglhckdjnkgaaDoor.Runes
open Go.RowKit Go.Proofs.YtjhglhckdjnkgaaDoor.Aid
attribute [local go_sem ↓] Go.wp_at_zero Go.wp_at_succ
set_option linter.unusedVariables false
set_option maxRecDepth 100000 in
set_option maxHeartbeats 1000000 in
theorem advance (s : ByteArray) (w : World) (hs : s.size ≤ 1000000) (hwf : wf s 0 = true) :
    Calls Tryd.prog 9 #[.int .i64 0, .int .i64 0, .string s, .bool false] w fun e w' => e = .returned (.tuple #[.int .i64 (places s 0 (0, 0)).1, .int .i64 (places s 0 (0, 0)).2]) ∧ Below w.heap.size w w' := by
  have hq := adv_places s s.size 0 0 0 0 rfl hwf (.inl rfl)
  rw [← hq]
  have H := adv_walk s w.heap.size (w.alloc (.cells #[.int .i64 0, .int .i64 0] 54)) hs (Blk.new w 54 _) hwf
  obtain ⟨P, hP⟩ : ∃ P, P = adv s 0 (0, 0) := ⟨_, rfl⟩
  rw [← hP] at H ⊢
  clear hP hq hwf
  go_enter Tryd.func9, Tryd.ntmps9
  go_wp2_with fail
  refine H.mono ?_
  rintro e w1 ⟨rfl, hb, hg⟩
  have hb' : Blk w1 w.heap.size 54 [.int .i64 P.1, .int .i64 P.2] := hb
  have c0 := hb'.get 0 rfl
  have c1 := hb'.get 1 rfl
  have HB := Lib.hid ((below_at (Below.refl _ w) (.cells #[.int .i64 0, .int .i64 0] 54)).grown hg (by simp) (fun k hk => by injection hk; omega))
  clear hb hb' hg
  go_wp2_with fail
  go_quiet (fail)
  go_wp2_with fail
  go_returns
  exact ⟨rfl, below_drewN HB.out _⟩
set_option maxRecDepth 100000 in
set_option maxHeartbeats 1000000 in
theorem add_ (g a b c d : Nat) (w : World) (hg : Blk w g 54 [.int .i64 a, .int .i64 b]) (ha : a ≤ 1000000000) (hb : b ≤ 1000000000) (hc : c ≤ 1000000000) (hd : d ≤ 1000000000) :
    Calls Tryd.prog 27 #[.pointer (some ⟨g, 0, none⟩), .agg #[.int .i64 c, .int .i64 d]] w fun e w' => e = .returned (.tuple #[]) ∧ Blk w' g 54 (placeCells (on a b (c, d))) ∧ w.grownBy w' (some g) := by
  have HG := Lib.hid hg
  have c0 := hg.get 0 rfl
  have c1 := hg.get 1 rfl
  have f0 := hg.frozen 0
  have f1 := hg.frozen 1
  have hlt := hg.lt
  have hne : ¬ (g = w.heap.size) := by omega
  have hga := hg.alloc (.cells #[.int .i64 c, .int .i64 d] 54)
  have a0 := hga.get 0 rfl
  have a1 := hga.get 1 rfl
  have b0 := hga.frozen 0
  have b1 := hga.frozen 1
  have HGA := Lib.hid hga
  clear hg hga
  by_cases h : c = 0
  · have HS := Lib.hid (show on a b (c, d) = (a, b + d) by simp [on, h])
    have h' : ((c : Int) == 0) = true := by simp; omega
    clear h
    go_enter Tryd.func27, Tryd.ntmps27
    go_wp2_with fail
    go_region
    all_goals
      go_wp2_with fail
      go_end0
      have hz := ((HG.out.set_ 1 (.int .i64 ((b : Int) + d))).alloc (.cells #[.int .i64 c, .int .i64 d] 54)).drew
      refine ⟨rfl, ?_, only_drew (only_alloc (only_setCell (p := ⟨g, 1, none⟩) (World.grownBy.refl w _) (.inl rfl) _) _)⟩
      rw [HS.out]
      simpa [placeCells] using hz
  · have HS := Lib.hid (show on a b (c, d) = (a + c, d) by simp [on, h])
    have h' : ((c : Int) == 0) = false := by simp; omega
    clear h
    go_enter Tryd.func27, Tryd.ntmps27
    go_wp2_with fail
    go_region
    all_goals
      have z1 : (((w.setCell ⟨g, 0, none⟩ (.int .i64 ((a : Int) + c))).alloc (.cells #[.int .i64 c, .int .i64 d] 54)).drew).frozen? ⟨g, 1, none⟩ = false := (((HG.out.set_ 0 (.int .i64 ((a : Int) + c))).alloc (.cells #[.int .i64 c, .int .i64 d] 54)).drew).frozen 1
      have z2 : (((w.setCell ⟨g, 0, none⟩ (.int .i64 ((a : Int) + c))).alloc (.cells #[.int .i64 c, .int .i64 d] 54)).drew).cell? ⟨g, 1, none⟩ = some (.int .i64 b) := (((HG.out.set_ 0 (.int .i64 ((a : Int) + c))).alloc (.cells #[.int .i64 c, .int .i64 d] 54)).drew).get 1 rfl
      go_wp2_with fail
      go_end0
      have hz := (((HG.out.set_ 0 (.int .i64 ((a : Int) + c))).set_ 1 (.int .i64 d)).alloc (.cells #[.int .i64 c, .int .i64 d] 54)).drew
      refine ⟨rfl, ?_, only_drew (only_alloc (only_setCell (p := ⟨g, 1, none⟩) (only_setCell (p := ⟨g, 0, none⟩) (World.grownBy.refl w _) (.inl rfl) _) (.inl rfl) _) _)⟩
      rw [HS.out]
      simpa [placeCells] using hz
set_option maxRecDepth 100000 in
set_option maxHeartbeats 1000000 in
theorem addOffset (a b c d : Nat) (w : World) (ha : a ≤ 1000000000) (hb : b ≤ 1000000000) (hc : c ≤ 1000000000) (hd : d ≤ 1000000000) :
    Calls Tryd.prog 10 #[.int .i64 a, .int .i64 b, .int .i64 c, .int .i64 d] w fun e w' => e = .returned (.tuple #[.int .i64 (on a b (c, d)).1, .int .i64 (on a b (c, d)).2]) ∧ Below w.heap.size w w' := by
  have H := Lib.hid (add_ w.heap.size a b c d (w.alloc (.cells #[.int .i64 a, .int .i64 b] 54)) (Blk.new w 54 _) ha hb hc hd)
  obtain ⟨P, hP⟩ : ∃ P, P = on a b (c, d) := ⟨_, rfl⟩
  rw [← hP] at H ⊢
  clear hP
  go_enter Tryd.func10, Tryd.ntmps10
  go_wp2_with fail
  refine (H.out).mono ?_
  rintro e w1 ⟨rfl, hb, hg⟩
  have hb' : Blk w1 w.heap.size 54 [.int .i64 P.1, .int .i64 P.2] := hb
  have c0 := hb'.get 0 rfl
  have c1 := hb'.get 1 rfl
  have HB := Lib.hid ((below_at (Below.refl _ w) (.cells #[.int .i64 a, .int .i64 b] 54)).grown hg (by simp) (fun k hk => by injection hk; omega))
  clear hb hb' hg
  go_wp2_with fail
  go_quiet (fail)
  go_wp2_with fail
  go_returns
  exact ⟨rfl, below_drewN HB.out _⟩
theorem whole_of {s t : ByteArray} (h : rounded (s ++ t) s.size = true) : Whole s t := by
  rintro ⟨h1, h2, h3, h4⟩
  simp only [rounded, decide_eq_true_eq] at h
  have hb1 := byt_left s t (s.size - 1) (by omega)
  have hb2 := byt_right s t 0
  rw [Nat.add_zero] at hb2
  rw [hb1, hb2, h2, h4, ByteArray.size_append] at h
  omega
set_option maxRecDepth 100000 in
set_option maxHeartbeats 4000000 in
theorem law (s t : ByteArray) (w : World) (hs : s.size ≤ 140737488351232) (ht : t.size ≤ 140737488351232) :
    Calls Tryd.prog 3 #[.string s, .string t] w fun e w' => e = .returned (.bool true) ∧ Below w.heap.size w w' := by
  by_cases a1 : (2147483647 : Int) < s.size
  · go_enter Tryd.func3, Tryd.ntmps3
    go_wp2_with fail
    go_returns
    exact ⟨rfl, Below.refl _ _⟩
  by_cases a2 : (2147483647 : Int) < t.size
  · go_enter Tryd.func3, Tryd.ntmps3
    go_wp2_with fail
    go_returns
    exact ⟨rfl, Below.refl _ _⟩
  by_cases a5 : (65536 : Int) < s.size
  · go_enter Tryd.func3, Tryd.ntmps3
    go_wp2_with fail
    go_returns
    exact ⟨rfl, Below.refl _ _⟩
  by_cases a6 : (65536 : Int) < t.size
  · go_enter Tryd.func3, Tryd.ntmps3
    go_wp2_with fail
    go_returns
    exact ⟨rfl, Below.refl _ _⟩
  have W1 := wellFormed s w hs
  have W2 := wellFormed t w ht
  by_cases b1 : wf s 0 = true
  · rw [b1] at W1
    by_cases b2 : wf t 0 = true
    · rw [b2] at W2
      have hst : (s ++ t).size ≤ 140737488351232 := by rw [ByteArray.size_append]; omega
      have R := rounded_walk (s ++ t) s.size w hst (by rw [ByteArray.size_append]; omega)
      by_cases b3 : rounded (s ++ t) s.size = true
      · rw [b3] at R
        have hl := places_append s t b1 (whole_of b3)
        have l1 := places_le s s.size 0 (0, 0) rfl (Nat.zero_le _) (Nat.le_refl _) (Nat.le_refl _)
        have l2 := places_le t t.size 0 (0, 0) rfl (Nat.zero_le _) (Nat.le_refl _) (Nat.le_refl _)
        have A1 := fun w => advance s w (by omega) b1
        have A2 := fun w => advance t w (by omega) b2
        have PW := fun w => places_walk (s ++ t) w (by rw [ByteArray.size_append]; omega)
        rw [hl] at PW
        obtain ⟨⟨a, b⟩, hp⟩ : ∃ p, p = places s 0 (0, 0) := ⟨_, rfl⟩
        obtain ⟨⟨c, d⟩, hq⟩ : ∃ p, p = places t 0 (0, 0) := ⟨_, rfl⟩
        rw [← hp] at A1 PW l1
        rw [← hq] at A2 PW l2
        simp only at l1 l2 A1 A2 PW
        have AO := fun w => addOffset a b c d w (by omega) (by omega) (by omega) (by omega)
        obtain ⟨⟨e, f⟩, ho⟩ : ∃ p, p = on a b (c, d) := ⟨_, rfl⟩
        rw [← ho] at AO PW
        simp only at AO PW
        have AZ := fun w => addOffset 0 1 0 1 w (by omega) (by omega) (by omega) (by omega)
        rw [show on 0 1 (0, 1) = (0, 2) from rfl] at AZ
        have HA1 := Lib.hid A1
        have HA2 := Lib.hid A2
        have HPW := Lib.hid PW
        have HAO := Lib.hid AO
        have HAZ := Lib.hid AZ
        clear b1 b2 b3 hl hp hq ho A1 A2 PW AO AZ
        go_enter Tryd.func3, Tryd.ntmps3
        go_wp2_with fail
        refine W1.mono ?_
        rintro e1 w1 ⟨rfl, rfl⟩
        go_wp2_with fail
        refine W2.mono ?_
        rintro e1 w1 ⟨rfl, rfl⟩
        go_wp2_with fail
        refine R.mono ?_
        rintro e1 w1 ⟨rfl, rfl⟩
        go_wp2_with fail
        refine (HA1.out _).mono ?_
        rintro e1 w2 ⟨rfl, k2⟩
        have K2 := Lib.hid k2
        clear k2
        go_wp2_with fail
        refine (HA2.out _).mono ?_
        rintro e1 w3 ⟨rfl, k3⟩
        have K3 := Lib.hid (K2.out.trans (k3.mono K2.out.size))
        clear k3
        go_wp2_with fail
        refine (HAO.out _).mono ?_
        rintro e1 w4 ⟨rfl, k4⟩
        have K4 := Lib.hid (K3.out.trans (k4.mono K3.out.size))
        clear k4
        go_wp2_with fail
        refine (HPW.out _).mono ?_
        rintro e1 w5 ⟨rfl, k5⟩
        have K5 := Lib.hid (K4.out.trans (k5.mono K4.out.size))
        clear k5
        go_wp2_with fail
        refine (HAZ.out _).mono ?_
        rintro e1 w6 ⟨rfl, k6⟩
        have q0 := bcell k6 (b := w5.heap.size) (o := 0) (v := some (.int .i64 e)) (by simp) (by simp [go_sem])
        have q1 := bcell k6 (b := w5.heap.size) (o := 1) (v := some (.int .i64 f)) (by simp) (by simp [go_sem])
        have K6 := Lib.hid ((K5.out.alloc K5.out.size _).trans (k6.mono (by have := K5.out.size; simp; omega)))
        clear k6
        go_wp2_with fail
        go_returns
        exact ⟨rfl, K6.out⟩
      · rw [show rounded (s ++ t) s.size = false by simpa using b3] at R
        clear b1 b2 b3
        go_enter Tryd.func3, Tryd.ntmps3
        go_wp2_with fail
        refine W1.mono ?_
        rintro e w1 ⟨rfl, rfl⟩
        go_wp2_with fail
        refine W2.mono ?_
        rintro e w1 ⟨rfl, rfl⟩
        go_wp2_with fail
        refine R.mono ?_
        rintro e w1 ⟨rfl, rfl⟩
        go_wp2_with fail
        go_returns
        exact ⟨rfl, Below.refl _ _⟩
    · rw [show wf t 0 = false by simpa using b2] at W2
      clear b1 b2
      go_enter Tryd.func3, Tryd.ntmps3
      go_wp2_with fail
      refine W1.mono ?_
      rintro e w1 ⟨rfl, rfl⟩
      go_wp2_with fail
      refine W2.mono ?_
      rintro e w1 ⟨rfl, rfl⟩
      go_wp2_with fail
      go_returns
      exact ⟨rfl, Below.refl _ _⟩
  · rw [show wf s 0 = false by simpa using b1] at W1
    clear b1
    go_enter Tryd.func3, Tryd.ntmps3
    go_wp2_with fail
    refine W1.mono ?_
    rintro e w1 ⟨rfl, rfl⟩
    go_wp2_with fail
    go_returns
    exact ⟨rfl, Below.refl _ _⟩
end Go.Proofs.YtjhglhckdjnkgaaDoor.Runes
