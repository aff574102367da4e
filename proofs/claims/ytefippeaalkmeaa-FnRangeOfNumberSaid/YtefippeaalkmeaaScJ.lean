/- The reference's scanner: the next token at a digit. The walk. -/
import Derived.Test.YtefippeaalkmeaaScI
import Derived.Test.YtefippeaalkmeaaHoist
namespace Go.Proofs.Ytefippeaalkmeaa.Scan
open Go.RowKit Go.Proofs.Ytefippeaalkmeaa.Aid Go.Proofs.Ytefippeaalkmeaa.Runes Go.Proofs.Ytefippeaalkmeaa.Bytes Go.Proofs.Ytefippeaalkmeaa.Nats
attribute [local go_sem ↓] Go.wp_at_zero Go.wp_at_succ
set_option linter.unusedVariables false
set_option linter.unusedSimpArgs false
/-- A token with its places. -/
def tokF (K : Int) (T : ByteArray) (n ff tt : Nat) (old : Bool) : List Value := [.int .i64 K, .string T, .string ⟨#[]⟩, .int .u64 n, .int .i64 ff, .int .i64 tt, .bool false, .bool false, .bool old]
theorem size_tokF (K : Int) (T : ByteArray) (n ff tt : Nat) (old : Bool) : (Try.prog.info? 45).map (·.size) = some (tokF K T n ff tt old).length := size45
theorem tokF_zer (K : Int) (T : ByteArray) (n ff tt : Nat) (old : Bool) : (tokF K T n ff tt old).length = zer.length := rfl
theorem tokF_one (K : Int) (T : ByteArray) (n ff tt : Nat) (old : Bool) : ∀ v ∈ tokF K T n ff tt old, v.oneCell' = true := by simp [tokF, Value.oneCell']
/-- What the next token is. -/
def NextPost (s : ByteArray) (p : Nat) (w : World) (e : Ending) (w' : World) : Prop :=
  Below w.heap.size w w' ∧ ∃ (K : Int) (T : ByteArray) (n q : Nat) (old : Bool), e = .returned (.agg (tokF K T n p q old).toArray) ∧ p ≤ q ∧ q ≤ s.size ∧ Seg s p q
set_option maxRecDepth 100000 in
set_option maxHeartbeats 8000000 in
theorem next (s : ByteArray) (p : Nat) (w : World) (hs : s.size ≤ 4096) (hp : p < s.size) (h0 : 48 ≤ byt s p) (h1 : byt s p ≤ 57) :
    Calls Try.prog 10 #[.string s, .int .i64 p, .int .i64 0, .bool false] w (NextPost s p w) := by
  have HP := Lib.hid (fun g w' (hw : Sc w' g s p 0) => scanPass g s p w' hw hs hp h0 h1)
  have HT := Lib.hid (fun g w' (hw : Sc w' g s p 0) => scanToken g s p w' hw hs hp h0 h1)
  have i0 : (p : Int) < s.size := by omega
  clear h0 h1
  go_enter Try.func10, Try.ntmps10
  go_wp2_with fail
  obtain ⟨W0, hW0⟩ : ∃ W0, W0 = (w.alloc (.cells zer.toArray 45)).alloc (.cells #[.string s, .int .i64 p, .bool false, .bool false, .int .i64 0] 52) := ⟨_, rfl⟩
  have HS0 := Lib.hid (show Sc W0 (w.heap.size + 1) s p 0 by
    have := Blk.new (w.alloc (.cells zer.toArray 45)) 52 [.string s, .int .i64 p, .bool false, .bool false, .int .i64 0]
    rw [show (w.alloc (.cells zer.toArray 45)).heap.size = w.heap.size + 1 by simp] at this
    rw [hW0]
    exact this)
  have HZ0 := Lib.hid (show Blk W0 w.heap.size 45 zer by rw [hW0]; exact Blk.alloc (Blk.new w 45 zer) _)
  have HB0 := Lib.hid (show Below w.heap.size w W0 by rw [hW0]; exact below_at (below_at (Below.refl _ _) _) _)
  have hsz0 : W0.heap.size = w.heap.size + 2 := by rw [hW0]; simp
  have HSZ0 := Lib.hid hsz0
  simp only [zer] at hW0
  rw [← hW0]
  clear hW0 hsz0
  refine (HP.out _ _ HS0.out).mono ?_
  rintro e w1 ⟨rfl, n1, rfl⟩
  have HS1 := Lib.hid (Sc.drewN HS0.out n1)
  have HZ1 := Lib.hid (Blk.drewN HZ0.out n1)
  have HB1 := Lib.hid (below_drewN HB0.out n1)
  have HSZ1 := Lib.hid (show (W0.drewN n1).heap.size = w.heap.size + 2 from HSZ0.out)
  obtain ⟨W1, hW1⟩ : ∃ W1, W1 = W0.drewN n1 := ⟨_, rfl⟩
  rw [← hW1] at HS1 HZ1 HB1 HSZ1 ⊢
  clear hW1 HS0 HZ0 HB0 HSZ0
  have c1 := Blk.get HS1.out 1 rfl
  have c4 := Blk.get HS1.out 4 rfl
  have c1' : ∀ o, (W1.alloc o).cell? ⟨w.heap.size + 1, 1, none⟩ = some (.int .i64 p) := fun o => Blk.get (Blk.alloc HS1.out o) 1 rfl
  have c4' : ∀ o, (W1.alloc o).cell? ⟨w.heap.size + 1, 4, none⟩ = some (.int .i64 0) := fun o => Blk.get (Blk.alloc HS1.out o) 4 rfl
  go_upto_region 6 with fail
  have hb2 : Below w.heap.size w (W1.alloc (.cells zer.toArray 45)) := HB1.out.alloc HB1.out.size _
  obtain ⟨W2, hW2⟩ : ∃ W2, W2 = W1.alloc (.cells zer.toArray 45) := ⟨_, rfl⟩
  have HS2 := Lib.hid (show Sc W2 (w.heap.size + 1) s p 0 by rw [hW2]; exact Blk.alloc HS1.out _)
  have HZ2 := Lib.hid (show Blk W2 w.heap.size 45 zer by rw [hW2]; exact Blk.alloc HZ1.out _)
  have HT2 := Lib.hid (show Blk W2 W1.heap.size 45 zer by rw [hW2]; exact Blk.new W1 45 zer)
  have HB2 := Lib.hid (show Below w.heap.size w W2 by rw [hW2]; exact hb2)
  obtain ⟨tb, htb⟩ : ∃ tb, tb = W1.heap.size := ⟨_, rfl⟩
  have HTB := Lib.hid (show tb = w.heap.size + 2 by rw [htb, HSZ1.out])
  have ht1 : tb ≠ w.heap.size + 1 := by have := HTB.out; omega
  have ht0 : tb ≠ w.heap.size := by have := HTB.out; omega
  have htw : w.heap.size ≤ tb := by have := HTB.out; omega
  simp only [zer] at hW2
  rw [← htb] at HT2
  rw [← hW2, ← htb]
  clear hW2 hb2 HS1 HZ1 HB1 HSZ1 c1 c4 c1' c4' htb
  go_wp2_with fail
  refine (HT.out _ _ HS2.out).mono ?_
  rintro e W3 ⟨q, K, T, n, old, rfl, hmv⟩
  have HZ3 := Lib.hid (Blk.grown HZ2.out hmv.1 (by intro e; injection e with e; omega))
  have HT3 := Lib.hid (Blk.grown HT2.out hmv.1 (by intro e; injection e with e; omega))
  have HB3 := Lib.hid (HB2.out.grown hmv.1 HB2.out.size (fun k hk => by injection hk with hk; omega))
  obtain ⟨-, hpq, hqs, hseg, b, hs3, hb0, hb2⟩ := hmv
  have HS3 := Lib.hid hs3
  have HSEG := Lib.hid hseg
  clear hs3 hseg HZ2 HB2 HT2 HS2
  go_wp2_with (with_reducible refine wpList_store_blk rfl 45 (.tmp 11) (.tmp 40) rfl tb (zer) (tk K T n old) 45 rfl rfl HT3.out (tk_zer _ _ _ _) (size_tk _ _ _ _) (tk_one _ _ _ _) ?_)
  intro W4 H4 G4 S4
  have HT4 := Lib.hid H4
  have HS4 := Lib.hid (Blk.grown HS3.out G4 (by intro e; injection e with e; omega))
  have HZ4 := Lib.hid (Blk.grown HZ3.out G4 (by intro e; injection e with e; omega))
  have HB4 := Lib.hid (HB3.out.grown G4 HB3.out.size (fun k hk => by injection hk with hk; omega))
  clear G4 H4 HT3 HS3 HZ3 HB3
  have c4 := Blk.get HS4.out 4 rfl
  obtain ⟨z, hz⟩ : ∃ z, (b != 0) = z := ⟨_, rfl⟩
  go_upto_if 45 with fail
  clear hz
  go_cut [] (fun wx => ∃ (K : Int) (T : ByteArray) (n : Nat) (old : Bool), Blk wx tb 45 (tk K T n old) ∧ Blk wx (w.heap.size + 1) 52 [.string s, .int .i64 q, .bool false, .bool false, .int .i64 b] ∧ Blk wx w.heap.size 45 zer ∧ Below w.heap.size w wx)
  case first =>
    cases z with
    | true =>
      go_wp2_with (with_reducible refine wpList_store_blk rfl 45 (.tmp 11) (.tmp 50) rfl tb (tk K T n old) (tk b ⟨#[]⟩ 0 false) 45 rfl rfl HT4.out rfl (size_tk _ _ _ _) (tk_one _ _ _ _) ?_)
      intro W5 H5 G5 S5
      have HT5 := Lib.hid H5
      have HS5 := Lib.hid (Blk.grown HS4.out G5 (by intro e; injection e with e; omega))
      have HZ5 := Lib.hid (Blk.grown HZ4.out G5 (by intro e; injection e with e; omega))
      have HB5 := Lib.hid (HB4.out.grown G5 HB4.out.size (fun k hk => by injection hk with hk; omega))
      clear G5 H5 HT4 HS4 HZ4 HB4
      go_wp2_with fail
      go_meet
      exact ⟨b, ⟨#[]⟩, 0, false, HT5.out, HS5.out, HZ5.out, HB5.out⟩
    | false =>
      go_wp2_with fail
      go_meet
      exact ⟨K, T, n, old, HT4.out, HS4.out, HZ4.out, HB4.out⟩
  case rest =>
    obtain ⟨K, T, n, old, ht5, hs5, hz5, hb5⟩ := hcut
    have HT5 := Lib.hid ht5
    have HS5 := Lib.hid (show Sc wc (w.heap.size + 1) s q b from hs5)
    have HZ5 := Lib.hid hz5
    have HB5 := Lib.hid hb5
    clear ht5 hs5 hz5 hb5 HT4 HS4 HZ4 HB4 c4
    obtain ⟨W5, rfl⟩ : ∃ W, W = wc := ⟨_, rfl⟩
    go_upto_region 9 with fail
    have c1 := Blk.get HS5.out 1 rfl
    have c3 := Blk.get HS5.out 3 rfl
    have t4 := Blk.get HT5.out 4 rfl
    have t5 := Blk.get HT5.out 5 rfl
    have t6 := Blk.get HT5.out 6 rfl
    have g4 := Blk.frozen HT5.out 4
    have g5 := Blk.frozen HT5.out 5
    have g6 := Blk.frozen HT5.out 6
    refine Hoist.start (S := fun _ => fun w' : World => (w'.cell? ⟨w.heap.size + 1, 1, none⟩ = some (.int .i64 ((q : Nat) : Int)) ∧ w'.cell? ⟨w.heap.size + 1, 3, none⟩ = some (.bool false))) (by kernel_rfl) ?_
    refine Hoist.take (i := 0) (T := fun w' : World => (w'.cell? ⟨w.heap.size + 1, 1, none⟩ = some (.int .i64 ((q : Nat) : Int)) ∧ w'.cell? ⟨w.heap.size + 1, 3, none⟩ = some (.bool false))) (G := fun _ => True) (v := ?va0) rfl (by kernel_rfl) (by kernel_rfl) (by kernel_rfl) (fun _ _ _ h => h) (fun _ _ h => h) (fun _ _ _ _ _ _ => trivial) (fun _ _ _ h => h) trivial (Or.inl ⟨by rfl, ?ha0⟩) ⟨c1, c3⟩ ?ra0
    case ha0 =>
      intro w' hSw
      obtain ⟨s1, s3⟩ := hSw
      go_simp
      rfl
    simp only [Act.put, List.setIfInBounds_toArray, List.set_cons_zero, List.set_cons_succ]
    refine Hoist.take (i := 1) (T := fun w' : World => (w'.cell? ⟨w.heap.size + 1, 1, none⟩ = some (.int .i64 ((q : Nat) : Int)) ∧ w'.cell? ⟨w.heap.size + 1, 3, none⟩ = some (.bool false))) (G := fun _ => True) (v := ?va1) rfl (by kernel_rfl) (by kernel_rfl) (by kernel_rfl) (fun _ _ _ h => h) (fun _ _ h => h) (fun _ _ _ _ _ _ => trivial) (fun _ _ _ h => h) trivial (Or.inl ⟨by rfl, ?ha1⟩) ⟨c1, c3⟩ ?ra1
    case ha1 =>
      intro w' hSw
      obtain ⟨s1, s3⟩ := hSw
      go_simp
      rfl
    simp only [Act.put, List.setIfInBounds_toArray, List.set_cons_zero, List.set_cons_succ]
    refine Hoist.take (i := 2) (T := fun w' : World => (w'.cell? ⟨w.heap.size + 1, 1, none⟩ = some (.int .i64 ((q : Nat) : Int)) ∧ w'.cell? ⟨w.heap.size + 1, 3, none⟩ = some (.bool false))) (G := fun _ => True) (v := ?va2) rfl (by kernel_rfl) (by kernel_rfl) (by kernel_rfl) (fun _ _ _ h => h) (fun _ _ h => h) (fun _ _ _ _ _ _ => trivial) (fun _ _ _ h => h) trivial (Or.inl ⟨by rfl, ?ha2⟩) ⟨c1, c3⟩ ?ra2
    case ha2 =>
      intro w' hSw
      obtain ⟨s1, s3⟩ := hSw
      go_simp
      rfl
    simp only [Act.put, List.setIfInBounds_toArray, List.set_cons_zero, List.set_cons_succ]
    refine Hoist.take (i := 3) (T := fun w' : World => (w'.cell? ⟨w.heap.size + 1, 1, none⟩ = some (.int .i64 ((q : Nat) : Int)) ∧ w'.cell? ⟨w.heap.size + 1, 3, none⟩ = some (.bool false))) (G := fun _ => True) (v := ?va3) rfl (by kernel_rfl) (by kernel_rfl) (by kernel_rfl) (fun _ _ _ h => h) (fun _ _ h => h) (fun _ _ _ _ _ _ => trivial) (fun _ _ _ h => h) trivial (Or.inl ⟨by rfl, ?ha3⟩) ⟨c1, c3⟩ ?ra3
    case ha3 =>
      intro w' hSw
      obtain ⟨s1, s3⟩ := hSw
      go_simp
      rfl
    simp only [Act.put, List.setIfInBounds_toArray, List.set_cons_zero, List.set_cons_succ]
    refine Hoist.take (i := 4) (T := fun w' : World => (w'.cell? ⟨w.heap.size + 1, 1, none⟩ = some (.int .i64 ((q : Nat) : Int)) ∧ w'.cell? ⟨w.heap.size + 1, 3, none⟩ = some (.bool false))) (G := fun _ => True) (v := ?va4) rfl (by kernel_rfl) (by kernel_rfl) (by kernel_rfl) (fun _ _ _ h => h) (fun _ _ h => h) (fun _ _ _ _ _ _ => trivial) (fun _ _ _ h => h) trivial (Or.inl ⟨by rfl, ?ha4⟩) ⟨c1, c3⟩ ?ra4
    case ha4 =>
      intro w' hSw
      obtain ⟨s1, s3⟩ := hSw
      go_simp
      rfl
    simp only [Act.put, List.setIfInBounds_toArray, List.set_cons_zero, List.set_cons_succ]
    refine Hoist.take (i := 5) (T := fun w' : World => (w'.cell? ⟨w.heap.size + 1, 1, none⟩ = some (.int .i64 ((q : Nat) : Int)) ∧ w'.cell? ⟨w.heap.size + 1, 3, none⟩ = some (.bool false))) (G := fun _ => True) (v := ?va5) rfl (by kernel_rfl) (by kernel_rfl) (by kernel_rfl) (fun _ _ _ h => h) (fun _ _ h => h) (fun _ _ _ _ _ _ => trivial) (fun _ _ _ h => h) trivial (Or.inl ⟨by rfl, ?ha5⟩) ⟨c1, c3⟩ ?ra5
    case ha5 =>
      intro w' hSw
      obtain ⟨s1, s3⟩ := hSw
      go_simp
      rfl
    simp only [Act.put, List.setIfInBounds_toArray, List.set_cons_zero, List.set_cons_succ]
    refine Hoist.take (i := 6) (T := fun w' : World => (w'.cell? ⟨w.heap.size + 1, 1, none⟩ = some (.int .i64 ((q : Nat) : Int)) ∧ w'.cell? ⟨w.heap.size + 1, 3, none⟩ = some (.bool false))) (G := fun _ => True) (v := ?va6) rfl (by kernel_rfl) (by kernel_rfl) (by kernel_rfl) (fun _ _ _ h => h) (fun _ _ h => h) (fun _ _ _ _ _ _ => trivial) (fun _ _ _ h => h) trivial (Or.inl ⟨by rfl, ?ha6⟩) ⟨c1, c3⟩ ?ra6
    case ha6 =>
      intro w' hSw
      obtain ⟨s1, s3⟩ := hSw
      go_simp
      rfl
    simp only [Act.put, List.setIfInBounds_toArray, List.set_cons_zero, List.set_cons_succ]
    refine Hoist.take (i := 7) (T := fun w' : World => (w'.cell? ⟨w.heap.size + 1, 1, none⟩ = some (.int .i64 ((q : Nat) : Int)) ∧ w'.cell? ⟨w.heap.size + 1, 3, none⟩ = some (.bool false))) (G := fun _ => True) (v := ?va7) rfl (by kernel_rfl) (by kernel_rfl) (by kernel_rfl) (fun _ _ _ h => h) (fun _ _ h => h) (fun _ _ _ _ _ _ => trivial) (fun _ _ _ h => h) trivial (Or.inl ⟨by rfl, ?ha7⟩) ⟨c1, c3⟩ ?ra7
    case ha7 =>
      intro w' hSw
      obtain ⟨s1, s3⟩ := hSw
      go_simp
      rfl
    simp only [Act.put, List.setIfInBounds_toArray, List.set_cons_zero, List.set_cons_succ]
    refine Hoist.take (i := 8) (T := fun w' : World => (w'.cell? ⟨w.heap.size + 1, 1, none⟩ = some (.int .i64 ((q : Nat) : Int)) ∧ w'.cell? ⟨w.heap.size + 1, 3, none⟩ = some (.bool false))) (G := fun _ => True) (v := ?va8) rfl (by kernel_rfl) (by kernel_rfl) (by kernel_rfl) (fun _ _ _ h => h) (fun _ _ h => h) (fun _ _ _ _ _ _ => trivial) (fun _ _ _ h => h) trivial (Or.inl ⟨by rfl, ?ha8⟩) ⟨c1, c3⟩ ?ra8
    case ha8 =>
      intro w' hSw
      obtain ⟨s1, s3⟩ := hSw
      go_simp
      rfl
    simp only [Act.put, List.setIfInBounds_toArray, List.set_cons_zero, List.set_cons_succ]
    have k1 := Lib.hid (Blk.far HS5.out (p := ⟨tb, 4, none⟩) (by show w.heap.size + 1 ≠ tb; omega) (.int .i64 ((p : Nat) : Int)))
    have k2 := Lib.hid (Blk.far (Blk.far HS5.out (p := ⟨tb, 4, none⟩) (by show w.heap.size + 1 ≠ tb; omega) (.int .i64 ((p : Nat) : Int))) (p := ⟨tb, 5, none⟩) (by show w.heap.size + 1 ≠ tb; omega) (.int .i64 ((q : Nat) : Int)))
    have k3 := Lib.hid (Blk.far (Blk.far (Blk.far HS5.out (p := ⟨tb, 4, none⟩) (by show w.heap.size + 1 ≠ tb; omega) (.int .i64 ((p : Nat) : Int))) (p := ⟨tb, 5, none⟩) (by show w.heap.size + 1 ≠ tb; omega) (.int .i64 ((q : Nat) : Int))) (p := ⟨tb, 6, none⟩) (by show w.heap.size + 1 ≠ tb; omega) (.bool false))
    refine Hoist.only (i := 9) rfl (by kernel_rfl) ?_
    intro K' hK
    go_simp
    refine hK _ _ ⟨c1, c3⟩ ?_
    clear hK K'
    refine Hoist.only (i := 10) rfl (by kernel_rfl) ?_
    intro K' hK
    go_simp
    refine hK _ _ ⟨Blk.get k1.out 1 rfl, Blk.get k1.out 3 rfl⟩ ?_
    clear hK K'
    refine Hoist.only (i := 11) rfl (by kernel_rfl) ?_
    intro K' hK
    go_simp
    refine hK _ _ ⟨Blk.get k1.out 1 rfl, Blk.get k1.out 3 rfl⟩ ?_
    clear hK K'
    refine Hoist.only (i := 12) rfl (by kernel_rfl) ?_
    intro K' hK
    go_simp
    refine hK _ _ ⟨Blk.get k2.out 1 rfl, Blk.get k2.out 3 rfl⟩ ?_
    clear hK K'
    refine Hoist.only (i := 13) rfl (by kernel_rfl) ?_
    intro K' hK
    go_simp
    refine hK _ _ ⟨Blk.get k2.out 1 rfl, Blk.get k2.out 3 rfl⟩ ?_
    clear hK K'
    refine Hoist.only (i := 14) rfl (by kernel_rfl) ?_
    intro K' hK
    go_simp
    refine hK _ _ ⟨Blk.get k3.out 1 rfl, Blk.get k3.out 3 rfl⟩ ?_
    clear hK K'
    refine Hoist.over (by kernel_rfl) ?_ _
    obtain ⟨V, hV⟩ : ∃ V, V = (((W5.setCell ⟨tb, 4, none⟩ (.int .i64 ((p : Nat) : Int))).setCell ⟨tb, 5, none⟩ (.int .i64 ((q : Nat) : Int))).setCell ⟨tb, 6, none⟩ (.bool false)).drew := ⟨_, rfl⟩
    have HTV := Lib.hid (show Blk V tb 45 (tokF K T n p q old) by rw [hV]; exact Blk.drew (Blk.set_ (Blk.set_ (Blk.set_ HT5.out 4 _) 5 _) 6 _))
    have HZV := Lib.hid (show Blk V w.heap.size 45 zer by rw [hV]; exact Blk.drew (Blk.far (Blk.far (Blk.far HZ5.out (p := ⟨tb, 4, none⟩) (by show w.heap.size ≠ tb; omega) _) (p := ⟨tb, 5, none⟩) (by show w.heap.size ≠ tb; omega) _) (p := ⟨tb, 6, none⟩) (by show w.heap.size ≠ tb; omega) _))
    have HBV := Lib.hid (show Below w.heap.size w V by rw [hV]; exact ((((HB5.out).setCell (p := ⟨tb, 4, none⟩) htw _).setCell (p := ⟨tb, 5, none⟩) htw _).setCell (p := ⟨tb, 6, none⟩) htw _).drew)
    rw [← hV]
    clear hV c1 c3 t4 t5 t6 g4 g5 g6 k1 k2 k3 HT5 HS5 HZ5 HB5
    go_wp2_with (first
      | (with_reducible refine wpList_load_blk rfl 45 (.tmp 11) rfl tb rfl 45 (tokF K T n p q old) _ HTV.out Try.underlying45 rfl (size_tokF _ _ _ _ _ _) ?_)
      | (with_reducible refine wpList_store_blk rfl 45 (.tmp 8) (.tmp 63) rfl w.heap.size zer (tokF K T n p q old) 45 rfl rfl HZV.out (tokF_zer _ _ _ _ _ _) (size_tokF _ _ _ _ _ _) (tokF_one _ _ _ _ _ _) ?_))
    intro V2 H2 G2 S2
    have HBF := Lib.hid (HBV.out.grown G2 HBV.out.size (fun k hk => by injection hk with hk; omega))
    clear G2
    go_wp2_with fail
    refine bodyPost_ret (results_cell_row Try.results10 _ _ w.heap.size 45 _ (0, 0) _ rfl H2 Try.underlying45 rfl size45) rfl ⟨HBF.out, K, T, n, q, old, rfl, hpq, hqs, HSEG.out⟩
end Go.Proofs.Ytefippeaalkmeaa.Scan
