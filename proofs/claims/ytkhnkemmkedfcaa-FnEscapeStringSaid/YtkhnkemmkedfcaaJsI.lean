/- The reference's scanner: the next token. The walk. -/
import Derived.Test.YtkhnkemmkedfcaaJsH
namespace Go.Proofs.Ytkhnkemmkedfcaa.Js
open Go.RowKit Go.Proofs.Ytkhnkemmkedfcaa.Aid Go.Proofs.Ytkhnkemmkedfcaa.Runes Go.Proofs.Ytkhnkemmkedfcaa.Bytes Go.Proofs.Ytkhnkemmkedfcaa.Wtf Go.Proofs.Ytkhnkemmkedfcaa.Esc
attribute [local go_sem ↓] Go.wp_at_zero Go.wp_at_succ
set_option linter.unusedVariables false
set_option linter.unusedSimpArgs false
/-- A token with its places. -/
def tokF (k : Int) (text more : ByteArray) (tt : Nat) (old : Bool) : List Value := [.int .i64 k, .string text, .string more, .int .u64 0, .int .i64 0, .int .i64 tt, .bool false, .bool false, .bool old]
theorem size_tokF (k : Int) (T M : ByteArray) (tt : Nat) (old : Bool) : (Try.prog.info? 37).map (·.size) = some (tokF k T M tt old).length := size37
theorem tokF_zer (k : Int) (T M : ByteArray) (tt : Nat) (old : Bool) : (tokF k T M tt old).length = zer.length := rfl
theorem tokF_one (k : Int) (T M : ByteArray) (tt : Nat) (old : Bool) : ∀ v ∈ tokF k T M tt old, v.oneCell' = true := by simp [tokF, Value.oneCell']
/-- What the next token is. -/
def NextPost (O : Option (List Nat)) (s : ByteArray) (w : World) (e : Ending) (w' : World) : Prop :=
  Below w.heap.size w w' ∧ match O with
  | some us => ∃ M : ByteArray, e = .returned (.agg (tokF 8 (str (ub us)) M s.size false).toArray)
  | none => ∃ (k : Int) (T M : ByteArray) (tt : Nat) (old : Bool), e = .returned (.agg (tokF k T M tt old).toArray) ∧ (k ≠ 8 ∨ old = true ∨ tt ≠ s.size)
theorem blk_eq {w : World} {g : Nat} {t : TypeId} {cs ds : List Value} (h : Blk w g t cs) (e : cs = ds) : Blk w g t ds := e ▸ h
set_option maxRecDepth 100000 in
set_option maxHeartbeats 4000000 in
theorem next (s : ByteArray) (w : World) (hs : s.size ≤ 34359738368) (h0 : 0 < s.size) (hb0 : byt s 0 = 34) :
    Calls Try.prog 17 #[.string s, .int .i64 0, .int .i64 0, .bool false] w (NextPost (js ((nats s).drop 1)) s w) := by
  have HP := Lib.hid (fun g w' (hw : Sc w' g s 0 0) => pass g s w' hw hs h0 hb0)
  have HT := Lib.hid (fun g w' (hw : Sc w' g s 0 0) => token g s w' hw hs h0 hb0)
  obtain ⟨O, hO⟩ : ∃ O, O = js ((nats s).drop 1) := ⟨_, rfl⟩
  rw [← hO] at HT ⊢
  have i0 : (0 : Int) < s.size := by omega
  clear hO hb0
  go_enter Try.func17, Try.ntmps17
  go_wp2_with fail
  obtain ⟨W0, hW0⟩ : ∃ W0, W0 = (w.alloc (.cells zer.toArray 37)).alloc (.cells #[.string s, .int .i64 0, .bool false, .bool false, .int .i64 0] 54) := ⟨_, rfl⟩
  have HS0 := Lib.hid (show Sc W0 (w.heap.size + 1) s 0 0 by
    have := Blk.new (w.alloc (.cells zer.toArray 37)) 54 [.string s, .int .i64 0, .bool false, .bool false, .int .i64 0]
    rw [show (w.alloc (.cells zer.toArray 37)).heap.size = w.heap.size + 1 by simp] at this
    rw [hW0]
    exact this)
  have HZ0 := Lib.hid (show Blk W0 w.heap.size 37 zer by rw [hW0]; exact Blk.alloc (Blk.new w 37 zer) _)
  have HB0 := Lib.hid (show Below w.heap.size w W0 by rw [hW0]; exact below_at (below_at (Below.refl _ _) _) _)
  have hsz0 : W0.heap.size = w.heap.size + 2 := by rw [hW0]; simp
  have HSZ0 := Lib.hid hsz0
  simp only [zer] at hW0
  rw [← hW0]
  clear hW0 hsz0
  refine (HP.out _ _ HS0.out).mono ?_
  rintro e w1 ⟨rfl, n1, rfl⟩
  have HS1 := Lib.hid (Sc.drewN HS0.out n1)
  have HZ1 := Lib.hid (Blk.drewN HZ0.out n1)
  have HB1 := Lib.hid (below_drewN HB0.out n1)
  have HSZ1 := Lib.hid (show (W0.drewN n1).heap.size = w.heap.size + 2 from HSZ0.out)
  obtain ⟨W1, hW1⟩ : ∃ W1, W1 = W0.drewN n1 := ⟨_, rfl⟩
  rw [← hW1] at HS1 HZ1 HB1 HSZ1 ⊢
  clear hW1 HS0 HZ0 HB0 HSZ0
  have c1 := Blk.get HS1.out 1 rfl
  have c4 := Blk.get HS1.out 4 rfl
  have c1' : ∀ o, (W1.alloc o).cell? ⟨w.heap.size + 1, 1, none⟩ = some (.int .i64 0) := fun o => Blk.get (Blk.alloc HS1.out o) 1 rfl
  have c4' : ∀ o, (W1.alloc o).cell? ⟨w.heap.size + 1, 4, none⟩ = some (.int .i64 0) := fun o => Blk.get (Blk.alloc HS1.out o) 4 rfl
  go_upto_region 6 with fail
  have hb2 : Below w.heap.size w (W1.alloc (.cells zer.toArray 37)) := HB1.out.alloc HB1.out.size _
  obtain ⟨W2, hW2⟩ : ∃ W2, W2 = W1.alloc (.cells zer.toArray 37) := ⟨_, rfl⟩
  have HS2 := Lib.hid (show Sc W2 (w.heap.size + 1) s 0 0 by rw [hW2]; exact Blk.alloc HS1.out _)
  have HZ2 := Lib.hid (show Blk W2 w.heap.size 37 zer by rw [hW2]; exact Blk.alloc HZ1.out _)
  have HT2 := Lib.hid (show Blk W2 W1.heap.size 37 zer by rw [hW2]; exact Blk.new W1 37 zer)
  have HB2 := Lib.hid (show Below w.heap.size w W2 by rw [hW2]; exact hb2)
  obtain ⟨tb, htb⟩ : ∃ tb, tb = W1.heap.size := ⟨_, rfl⟩
  have HTB := Lib.hid (show tb = w.heap.size + 2 by rw [htb, HSZ1.out])
  have ht1 : tb ≠ w.heap.size + 1 := by have := HTB.out; omega
  have ht0 : tb ≠ w.heap.size := by have := HTB.out; omega
  have htw : w.heap.size ≤ tb := by have := HTB.out; omega
  simp only [zer] at hW2
  rw [← htb] at HT2
  rw [← hW2, ← htb]
  clear hW2 hb2 HS1 HZ1 HB1 HSZ1 c1 c4 c1' c4' htb
  go_wp2_with fail
  refine (HT.out _ _ HS2.out).mono ?_
  rintro e W3 ⟨hg3, hpost⟩
  have HZ3 := Lib.hid (Blk.grown HZ2.out hg3 (by intro e; injection e with e; omega))
  have HT3 := Lib.hid (Blk.grown HT2.out hg3 (by intro e; injection e with e; omega))
  have HB3 := Lib.hid (HB2.out.grown hg3 HB2.out.size (fun k hk => by injection hk with hk; omega))
  clear hg3 HZ2 HB2 HT2 HS2
  cases O with
  | some us =>
    obtain ⟨M, rfl, hs3⟩ := hpost
    have HS3 := Lib.hid hs3
    clear hs3
    go_wp2_with (with_reducible refine wpList_store_blk rfl 37 (.tmp 11) (.tmp 40) rfl tb (zer) (tok (str (ub us)) M false) 37 rfl rfl HT3.out (tok_zer _ _ _) (size_tok _ _ _) (tok_one _ _ _) ?_)
    intro W4 H4 G4 S4
    have HT4 := Lib.hid H4
    have HS4 := Lib.hid (Blk.grown HS3.out G4 (by intro e; injection e with e; omega))
    have HZ4 := Lib.hid (Blk.grown HZ3.out G4 (by intro e; injection e with e; omega))
    have HB4 := Lib.hid (HB3.out.grown G4 HB3.out.size (fun k hk => by injection hk with hk; omega))
    clear G4 H4 HT3 HS3 HZ3 HB3
    have c4 := Blk.get HS4.out 4 rfl
    go_upto_region 9 with fail
    clear c4
    have c1 := Blk.get HS4.out 1 rfl
    have c3 := Blk.get HS4.out 3 rfl
    have t4 := Blk.get HT4.out 4 rfl
    have t5 := Blk.get HT4.out 5 rfl
    have t6 := Blk.get HT4.out 6 rfl
    have g4 := Blk.frozen HT4.out 4
    have g5 := Blk.frozen HT4.out 5
    have g6 := Blk.frozen HT4.out 6
    refine Hoist.start (S := fun _ => fun w' : World => (w'.cell? ⟨w.heap.size + 1, 1, none⟩ = some (.int .i64 ((s.size : Nat) : Int)) ∧ w'.cell? ⟨w.heap.size + 1, 3, none⟩ = some (.bool false))) (by kernel_rfl) ?_
    refine Hoist.take (i := 0) (T := fun w' : World => (w'.cell? ⟨w.heap.size + 1, 1, none⟩ = some (.int .i64 ((s.size : Nat) : Int)) ∧ w'.cell? ⟨w.heap.size + 1, 3, none⟩ = some (.bool false))) (G := fun _ => True) (v := ?va0) rfl (by kernel_rfl) (by kernel_rfl) (by kernel_rfl) (fun _ _ _ h => h) (fun _ _ h => h) (fun _ _ _ _ _ _ => trivial) (fun _ _ _ h => h) trivial (Or.inl ⟨by rfl, ?ha0⟩) ⟨c1, c3⟩ ?ra0
    case ha0 =>
      intro w' hSw
      obtain ⟨s1, s3⟩ := hSw
      go_simp
      rfl
    simp only [Act.put, List.setIfInBounds_toArray, List.set_cons_zero, List.set_cons_succ]
    refine Hoist.take (i := 1) (T := fun w' : World => (w'.cell? ⟨w.heap.size + 1, 1, none⟩ = some (.int .i64 ((s.size : Nat) : Int)) ∧ w'.cell? ⟨w.heap.size + 1, 3, none⟩ = some (.bool false))) (G := fun _ => True) (v := ?va1) rfl (by kernel_rfl) (by kernel_rfl) (by kernel_rfl) (fun _ _ _ h => h) (fun _ _ h => h) (fun _ _ _ _ _ _ => trivial) (fun _ _ _ h => h) trivial (Or.inl ⟨by rfl, ?ha1⟩) ⟨c1, c3⟩ ?ra1
    case ha1 =>
      intro w' hSw
      obtain ⟨s1, s3⟩ := hSw
      go_simp
      rfl
    simp only [Act.put, List.setIfInBounds_toArray, List.set_cons_zero, List.set_cons_succ]
    refine Hoist.take (i := 2) (T := fun w' : World => (w'.cell? ⟨w.heap.size + 1, 1, none⟩ = some (.int .i64 ((s.size : Nat) : Int)) ∧ w'.cell? ⟨w.heap.size + 1, 3, none⟩ = some (.bool false))) (G := fun _ => True) (v := ?va2) rfl (by kernel_rfl) (by kernel_rfl) (by kernel_rfl) (fun _ _ _ h => h) (fun _ _ h => h) (fun _ _ _ _ _ _ => trivial) (fun _ _ _ h => h) trivial (Or.inl ⟨by rfl, ?ha2⟩) ⟨c1, c3⟩ ?ra2
    case ha2 =>
      intro w' hSw
      obtain ⟨s1, s3⟩ := hSw
      go_simp
      rfl
    simp only [Act.put, List.setIfInBounds_toArray, List.set_cons_zero, List.set_cons_succ]
    refine Hoist.take (i := 3) (T := fun w' : World => (w'.cell? ⟨w.heap.size + 1, 1, none⟩ = some (.int .i64 ((s.size : Nat) : Int)) ∧ w'.cell? ⟨w.heap.size + 1, 3, none⟩ = some (.bool false))) (G := fun _ => True) (v := ?va3) rfl (by kernel_rfl) (by kernel_rfl) (by kernel_rfl) (fun _ _ _ h => h) (fun _ _ h => h) (fun _ _ _ _ _ _ => trivial) (fun _ _ _ h => h) trivial (Or.inl ⟨by rfl, ?ha3⟩) ⟨c1, c3⟩ ?ra3
    case ha3 =>
      intro w' hSw
      obtain ⟨s1, s3⟩ := hSw
      go_simp
      rfl
    simp only [Act.put, List.setIfInBounds_toArray, List.set_cons_zero, List.set_cons_succ]
    refine Hoist.take (i := 4) (T := fun w' : World => (w'.cell? ⟨w.heap.size + 1, 1, none⟩ = some (.int .i64 ((s.size : Nat) : Int)) ∧ w'.cell? ⟨w.heap.size + 1, 3, none⟩ = some (.bool false))) (G := fun _ => True) (v := ?va4) rfl (by kernel_rfl) (by kernel_rfl) (by kernel_rfl) (fun _ _ _ h => h) (fun _ _ h => h) (fun _ _ _ _ _ _ => trivial) (fun _ _ _ h => h) trivial (Or.inl ⟨by rfl, ?ha4⟩) ⟨c1, c3⟩ ?ra4
    case ha4 =>
      intro w' hSw
      obtain ⟨s1, s3⟩ := hSw
      go_simp
      rfl
    simp only [Act.put, List.setIfInBounds_toArray, List.set_cons_zero, List.set_cons_succ]
    refine Hoist.take (i := 5) (T := fun w' : World => (w'.cell? ⟨w.heap.size + 1, 1, none⟩ = some (.int .i64 ((s.size : Nat) : Int)) ∧ w'.cell? ⟨w.heap.size + 1, 3, none⟩ = some (.bool false))) (G := fun _ => True) (v := ?va5) rfl (by kernel_rfl) (by kernel_rfl) (by kernel_rfl) (fun _ _ _ h => h) (fun _ _ h => h) (fun _ _ _ _ _ _ => trivial) (fun _ _ _ h => h) trivial (Or.inl ⟨by rfl, ?ha5⟩) ⟨c1, c3⟩ ?ra5
    case ha5 =>
      intro w' hSw
      obtain ⟨s1, s3⟩ := hSw
      go_simp
      rfl
    simp only [Act.put, List.setIfInBounds_toArray, List.set_cons_zero, List.set_cons_succ]
    refine Hoist.take (i := 6) (T := fun w' : World => (w'.cell? ⟨w.heap.size + 1, 1, none⟩ = some (.int .i64 ((s.size : Nat) : Int)) ∧ w'.cell? ⟨w.heap.size + 1, 3, none⟩ = some (.bool false))) (G := fun _ => True) (v := ?va6) rfl (by kernel_rfl) (by kernel_rfl) (by kernel_rfl) (fun _ _ _ h => h) (fun _ _ h => h) (fun _ _ _ _ _ _ => trivial) (fun _ _ _ h => h) trivial (Or.inl ⟨by rfl, ?ha6⟩) ⟨c1, c3⟩ ?ra6
    case ha6 =>
      intro w' hSw
      obtain ⟨s1, s3⟩ := hSw
      go_simp
      rfl
    simp only [Act.put, List.setIfInBounds_toArray, List.set_cons_zero, List.set_cons_succ]
    refine Hoist.take (i := 7) (T := fun w' : World => (w'.cell? ⟨w.heap.size + 1, 1, none⟩ = some (.int .i64 ((s.size : Nat) : Int)) ∧ w'.cell? ⟨w.heap.size + 1, 3, none⟩ = some (.bool false))) (G := fun _ => True) (v := ?va7) rfl (by kernel_rfl) (by kernel_rfl) (by kernel_rfl) (fun _ _ _ h => h) (fun _ _ h => h) (fun _ _ _ _ _ _ => trivial) (fun _ _ _ h => h) trivial (Or.inl ⟨by rfl, ?ha7⟩) ⟨c1, c3⟩ ?ra7
    case ha7 =>
      intro w' hSw
      obtain ⟨s1, s3⟩ := hSw
      go_simp
      rfl
    simp only [Act.put, List.setIfInBounds_toArray, List.set_cons_zero, List.set_cons_succ]
    refine Hoist.take (i := 8) (T := fun w' : World => (w'.cell? ⟨w.heap.size + 1, 1, none⟩ = some (.int .i64 ((s.size : Nat) : Int)) ∧ w'.cell? ⟨w.heap.size + 1, 3, none⟩ = some (.bool false))) (G := fun _ => True) (v := ?va8) rfl (by kernel_rfl) (by kernel_rfl) (by kernel_rfl) (fun _ _ _ h => h) (fun _ _ h => h) (fun _ _ _ _ _ _ => trivial) (fun _ _ _ h => h) trivial (Or.inl ⟨by rfl, ?ha8⟩) ⟨c1, c3⟩ ?ra8
    case ha8 =>
      intro w' hSw
      obtain ⟨s1, s3⟩ := hSw
      go_simp
      rfl
    simp only [Act.put, List.setIfInBounds_toArray, List.set_cons_zero, List.set_cons_succ]
    have k1 := Lib.hid (Blk.far HS4.out (p := ⟨tb, 4, none⟩) (by show w.heap.size + 1 ≠ tb; omega) (.int .i64 0))
    have k2 := Lib.hid (Blk.far (Blk.far HS4.out (p := ⟨tb, 4, none⟩) (by show w.heap.size + 1 ≠ tb; omega) (.int .i64 0)) (p := ⟨tb, 5, none⟩) (by show w.heap.size + 1 ≠ tb; omega) (.int .i64 ((s.size : Nat) : Int)))
    have k3 := Lib.hid (Blk.far (Blk.far (Blk.far HS4.out (p := ⟨tb, 4, none⟩) (by show w.heap.size + 1 ≠ tb; omega) (.int .i64 0)) (p := ⟨tb, 5, none⟩) (by show w.heap.size + 1 ≠ tb; omega) (.int .i64 ((s.size : Nat) : Int))) (p := ⟨tb, 6, none⟩) (by show w.heap.size + 1 ≠ tb; omega) (.bool false))
    refine Hoist.only (i := 9) rfl (by kernel_rfl) ?_
    intro K hK
    go_simp
    refine hK _ _ ⟨c1, c3⟩ ?_
    clear hK K
    refine Hoist.only (i := 10) rfl (by kernel_rfl) ?_
    intro K hK
    go_simp
    refine hK _ _ ⟨Blk.get k1.out 1 rfl, Blk.get k1.out 3 rfl⟩ ?_
    clear hK K
    refine Hoist.only (i := 11) rfl (by kernel_rfl) ?_
    intro K hK
    go_simp
    refine hK _ _ ⟨Blk.get k1.out 1 rfl, Blk.get k1.out 3 rfl⟩ ?_
    clear hK K
    refine Hoist.only (i := 12) rfl (by kernel_rfl) ?_
    intro K hK
    go_simp
    refine hK _ _ ⟨Blk.get k2.out 1 rfl, Blk.get k2.out 3 rfl⟩ ?_
    clear hK K
    refine Hoist.only (i := 13) rfl (by kernel_rfl) ?_
    intro K hK
    go_simp
    refine hK _ _ ⟨Blk.get k2.out 1 rfl, Blk.get k2.out 3 rfl⟩ ?_
    clear hK K
    refine Hoist.only (i := 14) rfl (by kernel_rfl) ?_
    intro K hK
    go_simp
    refine hK _ _ ⟨Blk.get k3.out 1 rfl, Blk.get k3.out 3 rfl⟩ ?_
    clear hK K
    refine Hoist.over (by kernel_rfl) ?_ _
    obtain ⟨V, hV⟩ : ∃ V, V = (((W4.setCell ⟨tb, 4, none⟩ (.int .i64 0)).setCell ⟨tb, 5, none⟩ (.int .i64 ((s.size : Nat) : Int))).setCell ⟨tb, 6, none⟩ (.bool false)).drew := ⟨_, rfl⟩
    have HTV := Lib.hid (show Blk V tb 37 (tokF (8) (str (ub us)) M (s.size) false) by rw [hV]; exact Blk.drew (Blk.set_ (Blk.set_ (Blk.set_ HT4.out 4 _) 5 _) 6 _))
    have HZV := Lib.hid (show Blk V w.heap.size 37 zer by rw [hV]; exact Blk.drew (Blk.far (Blk.far (Blk.far HZ4.out (p := ⟨tb, 4, none⟩) (by show w.heap.size ≠ tb; omega) _) (p := ⟨tb, 5, none⟩) (by show w.heap.size ≠ tb; omega) _) (p := ⟨tb, 6, none⟩) (by show w.heap.size ≠ tb; omega) _))
    have HBV := Lib.hid (show Below w.heap.size w V by rw [hV]; exact ((((HB4.out).setCell (p := ⟨tb, 4, none⟩) htw _).setCell (p := ⟨tb, 5, none⟩) htw _).setCell (p := ⟨tb, 6, none⟩) htw _).drew)
    rw [← hV]
    clear hV c1 c3 t4 t5 t6 g4 g5 g6 k1 k2 k3 HT4 HS4 HZ4 HB4
    go_wp2_with (first
      | (with_reducible refine wpList_load_blk rfl 37 (.tmp 11) rfl tb rfl 37 (tokF (8) (str (ub us)) M (s.size) false) _ HTV.out Try.underlying37 rfl (size_tokF _ _ _ _ _) ?_)
      | (with_reducible refine wpList_store_blk rfl 37 (.tmp 8) (.tmp 63) rfl w.heap.size zer (tokF (8) (str (ub us)) M (s.size) false) 37 rfl rfl HZV.out (tokF_zer _ _ _ _ _) (size_tokF _ _ _ _ _) (tokF_one _ _ _ _ _) ?_))
    intro V2 H2 G2 S2
    have HBF := Lib.hid (HBV.out.grown G2 HBV.out.size (fun k hk => by injection hk with hk; omega))
    clear G2
    go_wp2_with fail
    refine bodyPost_ret (results_cell_row Try.results17 _ _ w.heap.size 37 _ (0, 0) _ rfl H2 Try.underlying37 rfl size37) rfl ⟨HBF.out, M, rfl⟩
  | none =>
    obtain ⟨T, M, old, q, b, rfl, hb0, hb2, hq, hs3, hor⟩ := hpost
    have HS3 := Lib.hid hs3
    have HOR := Lib.hid hor
    clear hs3 hor
    go_wp2_with (with_reducible refine wpList_store_blk rfl 37 (.tmp 11) (.tmp 40) rfl tb (zer) (tok T M old) 37 rfl rfl HT3.out (tok_zer _ _ _) (size_tok _ _ _) (tok_one _ _ _) ?_)
    intro W4 H4 G4 S4
    have HT4 := Lib.hid H4
    have HS4 := Lib.hid (Blk.grown HS3.out G4 (by intro e; injection e with e; omega))
    have HZ4 := Lib.hid (Blk.grown HZ3.out G4 (by intro e; injection e with e; omega))
    have HB4 := Lib.hid (HB3.out.grown G4 HB3.out.size (fun k hk => by injection hk with hk; omega))
    clear G4 H4 HT3 HS3 HZ3 HB3
    have c4 := Blk.get HS4.out 4 rfl
    by_cases hbz : b = 0
    · have tb0 : (b != 0) = false := by simp; omega
      have HOR2 := Lib.hid (show old = true ∨ q ≠ s.size from HOR.out.resolve_left (fun h => h hbz))
      clear hbz
      go_upto_region 9 with fail
      clear c4
      have c1 := Blk.get HS4.out 1 rfl
      have c3 := Blk.get HS4.out 3 rfl
      have t4 := Blk.get HT4.out 4 rfl
      have t5 := Blk.get HT4.out 5 rfl
      have t6 := Blk.get HT4.out 6 rfl
      have g4 := Blk.frozen HT4.out 4
      have g5 := Blk.frozen HT4.out 5
      have g6 := Blk.frozen HT4.out 6
      refine Hoist.start (S := fun _ => fun w' : World => (w'.cell? ⟨w.heap.size + 1, 1, none⟩ = some (.int .i64 ((q : Nat) : Int)) ∧ w'.cell? ⟨w.heap.size + 1, 3, none⟩ = some (.bool false))) (by kernel_rfl) ?_
      refine Hoist.take (i := 0) (T := fun w' : World => (w'.cell? ⟨w.heap.size + 1, 1, none⟩ = some (.int .i64 ((q : Nat) : Int)) ∧ w'.cell? ⟨w.heap.size + 1, 3, none⟩ = some (.bool false))) (G := fun _ => True) (v := ?vb0) rfl (by kernel_rfl) (by kernel_rfl) (by kernel_rfl) (fun _ _ _ h => h) (fun _ _ h => h) (fun _ _ _ _ _ _ => trivial) (fun _ _ _ h => h) trivial (Or.inl ⟨by rfl, ?hb0⟩) ⟨c1, c3⟩ ?rb0
      case hb0 =>
        intro w' hSw
        obtain ⟨s1, s3⟩ := hSw
        go_simp
        rfl
      simp only [Act.put, List.setIfInBounds_toArray, List.set_cons_zero, List.set_cons_succ]
      refine Hoist.take (i := 1) (T := fun w' : World => (w'.cell? ⟨w.heap.size + 1, 1, none⟩ = some (.int .i64 ((q : Nat) : Int)) ∧ w'.cell? ⟨w.heap.size + 1, 3, none⟩ = some (.bool false))) (G := fun _ => True) (v := ?vb1) rfl (by kernel_rfl) (by kernel_rfl) (by kernel_rfl) (fun _ _ _ h => h) (fun _ _ h => h) (fun _ _ _ _ _ _ => trivial) (fun _ _ _ h => h) trivial (Or.inl ⟨by rfl, ?hb1⟩) ⟨c1, c3⟩ ?rb1
      case hb1 =>
        intro w' hSw
        obtain ⟨s1, s3⟩ := hSw
        go_simp
        rfl
      simp only [Act.put, List.setIfInBounds_toArray, List.set_cons_zero, List.set_cons_succ]
      refine Hoist.take (i := 2) (T := fun w' : World => (w'.cell? ⟨w.heap.size + 1, 1, none⟩ = some (.int .i64 ((q : Nat) : Int)) ∧ w'.cell? ⟨w.heap.size + 1, 3, none⟩ = some (.bool false))) (G := fun _ => True) (v := ?vb2) rfl (by kernel_rfl) (by kernel_rfl) (by kernel_rfl) (fun _ _ _ h => h) (fun _ _ h => h) (fun _ _ _ _ _ _ => trivial) (fun _ _ _ h => h) trivial (Or.inl ⟨by rfl, ?hb2⟩) ⟨c1, c3⟩ ?rb2
      case hb2 =>
        intro w' hSw
        obtain ⟨s1, s3⟩ := hSw
        go_simp
        rfl
      simp only [Act.put, List.setIfInBounds_toArray, List.set_cons_zero, List.set_cons_succ]
      refine Hoist.take (i := 3) (T := fun w' : World => (w'.cell? ⟨w.heap.size + 1, 1, none⟩ = some (.int .i64 ((q : Nat) : Int)) ∧ w'.cell? ⟨w.heap.size + 1, 3, none⟩ = some (.bool false))) (G := fun _ => True) (v := ?vb3) rfl (by kernel_rfl) (by kernel_rfl) (by kernel_rfl) (fun _ _ _ h => h) (fun _ _ h => h) (fun _ _ _ _ _ _ => trivial) (fun _ _ _ h => h) trivial (Or.inl ⟨by rfl, ?hb3⟩) ⟨c1, c3⟩ ?rb3
      case hb3 =>
        intro w' hSw
        obtain ⟨s1, s3⟩ := hSw
        go_simp
        rfl
      simp only [Act.put, List.setIfInBounds_toArray, List.set_cons_zero, List.set_cons_succ]
      refine Hoist.take (i := 4) (T := fun w' : World => (w'.cell? ⟨w.heap.size + 1, 1, none⟩ = some (.int .i64 ((q : Nat) : Int)) ∧ w'.cell? ⟨w.heap.size + 1, 3, none⟩ = some (.bool false))) (G := fun _ => True) (v := ?vb4) rfl (by kernel_rfl) (by kernel_rfl) (by kernel_rfl) (fun _ _ _ h => h) (fun _ _ h => h) (fun _ _ _ _ _ _ => trivial) (fun _ _ _ h => h) trivial (Or.inl ⟨by rfl, ?hb4⟩) ⟨c1, c3⟩ ?rb4
      case hb4 =>
        intro w' hSw
        obtain ⟨s1, s3⟩ := hSw
        go_simp
        rfl
      simp only [Act.put, List.setIfInBounds_toArray, List.set_cons_zero, List.set_cons_succ]
      refine Hoist.take (i := 5) (T := fun w' : World => (w'.cell? ⟨w.heap.size + 1, 1, none⟩ = some (.int .i64 ((q : Nat) : Int)) ∧ w'.cell? ⟨w.heap.size + 1, 3, none⟩ = some (.bool false))) (G := fun _ => True) (v := ?vb5) rfl (by kernel_rfl) (by kernel_rfl) (by kernel_rfl) (fun _ _ _ h => h) (fun _ _ h => h) (fun _ _ _ _ _ _ => trivial) (fun _ _ _ h => h) trivial (Or.inl ⟨by rfl, ?hb5⟩) ⟨c1, c3⟩ ?rb5
      case hb5 =>
        intro w' hSw
        obtain ⟨s1, s3⟩ := hSw
        go_simp
        rfl
      simp only [Act.put, List.setIfInBounds_toArray, List.set_cons_zero, List.set_cons_succ]
      refine Hoist.take (i := 6) (T := fun w' : World => (w'.cell? ⟨w.heap.size + 1, 1, none⟩ = some (.int .i64 ((q : Nat) : Int)) ∧ w'.cell? ⟨w.heap.size + 1, 3, none⟩ = some (.bool false))) (G := fun _ => True) (v := ?vb6) rfl (by kernel_rfl) (by kernel_rfl) (by kernel_rfl) (fun _ _ _ h => h) (fun _ _ h => h) (fun _ _ _ _ _ _ => trivial) (fun _ _ _ h => h) trivial (Or.inl ⟨by rfl, ?hb6⟩) ⟨c1, c3⟩ ?rb6
      case hb6 =>
        intro w' hSw
        obtain ⟨s1, s3⟩ := hSw
        go_simp
        rfl
      simp only [Act.put, List.setIfInBounds_toArray, List.set_cons_zero, List.set_cons_succ]
      refine Hoist.take (i := 7) (T := fun w' : World => (w'.cell? ⟨w.heap.size + 1, 1, none⟩ = some (.int .i64 ((q : Nat) : Int)) ∧ w'.cell? ⟨w.heap.size + 1, 3, none⟩ = some (.bool false))) (G := fun _ => True) (v := ?vb7) rfl (by kernel_rfl) (by kernel_rfl) (by kernel_rfl) (fun _ _ _ h => h) (fun _ _ h => h) (fun _ _ _ _ _ _ => trivial) (fun _ _ _ h => h) trivial (Or.inl ⟨by rfl, ?hb7⟩) ⟨c1, c3⟩ ?rb7
      case hb7 =>
        intro w' hSw
        obtain ⟨s1, s3⟩ := hSw
        go_simp
        rfl
      simp only [Act.put, List.setIfInBounds_toArray, List.set_cons_zero, List.set_cons_succ]
      refine Hoist.take (i := 8) (T := fun w' : World => (w'.cell? ⟨w.heap.size + 1, 1, none⟩ = some (.int .i64 ((q : Nat) : Int)) ∧ w'.cell? ⟨w.heap.size + 1, 3, none⟩ = some (.bool false))) (G := fun _ => True) (v := ?vb8) rfl (by kernel_rfl) (by kernel_rfl) (by kernel_rfl) (fun _ _ _ h => h) (fun _ _ h => h) (fun _ _ _ _ _ _ => trivial) (fun _ _ _ h => h) trivial (Or.inl ⟨by rfl, ?hb8⟩) ⟨c1, c3⟩ ?rb8
      case hb8 =>
        intro w' hSw
        obtain ⟨s1, s3⟩ := hSw
        go_simp
        rfl
      simp only [Act.put, List.setIfInBounds_toArray, List.set_cons_zero, List.set_cons_succ]
      have k1 := Lib.hid (Blk.far HS4.out (p := ⟨tb, 4, none⟩) (by show w.heap.size + 1 ≠ tb; omega) (.int .i64 0))
      have k2 := Lib.hid (Blk.far (Blk.far HS4.out (p := ⟨tb, 4, none⟩) (by show w.heap.size + 1 ≠ tb; omega) (.int .i64 0)) (p := ⟨tb, 5, none⟩) (by show w.heap.size + 1 ≠ tb; omega) (.int .i64 ((q : Nat) : Int)))
      have k3 := Lib.hid (Blk.far (Blk.far (Blk.far HS4.out (p := ⟨tb, 4, none⟩) (by show w.heap.size + 1 ≠ tb; omega) (.int .i64 0)) (p := ⟨tb, 5, none⟩) (by show w.heap.size + 1 ≠ tb; omega) (.int .i64 ((q : Nat) : Int))) (p := ⟨tb, 6, none⟩) (by show w.heap.size + 1 ≠ tb; omega) (.bool false))
      refine Hoist.only (i := 9) rfl (by kernel_rfl) ?_
      intro K hK
      go_simp
      refine hK _ _ ⟨c1, c3⟩ ?_
      clear hK K
      refine Hoist.only (i := 10) rfl (by kernel_rfl) ?_
      intro K hK
      go_simp
      refine hK _ _ ⟨Blk.get k1.out 1 rfl, Blk.get k1.out 3 rfl⟩ ?_
      clear hK K
      refine Hoist.only (i := 11) rfl (by kernel_rfl) ?_
      intro K hK
      go_simp
      refine hK _ _ ⟨Blk.get k1.out 1 rfl, Blk.get k1.out 3 rfl⟩ ?_
      clear hK K
      refine Hoist.only (i := 12) rfl (by kernel_rfl) ?_
      intro K hK
      go_simp
      refine hK _ _ ⟨Blk.get k2.out 1 rfl, Blk.get k2.out 3 rfl⟩ ?_
      clear hK K
      refine Hoist.only (i := 13) rfl (by kernel_rfl) ?_
      intro K hK
      go_simp
      refine hK _ _ ⟨Blk.get k2.out 1 rfl, Blk.get k2.out 3 rfl⟩ ?_
      clear hK K
      refine Hoist.only (i := 14) rfl (by kernel_rfl) ?_
      intro K hK
      go_simp
      refine hK _ _ ⟨Blk.get k3.out 1 rfl, Blk.get k3.out 3 rfl⟩ ?_
      clear hK K
      refine Hoist.over (by kernel_rfl) ?_ _
      obtain ⟨V, hV⟩ : ∃ V, V = (((W4.setCell ⟨tb, 4, none⟩ (.int .i64 0)).setCell ⟨tb, 5, none⟩ (.int .i64 ((q : Nat) : Int))).setCell ⟨tb, 6, none⟩ (.bool false)).drew := ⟨_, rfl⟩
      have HTV := Lib.hid (show Blk V tb 37 (tokF (8) (T) M (q) old) by rw [hV]; exact Blk.drew (Blk.set_ (Blk.set_ (Blk.set_ HT4.out 4 _) 5 _) 6 _))
      have HZV := Lib.hid (show Blk V w.heap.size 37 zer by rw [hV]; exact Blk.drew (Blk.far (Blk.far (Blk.far HZ4.out (p := ⟨tb, 4, none⟩) (by show w.heap.size ≠ tb; omega) _) (p := ⟨tb, 5, none⟩) (by show w.heap.size ≠ tb; omega) _) (p := ⟨tb, 6, none⟩) (by show w.heap.size ≠ tb; omega) _))
      have HBV := Lib.hid (show Below w.heap.size w V by rw [hV]; exact ((((HB4.out).setCell (p := ⟨tb, 4, none⟩) htw _).setCell (p := ⟨tb, 5, none⟩) htw _).setCell (p := ⟨tb, 6, none⟩) htw _).drew)
      rw [← hV]
      clear hV c1 c3 t4 t5 t6 g4 g5 g6 k1 k2 k3 HT4 HS4 HZ4 HB4
      go_wp2_with (first
        | (with_reducible refine wpList_load_blk rfl 37 (.tmp 11) rfl tb rfl 37 (tokF (8) (T) M (q) old) _ HTV.out Try.underlying37 rfl (size_tokF _ _ _ _ _) ?_)
        | (with_reducible refine wpList_store_blk rfl 37 (.tmp 8) (.tmp 63) rfl w.heap.size zer (tokF (8) (T) M (q) old) 37 rfl rfl HZV.out (tokF_zer _ _ _ _ _) (size_tokF _ _ _ _ _) (tokF_one _ _ _ _ _) ?_))
      intro V2 H2 G2 S2
      have HBF := Lib.hid (HBV.out.grown G2 HBV.out.size (fun k hk => by injection hk with hk; omega))
      clear G2
      go_wp2_with fail
      refine bodyPost_ret (results_cell_row Try.results17 _ _ w.heap.size 37 _ (0, 0) _ rfl H2 Try.underlying37 rfl size37) rfl ⟨HBF.out, 8, T, M, q, old, rfl, .inr HOR2.out⟩
    · have tb0 : (b != 0) = true := by simp; omega
      have HB8 := Lib.hid (show b ≠ 8 by omega)
      clear hbz
      go_wp2_with (with_reducible refine wpList_store_blk rfl 37 (.tmp 11) (.tmp 50) rfl tb (tok T M old) (tokF b ⟨#[]⟩ ⟨#[]⟩ 0 false) 37 rfl rfl HT4.out rfl (size_tokF _ _ _ _ _) (tokF_one _ _ _ _ _) ?_)
      intro W5 H5 G5 S5
      have HT5 := Lib.hid H5
      have HS5 := Lib.hid (Blk.grown HS4.out G5 (by intro e; injection e with e; omega))
      have HZ5 := Lib.hid (Blk.grown HZ4.out G5 (by intro e; injection e with e; omega))
      have HB5 := Lib.hid (HB4.out.grown G5 HB4.out.size (fun k hk => by injection hk with hk; omega))
      clear G5 H5 HT4 HS4 HZ4 HB4
      go_upto_region 9 with fail
      clear c4
      have c1 := Blk.get HS5.out 1 rfl
      have c3 := Blk.get HS5.out 3 rfl
      have t4 := Blk.get HT5.out 4 rfl
      have t5 := Blk.get HT5.out 5 rfl
      have t6 := Blk.get HT5.out 6 rfl
      have g4 := Blk.frozen HT5.out 4
      have g5 := Blk.frozen HT5.out 5
      have g6 := Blk.frozen HT5.out 6
      refine Hoist.start (S := fun _ => fun w' : World => (w'.cell? ⟨w.heap.size + 1, 1, none⟩ = some (.int .i64 ((q : Nat) : Int)) ∧ w'.cell? ⟨w.heap.size + 1, 3, none⟩ = some (.bool false))) (by kernel_rfl) ?_
      refine Hoist.take (i := 0) (T := fun w' : World => (w'.cell? ⟨w.heap.size + 1, 1, none⟩ = some (.int .i64 ((q : Nat) : Int)) ∧ w'.cell? ⟨w.heap.size + 1, 3, none⟩ = some (.bool false))) (G := fun _ => True) (v := ?vc0) rfl (by kernel_rfl) (by kernel_rfl) (by kernel_rfl) (fun _ _ _ h => h) (fun _ _ h => h) (fun _ _ _ _ _ _ => trivial) (fun _ _ _ h => h) trivial (Or.inl ⟨by rfl, ?hc0⟩) ⟨c1, c3⟩ ?rc0
      case hc0 =>
        intro w' hSw
        obtain ⟨s1, s3⟩ := hSw
        go_simp
        rfl
      simp only [Act.put, List.setIfInBounds_toArray, List.set_cons_zero, List.set_cons_succ]
      refine Hoist.take (i := 1) (T := fun w' : World => (w'.cell? ⟨w.heap.size + 1, 1, none⟩ = some (.int .i64 ((q : Nat) : Int)) ∧ w'.cell? ⟨w.heap.size + 1, 3, none⟩ = some (.bool false))) (G := fun _ => True) (v := ?vc1) rfl (by kernel_rfl) (by kernel_rfl) (by kernel_rfl) (fun _ _ _ h => h) (fun _ _ h => h) (fun _ _ _ _ _ _ => trivial) (fun _ _ _ h => h) trivial (Or.inl ⟨by rfl, ?hc1⟩) ⟨c1, c3⟩ ?rc1
      case hc1 =>
        intro w' hSw
        obtain ⟨s1, s3⟩ := hSw
        go_simp
        rfl
      simp only [Act.put, List.setIfInBounds_toArray, List.set_cons_zero, List.set_cons_succ]
      refine Hoist.take (i := 2) (T := fun w' : World => (w'.cell? ⟨w.heap.size + 1, 1, none⟩ = some (.int .i64 ((q : Nat) : Int)) ∧ w'.cell? ⟨w.heap.size + 1, 3, none⟩ = some (.bool false))) (G := fun _ => True) (v := ?vc2) rfl (by kernel_rfl) (by kernel_rfl) (by kernel_rfl) (fun _ _ _ h => h) (fun _ _ h => h) (fun _ _ _ _ _ _ => trivial) (fun _ _ _ h => h) trivial (Or.inl ⟨by rfl, ?hc2⟩) ⟨c1, c3⟩ ?rc2
      case hc2 =>
        intro w' hSw
        obtain ⟨s1, s3⟩ := hSw
        go_simp
        rfl
      simp only [Act.put, List.setIfInBounds_toArray, List.set_cons_zero, List.set_cons_succ]
      refine Hoist.take (i := 3) (T := fun w' : World => (w'.cell? ⟨w.heap.size + 1, 1, none⟩ = some (.int .i64 ((q : Nat) : Int)) ∧ w'.cell? ⟨w.heap.size + 1, 3, none⟩ = some (.bool false))) (G := fun _ => True) (v := ?vc3) rfl (by kernel_rfl) (by kernel_rfl) (by kernel_rfl) (fun _ _ _ h => h) (fun _ _ h => h) (fun _ _ _ _ _ _ => trivial) (fun _ _ _ h => h) trivial (Or.inl ⟨by rfl, ?hc3⟩) ⟨c1, c3⟩ ?rc3
      case hc3 =>
        intro w' hSw
        obtain ⟨s1, s3⟩ := hSw
        go_simp
        rfl
      simp only [Act.put, List.setIfInBounds_toArray, List.set_cons_zero, List.set_cons_succ]
      refine Hoist.take (i := 4) (T := fun w' : World => (w'.cell? ⟨w.heap.size + 1, 1, none⟩ = some (.int .i64 ((q : Nat) : Int)) ∧ w'.cell? ⟨w.heap.size + 1, 3, none⟩ = some (.bool false))) (G := fun _ => True) (v := ?vc4) rfl (by kernel_rfl) (by kernel_rfl) (by kernel_rfl) (fun _ _ _ h => h) (fun _ _ h => h) (fun _ _ _ _ _ _ => trivial) (fun _ _ _ h => h) trivial (Or.inl ⟨by rfl, ?hc4⟩) ⟨c1, c3⟩ ?rc4
      case hc4 =>
        intro w' hSw
        obtain ⟨s1, s3⟩ := hSw
        go_simp
        rfl
      simp only [Act.put, List.setIfInBounds_toArray, List.set_cons_zero, List.set_cons_succ]
      refine Hoist.take (i := 5) (T := fun w' : World => (w'.cell? ⟨w.heap.size + 1, 1, none⟩ = some (.int .i64 ((q : Nat) : Int)) ∧ w'.cell? ⟨w.heap.size + 1, 3, none⟩ = some (.bool false))) (G := fun _ => True) (v := ?vc5) rfl (by kernel_rfl) (by kernel_rfl) (by kernel_rfl) (fun _ _ _ h => h) (fun _ _ h => h) (fun _ _ _ _ _ _ => trivial) (fun _ _ _ h => h) trivial (Or.inl ⟨by rfl, ?hc5⟩) ⟨c1, c3⟩ ?rc5
      case hc5 =>
        intro w' hSw
        obtain ⟨s1, s3⟩ := hSw
        go_simp
        rfl
      simp only [Act.put, List.setIfInBounds_toArray, List.set_cons_zero, List.set_cons_succ]
      refine Hoist.take (i := 6) (T := fun w' : World => (w'.cell? ⟨w.heap.size + 1, 1, none⟩ = some (.int .i64 ((q : Nat) : Int)) ∧ w'.cell? ⟨w.heap.size + 1, 3, none⟩ = some (.bool false))) (G := fun _ => True) (v := ?vc6) rfl (by kernel_rfl) (by kernel_rfl) (by kernel_rfl) (fun _ _ _ h => h) (fun _ _ h => h) (fun _ _ _ _ _ _ => trivial) (fun _ _ _ h => h) trivial (Or.inl ⟨by rfl, ?hc6⟩) ⟨c1, c3⟩ ?rc6
      case hc6 =>
        intro w' hSw
        obtain ⟨s1, s3⟩ := hSw
        go_simp
        rfl
      simp only [Act.put, List.setIfInBounds_toArray, List.set_cons_zero, List.set_cons_succ]
      refine Hoist.take (i := 7) (T := fun w' : World => (w'.cell? ⟨w.heap.size + 1, 1, none⟩ = some (.int .i64 ((q : Nat) : Int)) ∧ w'.cell? ⟨w.heap.size + 1, 3, none⟩ = some (.bool false))) (G := fun _ => True) (v := ?vc7) rfl (by kernel_rfl) (by kernel_rfl) (by kernel_rfl) (fun _ _ _ h => h) (fun _ _ h => h) (fun _ _ _ _ _ _ => trivial) (fun _ _ _ h => h) trivial (Or.inl ⟨by rfl, ?hc7⟩) ⟨c1, c3⟩ ?rc7
      case hc7 =>
        intro w' hSw
        obtain ⟨s1, s3⟩ := hSw
        go_simp
        rfl
      simp only [Act.put, List.setIfInBounds_toArray, List.set_cons_zero, List.set_cons_succ]
      refine Hoist.take (i := 8) (T := fun w' : World => (w'.cell? ⟨w.heap.size + 1, 1, none⟩ = some (.int .i64 ((q : Nat) : Int)) ∧ w'.cell? ⟨w.heap.size + 1, 3, none⟩ = some (.bool false))) (G := fun _ => True) (v := ?vc8) rfl (by kernel_rfl) (by kernel_rfl) (by kernel_rfl) (fun _ _ _ h => h) (fun _ _ h => h) (fun _ _ _ _ _ _ => trivial) (fun _ _ _ h => h) trivial (Or.inl ⟨by rfl, ?hc8⟩) ⟨c1, c3⟩ ?rc8
      case hc8 =>
        intro w' hSw
        obtain ⟨s1, s3⟩ := hSw
        go_simp
        rfl
      simp only [Act.put, List.setIfInBounds_toArray, List.set_cons_zero, List.set_cons_succ]
      have k1 := Lib.hid (Blk.far HS5.out (p := ⟨tb, 4, none⟩) (by show w.heap.size + 1 ≠ tb; omega) (.int .i64 0))
      have k2 := Lib.hid (Blk.far (Blk.far HS5.out (p := ⟨tb, 4, none⟩) (by show w.heap.size + 1 ≠ tb; omega) (.int .i64 0)) (p := ⟨tb, 5, none⟩) (by show w.heap.size + 1 ≠ tb; omega) (.int .i64 ((q : Nat) : Int)))
      have k3 := Lib.hid (Blk.far (Blk.far (Blk.far HS5.out (p := ⟨tb, 4, none⟩) (by show w.heap.size + 1 ≠ tb; omega) (.int .i64 0)) (p := ⟨tb, 5, none⟩) (by show w.heap.size + 1 ≠ tb; omega) (.int .i64 ((q : Nat) : Int))) (p := ⟨tb, 6, none⟩) (by show w.heap.size + 1 ≠ tb; omega) (.bool false))
      refine Hoist.only (i := 9) rfl (by kernel_rfl) ?_
      intro K hK
      go_simp
      refine hK _ _ ⟨c1, c3⟩ ?_
      clear hK K
      refine Hoist.only (i := 10) rfl (by kernel_rfl) ?_
      intro K hK
      go_simp
      refine hK _ _ ⟨Blk.get k1.out 1 rfl, Blk.get k1.out 3 rfl⟩ ?_
      clear hK K
      refine Hoist.only (i := 11) rfl (by kernel_rfl) ?_
      intro K hK
      go_simp
      refine hK _ _ ⟨Blk.get k1.out 1 rfl, Blk.get k1.out 3 rfl⟩ ?_
      clear hK K
      refine Hoist.only (i := 12) rfl (by kernel_rfl) ?_
      intro K hK
      go_simp
      refine hK _ _ ⟨Blk.get k2.out 1 rfl, Blk.get k2.out 3 rfl⟩ ?_
      clear hK K
      refine Hoist.only (i := 13) rfl (by kernel_rfl) ?_
      intro K hK
      go_simp
      refine hK _ _ ⟨Blk.get k2.out 1 rfl, Blk.get k2.out 3 rfl⟩ ?_
      clear hK K
      refine Hoist.only (i := 14) rfl (by kernel_rfl) ?_
      intro K hK
      go_simp
      refine hK _ _ ⟨Blk.get k3.out 1 rfl, Blk.get k3.out 3 rfl⟩ ?_
      clear hK K
      refine Hoist.over (by kernel_rfl) ?_ _
      obtain ⟨V, hV⟩ : ∃ V, V = (((W5.setCell ⟨tb, 4, none⟩ (.int .i64 0)).setCell ⟨tb, 5, none⟩ (.int .i64 ((q : Nat) : Int))).setCell ⟨tb, 6, none⟩ (.bool false)).drew := ⟨_, rfl⟩
      have HTV := Lib.hid (show Blk V tb 37 (tokF (b) (⟨#[]⟩) ⟨#[]⟩ (q) false) by rw [hV]; exact Blk.drew (Blk.set_ (Blk.set_ (Blk.set_ HT5.out 4 _) 5 _) 6 _))
      have HZV := Lib.hid (show Blk V w.heap.size 37 zer by rw [hV]; exact Blk.drew (Blk.far (Blk.far (Blk.far HZ5.out (p := ⟨tb, 4, none⟩) (by show w.heap.size ≠ tb; omega) _) (p := ⟨tb, 5, none⟩) (by show w.heap.size ≠ tb; omega) _) (p := ⟨tb, 6, none⟩) (by show w.heap.size ≠ tb; omega) _))
      have HBV := Lib.hid (show Below w.heap.size w V by rw [hV]; exact ((((HB5.out).setCell (p := ⟨tb, 4, none⟩) htw _).setCell (p := ⟨tb, 5, none⟩) htw _).setCell (p := ⟨tb, 6, none⟩) htw _).drew)
      rw [← hV]
      clear hV c1 c3 t4 t5 t6 g4 g5 g6 k1 k2 k3 HT5 HS5 HZ5 HB5
      go_wp2_with (first
        | (with_reducible refine wpList_load_blk rfl 37 (.tmp 11) rfl tb rfl 37 (tokF (b) (⟨#[]⟩) ⟨#[]⟩ (q) false) _ HTV.out Try.underlying37 rfl (size_tokF _ _ _ _ _) ?_)
        | (with_reducible refine wpList_store_blk rfl 37 (.tmp 8) (.tmp 63) rfl w.heap.size zer (tokF (b) (⟨#[]⟩) ⟨#[]⟩ (q) false) 37 rfl rfl HZV.out (tokF_zer _ _ _ _ _) (size_tokF _ _ _ _ _) (tokF_one _ _ _ _ _) ?_))
      intro V2 H2 G2 S2
      have HBF := Lib.hid (HBV.out.grown G2 HBV.out.size (fun k hk => by injection hk with hk; omega))
      clear G2
      go_wp2_with fail
      refine bodyPost_ret (results_cell_row Try.results17 _ _ w.heap.size 37 _ (0, 0) _ rfl H2 Try.underlying37 rfl size37) rfl ⟨HBF.out, b, ⟨#[]⟩, ⟨#[]⟩, q, false, rfl, .inl HB8.out⟩
end Go.Proofs.Ytkhnkemmkedfcaa.Js
