/- The reference's length of a number at a place. The walk. -/
import Derived.Test.YtefippeaalkmeaaScJ
import Derived.Test.YtefippeaalkmeaaScK
namespace Go.Proofs.Ytefippeaalkmeaa.Scan
open Go.RowKit Go.Proofs.Ytefippeaalkmeaa.Aid Go.Proofs.Ytefippeaalkmeaa.Runes Go.Proofs.Ytefippeaalkmeaa.Bytes Go.Proofs.Ytefippeaalkmeaa.Nats
attribute [local go_sem ↓] Go.wp_at_zero Go.wp_at_succ
set_option linter.unusedVariables false
/-- The signs of a number without a sign of its exponent. -/
def Lit (b : Nat) : Prop := (48 ≤ b ∧ b ≤ 57) ∨ (97 ≤ b ∧ b ≤ 122) ∨ (65 ≤ b ∧ b ≤ 90) ∨ b = 46 ∨ b = 95
/-- A number at a place: n bytes. -/
def IsNum (s : ByteArray) (at_ : Int) (n : Nat) : Prop := ∃ p : Nat, at_ = (p : Int) ∧ p < s.size ∧ 48 ≤ byt s p ∧ byt s p ≤ 57 ∧ p + n ≤ s.size ∧ (∀ i, p ≤ i → i < p + n → Lit (byt s i)) ∧ (p + n < s.size → ¬ Lit (byt s (p + n)))
def NumPost (s : ByteArray) (at_ : Int) (w : World) (e : Ending) (w' : World) : Prop := Below w.heap.size w w' ∧ ∃ n : Nat, e = .returned (.int .i64 (n : Int)) ∧ (n ≠ 0 → IsNum s at_ n)
theorem num_zero {s : ByteArray} {at_ : Int} {w w' : World} (h : Below w.heap.size w w') : NumPost s at_ w (.returned (.int .i64 0)) w' := ⟨h, 0, rfl, fun h => absurd rfl h⟩
set_option maxRecDepth 100000 in
set_option maxHeartbeats 16000000 in
theorem numberAt (s : ByteArray) (at_ : Int) (w : World) (hs : s.size ≤ 4096) : Calls Try.prog 6 #[.string s, .int .i64 at_] w (NumPost s at_ w) := by
  by_cases hneg : at_ < 0
  · go_enter Try.func6, Try.ntmps6
    go_wp2_with fail
    go_returns
    exact num_zero (Below.refl _ _)
  · by_cases hbig : (s.size : Int) ≤ at_
    · go_enter Try.func6, Try.ntmps6
      go_wp2_with fail
      go_returns
      exact num_zero (Below.refl _ _)
    · obtain ⟨p, rfl⟩ : ∃ p : Nat, at_ = (p : Int) := ⟨at_.toNat, by omega⟩
      have hp : p < s.size := by omega
      have i0 : (p : Int) < s.size := by omega
      obtain ⟨b, hb⟩ : ∃ b : Nat, b = byt s p := ⟨_, rfl⟩
      have eb : (s[p]'hp).toNat = b := by rw [hb, byt_eq s _ hp]
      have b255 := byt_lt s p
      rw [← hb] at b255
      have HBB := Lib.hid hb
      clear hneg hbig hb
      by_cases h0 : b < 48
      · have t0 : decide ((b : Int) < 48) = true := by simp; omega
        clear h0
        go_enter Try.func6, Try.ntmps6
        go_wp2_with fail
        go_returns
        exact num_zero (Below.refl _ _)
      · by_cases h1 : 57 < b
        · have t0 : decide ((b : Int) < 48) = false := by simp; omega
          have t1 : decide ((57 : Int) < (b : Int)) = true := by simp; omega
          clear h0 h1
          go_enter Try.func6, Try.ntmps6
          go_wp2_with fail
          go_returns
          exact num_zero (Below.refl _ _)
        · have t0 : decide ((b : Int) < 48) = false := by simp; omega
          have t1 : decide ((57 : Int) < (b : Int)) = false := by simp; omega
          have HNX := Lib.hid (next s p w hs hp (by rw [← HBB.out]; omega) (by rw [← HBB.out]; omega))
          have HDG := Lib.hid (show 48 ≤ byt s p ∧ byt s p ≤ 57 by rw [← HBB.out]; omega)
          clear h0 h1
          go_enter Try.func6, Try.ntmps6
          go_wp2_with fail
          refine HNX.out.mono ?_
          rintro e W1 ⟨hb1, K, T, n, q, old, rfl, hpq, hqs, hseg⟩
          have HB1 := Lib.hid hb1
          have HSEG := Lib.hid hseg
          clear hb1 hseg
          have HZN := Lib.hid (show Blk (W1.alloc (.cells #[.int .i64 0, .string ⟨#[]⟩, .string ⟨#[]⟩, .int .u64 0, .int .i64 0, .int .i64 0, .bool false, .bool false, .bool false] 45)) W1.heap.size 45 zer from Blk.new W1 45 zer)
          go_wp2_with (with_reducible refine wpList_store_blk rfl 45 (.tmp 5) (.tmp 29) rfl W1.heap.size zer (tokF K T n p q old) 45 rfl rfl HZN.out (tokF_zer _ _ _ _ _ _) (size_tokF _ _ _ _ _ _) (tokF_one _ _ _ _ _ _) ?_)
          intro W2 H2 G2 S2
          have HB2 := Lib.hid ((HB1.out.alloc HB1.out.size (.cells zer.toArray 45)).grown G2 (HB1.out.alloc HB1.out.size (.cells zer.toArray 45)).size (fun k hk => by injection hk with hk; have := HB1.out.size; omega))
          obtain ⟨tb, htb⟩ : ∃ tb, tb = W1.heap.size := ⟨_, rfl⟩
          rw [← htb] at H2 ⊢
          have d0 := Blk.get H2 0 rfl
          have d4 := Blk.get H2 4 rfl
          have d5 := Blk.get H2 5 rfl
          have epp : ((p : Int) != (p : Int)) = false := by simp
          clear H2 G2 S2 HZN HB1 htb t0 t1 eb
          by_cases h6 : K = 6 ∨ K = 7
          · obtain ⟨x6, hx6⟩ : ∃ x, (K != 6) = x := ⟨_, rfl⟩
            obtain ⟨x7, hx7⟩ : ∃ x, (K != 7) = x := ⟨_, rfl⟩
            have HX := Lib.hid (show (x6 && x7) = false by rw [← hx6, ← hx7]; rcases h6 with rfl | rfl <;> rfl)
            clear h6
            go_upto_region 4 with fail
            go_cut [43] (fun bv wx => bv = .bool false ∧ wx = W2)
            case first =>
              cases x6 with
              | false =>
                go_wp2_with fail
                go_meet
                exact ⟨rfl, rfl⟩
              | true =>
                cases x7 with
                | false =>
                  go_wp2_with fail
                  go_meet
                  exact ⟨rfl, rfl⟩
                | true => exact absurd HX.out (by simp)
            case rest =>
              obtain ⟨rfl, rfl⟩ := hcut
              clear epp hx6 hx7
              go_upto_block 0 with fail
              go_cut [6] (fun _ wx => wx = wc ∧ ∀ i, p ≤ i → i < q → byt s i ≠ 43 ∧ byt s i ≠ 45)
              case first =>
                go_wp2_with fail
                go_loopw [6] (fun iv wr => ∃ i : Nat, iv = .int .i64 i ∧ p ≤ i ∧ i ≤ q ∧ (∀ j, p ≤ j → j < i → byt s j ≠ 43 ∧ byt s j ≠ 45) ∧ wr = wc) (fun iv _ => q - (intOf iv).toNat)
                case atStart => exact ⟨p, rfl, Nat.le_refl _, hpq, fun j h1 h2 => by omega, rfl⟩
                case round =>
                  obtain ⟨i, rfl, hpi, hiq, hne, rfl⟩ := hrel
                  have HNE := Lib.hid hne
                  clear hne
                  by_cases hlt : i < q
                  · have q1 : decide (i < q) = true := by simp; omega
                    have q2 : (i : Int) < (q : Int) := by omega
                    have hin : i < s.size := by omega
                    have i1 : (i : Int) < s.size := by omega
                    obtain ⟨c, hc⟩ : ∃ c : Nat, c = byt s i := ⟨_, rfl⟩
                    have ec : (s[i]'hin).toNat = c := by rw [hc, byt_eq s _ hin]
                    have HC := Lib.hid hc
                    have HLT := Lib.hid hlt
                    clear hc hlt
                    by_cases h43 : c = 43
                    · have t43 : ((c : Int) == 43) = true := by rw [h43]; rfl
                      clear h43
                      go_wp2_with fail
                      go_returns
                      exact num_zero HB2.out
                    · have t43 : ((c : Int) == 43) = false := by rw [beq_eq_false_iff_ne]; omega
                      by_cases h45 : c = 45
                      · have t45 : ((c : Int) == 45) = true := by rw [h45]; rfl
                        clear h45 h43
                        go_wp2_with fail
                        go_returns
                        exact num_zero HB2.out
                      · have t45 : ((c : Int) == 45) = false := by rw [beq_eq_false_iff_ne]; omega
                        have HN2 := Lib.hid (And.intro h43 h45)
                        clear h45 h43
                        go_wp2_with fail
                        go_roundw
                        case rel =>
                          refine ⟨i + 1, val_int (by omega), by omega, HLT.out, fun j h1 h2 => ?_, trivial⟩
                          by_cases e : j = i
                          · rw [e, ← HC.out]
                            exact HN2.out
                          · exact HNE.out j h1 (by omega)
                        case measure => have := HLT.out; simp [intOf]; omega
                  · have q1 : decide (i < q) = false := by simp; omega
                    have HIQ := Lib.hid (show i = q by omega)
                    clear hlt
                    go_wp2_with fail
                    go_meet
                    exact ⟨rfl, fun j h1 h2 => HNE.out j h1 (by have := HIQ.out; omega)⟩
              case rest =>
                obtain ⟨rfl, hne⟩ := hcut
                have HLIT := Lib.hid (show ∀ i, p ≤ i → i < q → Lit (byt s i) from fun i h1 h2 => by
                  have a := HSEG.out i h1 h2
                  have b := hne i h1 h2
                  unfold Sgn at a
                  unfold Lit
                  omega)
                have HFIN := Lib.hid (show (q < s.size → ¬ Lit (byt s q)) → NumPost s (p : Int) w (.returned (.int .i64 ((q : Int) - (p : Int)))) wc from fun h => ⟨HB2.out, q - p, by congr 2; omega, fun _ => ⟨p, rfl, hp, HDG.out.1, HDG.out.2, by omega, fun i h1 h2 => HLIT.out i h1 (by omega), fun h1 => by
                  rw [show p + (q - p) = q by omega] at h1 ⊢
                  exact h h1⟩⟩)
                clear hne
                by_cases hlt : q < s.size
                · have q1 : decide (q < s.size) = true := by simp; omega
                  have i1 : (q : Int) < s.size := by omega
                  obtain ⟨c, hc⟩ : ∃ c : Nat, c = byt s q := ⟨_, rfl⟩
                  have ec : (s[q]'hlt).toNat = c := by rw [hc, byt_eq s _ hlt]
                  have c255 := byt_lt s q
                  rw [← hc] at c255
                  have HC := Lib.hid hc
                  clear hc
                  by_cases h46 : c = 46
                  · have t46 : ((c : Int) == 46) = true := by rw [h46]; rfl
                    clear h46
                    go_wp2_with fail
                    go_returns
                    exact num_zero HB2.out
                  · have t46 : ((c : Int) == 46) = false := by rw [beq_eq_false_iff_ne]; omega
                    by_cases h95 : c = 95
                    · have t95 : ((c : Int) == 95) = true := by rw [h95]; rfl
                      clear h95
                      go_wp2_with fail
                      go_returns
                      exact num_zero HB2.out
                    · have t95 : ((c : Int) == 95) = false := by rw [beq_eq_false_iff_ne]; omega
                      by_cases h36 : c = 36
                      · have t36 : ((c : Int) == 36) = true := by rw [h36]; rfl
                        clear h36
                        go_wp2_with fail
                        go_returns
                        exact num_zero HB2.out
                      · have t36 : ((c : Int) == 36) = false := by rw [beq_eq_false_iff_ne]; omega
                        by_cases h92 : c = 92
                        · have t92 : ((c : Int) == 92) = true := by rw [h92]; rfl
                          clear h92
                          go_wp2_with fail
                          go_returns
                          exact num_zero HB2.out
                        · have t92 : ((c : Int) == 92) = false := by rw [beq_eq_false_iff_ne]; omega
                          by_cases h128 : 128 ≤ c
                          · have t128 : decide ((128 : Int) ≤ (c : Int)) = true := by simp; omega
                            go_wp2_with fail
                            go_returns
                            exact num_zero HB2.out
                          · have t128 : decide ((128 : Int) ≤ (c : Int)) = false := by simp; omega
                            have HMD := Lib.hid (fun w => mapDigit c w c255)
                            obtain ⟨z43, hz43⟩ : ∃ z, ((c : Int) != 43) = z := ⟨_, rfl⟩
                            obtain ⟨z47, hz47⟩ : ∃ z, ((c : Int) != 47) = z := ⟨_, rfl⟩
                            have HNL := Lib.hid (show z43 = false ∨ z47 = false → ¬ Lit c from fun h => by
                              have : c = 43 ∨ c = 47 := by
                                rcases h with h | h
                                · rw [← hz43] at h
                                  have : ((c : Nat) : Int) = 43 := by simpa using h
                                  omega
                                · rw [← hz47] at h
                                  have : ((c : Nat) : Int) = 47 := by simpa using h
                                  omega
                              unfold Lit
                              omega)
                            have HNE := Lib.hid (And.intro h46 h95)
                            clear h46 h95 h36 h92 h128
                            go_wp2_with fail
                            refine (HMD.out _).mono ?_
                            rintro e W ⟨rfl, x, rfl, hx⟩
                            have HX := Lib.hid hx
                            clear hx
                            by_cases hx0 : 0 ≤ x
                            · cases z43 with
                              | false =>
                                go_wp2_with fail
                                go_returns
                                exact HFIN.out (fun _ => by rw [← HC.out]; exact HNL.out (.inl trivial))
                              | true =>
                                cases z47 with
                                | false =>
                                  go_wp2_with fail
                                  go_returns
                                  exact HFIN.out (fun _ => by rw [← HC.out]; exact HNL.out (.inr trivial))
                                | true =>
                                  go_wp2_with fail
                                  go_returns
                                  exact num_zero HB2.out
                            · have HNX := Lib.hid (show ¬ Lit c from fun h => by
                                have h1 := HNE.out
                                unfold Lit at h
                                have := HX.out (by omega)
                                omega)
                              go_wp2_with fail
                              go_returns
                              exact HFIN.out (fun _ => by rw [← HC.out]; exact HNX.out)
                · have q1 : decide (q < s.size) = false := by simp; omega
                  have HQ := Lib.hid (show ¬ q < s.size from hlt)
                  clear hlt
                  go_wp2_with fail
                  go_returns
                  exact HFIN.out (fun h => absurd h HQ.out)
          · have x6 : (K != 6) = true := by simp; omega
            have x7 : (K != 7) = true := by simp; omega
            clear h6
            go_wp2_with fail
            go_returns
            exact num_zero HB2.out
end Go.Proofs.Ytefippeaalkmeaa.Scan
