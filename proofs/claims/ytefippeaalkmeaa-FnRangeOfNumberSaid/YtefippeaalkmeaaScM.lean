/- The range of a number: the package's walk, and the thin one's. -/
import Derived.Test.YtefippeaalkmeaaScL
namespace Go.Proofs.Ytefippeaalkmeaa.Scan
open Go.RowKit Go.Proofs.Ytefippeaalkmeaa.Aid Go.Proofs.Ytefippeaalkmeaa.Runes Go.Proofs.Ytefippeaalkmeaa.Bytes Go.Proofs.Ytefippeaalkmeaa.Nats
attribute [local go_sem ↓] Go.wp_at_zero Go.wp_at_succ
set_option linter.unusedVariables false
theorem slice_from32 (u : ByteArray) (a : Nat) (ha : a ≤ u.size) (w : World) : (Instr.slice 9 (.string u) (some (.int .i32 a)) none none).run Try.prog w = .ok (.string (u.extract a u.size)) w := by
  have h1 : (a : Int) ≤ (u.size : Int) := by omega
  have hx := run_sliceBound (P := Try.prog) w .i32 (a : Int) u.size BoundsCode.sliceB (by omega) (by omega)
  simp [Instr.slice, run_underlying Try.underlying9, Instr.sliceBounds, *]
theorem byt_rest (s : ByteArray) (i k : Nat) : byt (s.extract i s.size) k = byt s (i + k) := by
  by_cases h : i + k < s.size
  · have h1 : (nats (s.extract i s.size))[k]? = (nats s)[i + k]? := by
      rw [nats_extract, cut, List.take_of_length_le (by rw [List.length_drop, nats_length]; omega), List.getElem?_drop]
    rw [nats_get _ _ (by rw [ByteArray.size_extract]; omega), nats_get _ _ h] at h1
    exact Option.some.inj h1
  · rw [byt_out s _ (by omega), byt_out _ _ (by rw [ByteArray.size_extract]; omega)]
set_option maxRecDepth 100000 in
theorem within_walk (s : ByteArray) (p : Nat) (w : World) (hp : p ≤ s.size) (hs : s.size ≤ 2147483647) : Calls Try.prog 7 #[.string s, .int .i64 p, .int .i64 0] w fun e w' => e = .returned (.bool true) ∧ w' = w := by
  have t1 : (p : Int) ≤ (s.size : Int) := by omega
  have t2 : (0 : Int) ≤ (s.size : Int) - (p : Int) := by omega
  have t3 : decide (p ≤ s.size) = true := by simp; omega
  go_enter Try.func7, Try.ntmps7
  go_wp2_with fail
  go_returns
  exact ⟨rfl, rfl⟩
set_option maxRecDepth 100000 in
set_option maxHeartbeats 16000000 in
theorem sourceRange (g : Nat) (s : ByteArray) (p n : Nat) (w : World) (cs : List Value) (h : Blk w g 37 cs) (hc : cs[3]? = some (.string s)) (hs : s.size ≤ 2147483647) (hn : 0 < n) (hI : IsNum s (p : Int) n) :
    Calls Try.prog 8 #[.pointer (some ⟨g, 0, none⟩), .agg #[.int .i32 p]] w fun e w' => e = .returned (.agg #[.int .i32 p, .int .i32 n]) ∧ Below w.heap.size w w' := by
  have hgl := Blk.lt h
  obtain ⟨p', hpp, hps, hd0, hd1, hpn, hlit, hno⟩ := hI
  obtain rfl : p = p' := by omega
  have HC := Lib.hid hc
  have HH := Lib.hid h
  have hsl := slice_from32 s p (by omega)
  have hEz : (s.extract p s.size).size = s.size - p := by rw [ByteArray.size_extract]; omega
  have HEB := Lib.hid (byt_rest s p)
  obtain ⟨E, hE⟩ : ∃ E, E = s.extract p s.size := ⟨_, rfl⟩
  rw [← hE] at hsl hEz HEB
  have HEZ := Lib.hid hEz
  have HL := Lib.hid hlit
  have HNO := Lib.hid hno
  have HD := Lib.hid (And.intro hd0 hd1)
  have e0 : (0 : Int) < (E.size : Int) := by omega
  have e1 : 0 < E.size := by omega
  have HNE := Lib.hid (show n ≤ E.size by omega)
  have n31 : n ≤ 2147483647 := by omega
  have hE31 : E.size ≤ 2147483647 := by omega
  clear h hc hE hEz hlit hno hd0 hd1 hpp
  go_enter Try.func8, Try.ntmps8
  go_upto_region 1 with fail
  obtain ⟨W0, hW0⟩ : ∃ W0, W0 = (w.alloc (.cells #[.int .i32 p] 39)).alloc (.cells #[.int .i32 0, .int .i32 0] 41) := ⟨_, rfl⟩
  have HH0 := Lib.hid (show Blk W0 g 37 cs by rw [hW0]; exact Blk.alloc (Blk.alloc HH.out _) _)
  have HP0 := Lib.hid (show Blk W0 w.heap.size 39 [.int .i32 p] by rw [hW0]; exact Blk.alloc (Blk.new w 39 [.int .i32 p]) _)
  have HR0 := Lib.hid (show Blk W0 (w.heap.size + 1) 41 [.int .i32 0, .int .i32 0] by
    have := Blk.new (w.alloc (.cells #[.int .i32 p] 39)) 41 [.int .i32 0, .int .i32 0]
    rw [show (w.alloc (.cells #[.int .i32 p] 39)).heap.size = w.heap.size + 1 by simp] at this
    rw [hW0]
    exact this)
  have HB0 := Lib.hid (show Below w.heap.size w W0 by rw [hW0]; exact below_at (below_at (Below.refl _ _) _) _)
  rw [← hW0]
  clear hW0
  have c3 := Blk.get HH0.out 3 HC.out
  have l0 := Blk.get HP0.out 0 rfl
  go_quiet (fail)
  obtain ⟨W1, hW1⟩ : ∃ W1, W1 = W0.drewN nq := ⟨_, rfl⟩
  have HP1 := Lib.hid (show Blk W1 w.heap.size 39 [.int .i32 p] by rw [hW1]; exact HP0.out.drewN nq)
  have HR1 := Lib.hid (show Blk W1 (w.heap.size + 1) 41 [.int .i32 0, .int .i32 0] by rw [hW1]; exact HR0.out.drewN nq)
  have HB1 := Lib.hid (show Below w.heap.size w W1 by rw [hW1]; exact below_drewN HB0.out nq)
  rw [← hW1]
  clear hW1 c3 l0 HH0 HP0 HR0 HB0
  have l0 := Blk.get HP1.out 0 rfl
  have r0 := Blk.get HR1.out 0 rfl
  have r1 := Blk.get HR1.out 1 rfl
  have f0 := Blk.frozen HR1.out 0
  have f1 := Blk.frozen HR1.out 1
  obtain ⟨b, hb⟩ : ∃ b : Nat, b = byt E 0 := ⟨_, rfl⟩
  have eb : (E[0]'e1).toNat = b := by rw [hb, byt_eq E _ e1]
  have hbd : 48 ≤ b ∧ b ≤ 57 := by rw [hb, HEB.out 0]; exact HD.out
  have t0 : decide ((48 : Int) ≤ (b : Int)) = true := by simp; omega
  have t1 : decide ((b : Int) ≤ 57) = true := by simp; omega
  clear hb hbd
  go_upto_block 0 with fail
  obtain ⟨R, hR⟩ : ∃ R, R = w.heap.size + 1 := ⟨_, rfl⟩
  have HRR := Lib.hid hR
  have hRw : w.heap.size ≤ R := by omega
  rw [← hR] at HR1 r0 r1 f0 f1 ⊢
  clear hR
  obtain ⟨W2, hW2⟩ : ∃ W2, W2 = ((W1.setCell ⟨R, 0, none⟩ (.int .i32 p)).setCell ⟨R, 1, none⟩ (.int .i32 0)).setCell ⟨R, 1, none⟩ (.int .i32 1) := ⟨_, rfl⟩
  have HR2 := Lib.hid (show Blk W2 R 41 [.int .i32 p, .int .i32 ((1 : Nat) : Int)] by rw [hW2]; exact Blk.set_ (Blk.set_ (Blk.set_ HR1.out 0 _) 1 _) 1 _)
  have HB2 := Lib.hid (show Below w.heap.size w W2 by rw [hW2]; exact ((HB1.out.setCell (p := ⟨R, 0, none⟩) hRw _).setCell (p := ⟨R, 1, none⟩) hRw _).setCell (p := ⟨R, 1, none⟩) hRw _)
  rw [← hW2]
  clear hW2 l0 r0 r1 f0 f1 HP1 HR1 HB1 t0 t1 eb hsl
  have size41 : (Try.prog.info? 41).map (·.size) = some 2 := by kernel_rfl
  have HS41 := Lib.hid size41
  clear size41
  go_wp2_with fail
  go_loopw [7] (fun _ wr => ∃ k : Nat, 1 ≤ k ∧ k ≤ n ∧ Blk wr R 41 [.int .i32 p, .int .i32 k] ∧ Below w.heap.size w wr) (fun _ wr => n - (match wr.cell? ⟨R, 1, none⟩ with | some (.int _ x) => x.toNat | _ => 0))
  case atStart => exact ⟨1, Nat.le_refl _, hn, HR2.out, HB2.out⟩
  case round =>
    obtain ⟨k, hk1, hkn, hr, hb⟩ := hrel
    have HR := Lib.hid hr
    have HB := Lib.hid hb
    have r0 := Blk.get hr 0 rfl
    have r1 := Blk.get hr 1 rfl
    have f1 := Blk.frozen hr 1
    have HR1 := Lib.hid (show wr.cell? ⟨R, 1, none⟩ = some (.int .i32 k) from r1)
    clear hr hb
    by_cases hlt : k < E.size
    · have q1 : (k : Int) < (E.size : Int) := by omega
      have q2 : decide (k < E.size) = true := by simp; omega
      obtain ⟨c, hc⟩ : ∃ c : Nat, c = byt E k := ⟨_, rfl⟩
      have ec : (E[k]'hlt).toNat = c := by rw [hc, byt_eq E _ hlt]
      have hcs := hc.trans (HEB.out k)
      have HKN := Lib.hid (show k < n → Lit c from fun h => by rw [hcs]; exact HL.out (p + k) (by omega) (by omega))
      have HKE := Lib.hid (show k = n → ¬ Lit c from fun h => by
        rw [hcs, h]
        exact HNO.out (by have := HEZ.out; omega))
      have c255 := byt_lt E k
      rw [← hc] at c255
      clear hc hcs
      by_cases hx65 : c < 65
      · by_cases hx47 : c < 47
        · by_cases hx46 : c < 46
          · have h0 : 0 ≤ c := by omega
            have h1 : c ≤ 45 := by omega
            have d48 : decide ((c : Int) < 48) = true := by simp; omega
            have d97 : decide ((c : Int) < 97) = true := by simp; omega
            have d65 : decide ((c : Int) < 65) = true := by simp; omega
            have d57 : decide ((57 : Int) < (c : Int)) = false := by simp; omega
            have d122 : decide ((122 : Int) < (c : Int)) = false := by simp; omega
            have d90 : decide ((90 : Int) < (c : Int)) = false := by simp; omega
            have d46 : ((c : Int) != 46) = true := by rw [bne_iff_ne]; omega
            have d95 : ((c : Int) != 95) = true := by rw [bne_iff_ne]; omega
            have HKEQ := Lib.hid (show k = n by
              by_cases h : k = n
              · exact h
              · exact absurd (HKN.out (by omega)) (by unfold Lit; omega))
            clear h0 h1
            go_wp2_with fail
            refine bodyPost_ret (results_cell_row Try.results8 _ _ R 41 _ (0, 0) _ rfl HR.out Try.underlying41 rfl HS41.out) rfl ?_
            exact ⟨by rw [HKEQ.out], HB.out⟩
          · have h0 : 46 ≤ c := by omega
            have h1 : c ≤ 46 := by omega
            have d48 : decide ((c : Int) < 48) = true := by simp; omega
            have d97 : decide ((c : Int) < 97) = true := by simp; omega
            have d65 : decide ((c : Int) < 65) = true := by simp; omega
            have d57 : decide ((57 : Int) < (c : Int)) = false := by simp; omega
            have d122 : decide ((122 : Int) < (c : Int)) = false := by simp; omega
            have d90 : decide ((90 : Int) < (c : Int)) = false := by simp; omega
            have d46 : ((c : Int) != 46) = false := by rw [show c = 46 by omega]; rfl
            have d95 : ((c : Int) != 95) = true := by rw [bne_iff_ne]; omega
            have HLT := Lib.hid (show k < n by
              by_cases h : k = n
              · exact absurd (show Lit c by unfold Lit; omega) (HKE.out h)
              · omega)
            clear h0 h1
            go_wp2_with fail
            have HR5 := Lib.hid (Blk.set_ HR.out 1 (.int .i32 ((k + 1 : Nat) : Int)))
            have HB5 := Lib.hid (HB.out.setCell (p := ⟨R, 1, none⟩) hRw (.int .i32 ((k + 1 : Nat) : Int)))
            go_roundw
            case rel => exact ⟨k + 1, by omega, HLT.out, HR5.out, HB5.out⟩
            case measure =>
              have h5 := Blk.get HR5.out 1 (v := .int .i32 ((k + 1 : Nat) : Int)) rfl
              have hlt2 := HLT.out
              rw [Int.natCast_succ] at h5
              have e1 : ((k : Nat) : Int).toNat = k := Int.toNat_natCast k
              have e2 : ((k : Int) + 1).toNat = k + 1 := by omega
              simp only [h5, HR1.out, e1, e2]
              exact Nat.sub_lt_sub_left hlt2 (Nat.lt_succ_self k)
        · by_cases hx48 : c < 48
          · have h0 : 47 ≤ c := by omega
            have h1 : c ≤ 47 := by omega
            have d48 : decide ((c : Int) < 48) = true := by simp; omega
            have d97 : decide ((c : Int) < 97) = true := by simp; omega
            have d65 : decide ((c : Int) < 65) = true := by simp; omega
            have d57 : decide ((57 : Int) < (c : Int)) = false := by simp; omega
            have d122 : decide ((122 : Int) < (c : Int)) = false := by simp; omega
            have d90 : decide ((90 : Int) < (c : Int)) = false := by simp; omega
            have d46 : ((c : Int) != 46) = true := by rw [bne_iff_ne]; omega
            have d95 : ((c : Int) != 95) = true := by rw [bne_iff_ne]; omega
            have HKEQ := Lib.hid (show k = n by
              by_cases h : k = n
              · exact h
              · exact absurd (HKN.out (by omega)) (by unfold Lit; omega))
            clear h0 h1
            go_wp2_with fail
            refine bodyPost_ret (results_cell_row Try.results8 _ _ R 41 _ (0, 0) _ rfl HR.out Try.underlying41 rfl HS41.out) rfl ?_
            exact ⟨by rw [HKEQ.out], HB.out⟩
          · by_cases hx58 : c < 58
            · have h0 : 48 ≤ c := by omega
              have h1 : c ≤ 57 := by omega
              have d48 : decide ((c : Int) < 48) = false := by simp; omega
              have d97 : decide ((c : Int) < 97) = true := by simp; omega
              have d65 : decide ((c : Int) < 65) = true := by simp; omega
              have d57 : decide ((57 : Int) < (c : Int)) = false := by simp; omega
              have d122 : decide ((122 : Int) < (c : Int)) = false := by simp; omega
              have d90 : decide ((90 : Int) < (c : Int)) = false := by simp; omega
              have d46 : ((c : Int) != 46) = true := by rw [bne_iff_ne]; omega
              have d95 : ((c : Int) != 95) = true := by rw [bne_iff_ne]; omega
              have HLT := Lib.hid (show k < n by
                by_cases h : k = n
                · exact absurd (show Lit c by unfold Lit; omega) (HKE.out h)
                · omega)
              clear h0 h1
              go_wp2_with fail
              have HR5 := Lib.hid (Blk.set_ HR.out 1 (.int .i32 ((k + 1 : Nat) : Int)))
              have HB5 := Lib.hid (HB.out.setCell (p := ⟨R, 1, none⟩) hRw (.int .i32 ((k + 1 : Nat) : Int)))
              go_roundw
              case rel => exact ⟨k + 1, by omega, HLT.out, HR5.out, HB5.out⟩
              case measure =>
                have h5 := Blk.get HR5.out 1 (v := .int .i32 ((k + 1 : Nat) : Int)) rfl
                have hlt2 := HLT.out
                rw [Int.natCast_succ] at h5
                have e1 : ((k : Nat) : Int).toNat = k := Int.toNat_natCast k
                have e2 : ((k : Int) + 1).toNat = k + 1 := by omega
                simp only [h5, HR1.out, e1, e2]
                exact Nat.sub_lt_sub_left hlt2 (Nat.lt_succ_self k)
            · have h0 : 58 ≤ c := by omega
              have h1 : c ≤ 64 := by omega
              have d48 : decide ((c : Int) < 48) = false := by simp; omega
              have d97 : decide ((c : Int) < 97) = true := by simp; omega
              have d65 : decide ((c : Int) < 65) = true := by simp; omega
              have d57 : decide ((57 : Int) < (c : Int)) = true := by simp; omega
              have d122 : decide ((122 : Int) < (c : Int)) = false := by simp; omega
              have d90 : decide ((90 : Int) < (c : Int)) = false := by simp; omega
              have d46 : ((c : Int) != 46) = true := by rw [bne_iff_ne]; omega
              have d95 : ((c : Int) != 95) = true := by rw [bne_iff_ne]; omega
              have HKEQ := Lib.hid (show k = n by
                by_cases h : k = n
                · exact h
                · exact absurd (HKN.out (by omega)) (by unfold Lit; omega))
              clear h0 h1
              go_wp2_with fail
              refine bodyPost_ret (results_cell_row Try.results8 _ _ R 41 _ (0, 0) _ rfl HR.out Try.underlying41 rfl HS41.out) rfl ?_
              exact ⟨by rw [HKEQ.out], HB.out⟩
      · by_cases hx96 : c < 96
        · by_cases hx91 : c < 91
          · have h0 : 65 ≤ c := by omega
            have h1 : c ≤ 90 := by omega
            have d48 : decide ((c : Int) < 48) = false := by simp; omega
            have d97 : decide ((c : Int) < 97) = true := by simp; omega
            have d65 : decide ((c : Int) < 65) = false := by simp; omega
            have d57 : decide ((57 : Int) < (c : Int)) = true := by simp; omega
            have d122 : decide ((122 : Int) < (c : Int)) = false := by simp; omega
            have d90 : decide ((90 : Int) < (c : Int)) = false := by simp; omega
            have d46 : ((c : Int) != 46) = true := by rw [bne_iff_ne]; omega
            have d95 : ((c : Int) != 95) = true := by rw [bne_iff_ne]; omega
            have HLT := Lib.hid (show k < n by
              by_cases h : k = n
              · exact absurd (show Lit c by unfold Lit; omega) (HKE.out h)
              · omega)
            clear h0 h1
            go_wp2_with fail
            have HR5 := Lib.hid (Blk.set_ HR.out 1 (.int .i32 ((k + 1 : Nat) : Int)))
            have HB5 := Lib.hid (HB.out.setCell (p := ⟨R, 1, none⟩) hRw (.int .i32 ((k + 1 : Nat) : Int)))
            go_roundw
            case rel => exact ⟨k + 1, by omega, HLT.out, HR5.out, HB5.out⟩
            case measure =>
              have h5 := Blk.get HR5.out 1 (v := .int .i32 ((k + 1 : Nat) : Int)) rfl
              have hlt2 := HLT.out
              rw [Int.natCast_succ] at h5
              have e1 : ((k : Nat) : Int).toNat = k := Int.toNat_natCast k
              have e2 : ((k : Int) + 1).toNat = k + 1 := by omega
              simp only [h5, HR1.out, e1, e2]
              exact Nat.sub_lt_sub_left hlt2 (Nat.lt_succ_self k)
          · by_cases hx95 : c < 95
            · have h0 : 91 ≤ c := by omega
              have h1 : c ≤ 94 := by omega
              have d48 : decide ((c : Int) < 48) = false := by simp; omega
              have d97 : decide ((c : Int) < 97) = true := by simp; omega
              have d65 : decide ((c : Int) < 65) = false := by simp; omega
              have d57 : decide ((57 : Int) < (c : Int)) = true := by simp; omega
              have d122 : decide ((122 : Int) < (c : Int)) = false := by simp; omega
              have d90 : decide ((90 : Int) < (c : Int)) = true := by simp; omega
              have d46 : ((c : Int) != 46) = true := by rw [bne_iff_ne]; omega
              have d95 : ((c : Int) != 95) = true := by rw [bne_iff_ne]; omega
              have HKEQ := Lib.hid (show k = n by
                by_cases h : k = n
                · exact h
                · exact absurd (HKN.out (by omega)) (by unfold Lit; omega))
              clear h0 h1
              go_wp2_with fail
              refine bodyPost_ret (results_cell_row Try.results8 _ _ R 41 _ (0, 0) _ rfl HR.out Try.underlying41 rfl HS41.out) rfl ?_
              exact ⟨by rw [HKEQ.out], HB.out⟩
            · have h0 : 95 ≤ c := by omega
              have h1 : c ≤ 95 := by omega
              have d48 : decide ((c : Int) < 48) = false := by simp; omega
              have d97 : decide ((c : Int) < 97) = true := by simp; omega
              have d65 : decide ((c : Int) < 65) = false := by simp; omega
              have d57 : decide ((57 : Int) < (c : Int)) = true := by simp; omega
              have d122 : decide ((122 : Int) < (c : Int)) = false := by simp; omega
              have d90 : decide ((90 : Int) < (c : Int)) = true := by simp; omega
              have d46 : ((c : Int) != 46) = true := by rw [bne_iff_ne]; omega
              have d95 : ((c : Int) != 95) = false := by rw [show c = 95 by omega]; rfl
              have HLT := Lib.hid (show k < n by
                by_cases h : k = n
                · exact absurd (show Lit c by unfold Lit; omega) (HKE.out h)
                · omega)
              clear h0 h1
              go_wp2_with fail
              have HR5 := Lib.hid (Blk.set_ HR.out 1 (.int .i32 ((k + 1 : Nat) : Int)))
              have HB5 := Lib.hid (HB.out.setCell (p := ⟨R, 1, none⟩) hRw (.int .i32 ((k + 1 : Nat) : Int)))
              go_roundw
              case rel => exact ⟨k + 1, by omega, HLT.out, HR5.out, HB5.out⟩
              case measure =>
                have h5 := Blk.get HR5.out 1 (v := .int .i32 ((k + 1 : Nat) : Int)) rfl
                have hlt2 := HLT.out
                rw [Int.natCast_succ] at h5
                have e1 : ((k : Nat) : Int).toNat = k := Int.toNat_natCast k
                have e2 : ((k : Int) + 1).toNat = k + 1 := by omega
                simp only [h5, HR1.out, e1, e2]
                exact Nat.sub_lt_sub_left hlt2 (Nat.lt_succ_self k)
        · by_cases hx97 : c < 97
          · have h0 : 96 ≤ c := by omega
            have h1 : c ≤ 96 := by omega
            have d48 : decide ((c : Int) < 48) = false := by simp; omega
            have d97 : decide ((c : Int) < 97) = true := by simp; omega
            have d65 : decide ((c : Int) < 65) = false := by simp; omega
            have d57 : decide ((57 : Int) < (c : Int)) = true := by simp; omega
            have d122 : decide ((122 : Int) < (c : Int)) = false := by simp; omega
            have d90 : decide ((90 : Int) < (c : Int)) = true := by simp; omega
            have d46 : ((c : Int) != 46) = true := by rw [bne_iff_ne]; omega
            have d95 : ((c : Int) != 95) = true := by rw [bne_iff_ne]; omega
            have HKEQ := Lib.hid (show k = n by
              by_cases h : k = n
              · exact h
              · exact absurd (HKN.out (by omega)) (by unfold Lit; omega))
            clear h0 h1
            go_wp2_with fail
            refine bodyPost_ret (results_cell_row Try.results8 _ _ R 41 _ (0, 0) _ rfl HR.out Try.underlying41 rfl HS41.out) rfl ?_
            exact ⟨by rw [HKEQ.out], HB.out⟩
          · by_cases hx123 : c < 123
            · have h0 : 97 ≤ c := by omega
              have h1 : c ≤ 122 := by omega
              have d48 : decide ((c : Int) < 48) = false := by simp; omega
              have d97 : decide ((c : Int) < 97) = false := by simp; omega
              have d65 : decide ((c : Int) < 65) = false := by simp; omega
              have d57 : decide ((57 : Int) < (c : Int)) = true := by simp; omega
              have d122 : decide ((122 : Int) < (c : Int)) = false := by simp; omega
              have d90 : decide ((90 : Int) < (c : Int)) = true := by simp; omega
              have d46 : ((c : Int) != 46) = true := by rw [bne_iff_ne]; omega
              have d95 : ((c : Int) != 95) = true := by rw [bne_iff_ne]; omega
              have HLT := Lib.hid (show k < n by
                by_cases h : k = n
                · exact absurd (show Lit c by unfold Lit; omega) (HKE.out h)
                · omega)
              clear h0 h1
              go_wp2_with fail
              have HR5 := Lib.hid (Blk.set_ HR.out 1 (.int .i32 ((k + 1 : Nat) : Int)))
              have HB5 := Lib.hid (HB.out.setCell (p := ⟨R, 1, none⟩) hRw (.int .i32 ((k + 1 : Nat) : Int)))
              go_roundw
              case rel => exact ⟨k + 1, by omega, HLT.out, HR5.out, HB5.out⟩
              case measure =>
                have h5 := Blk.get HR5.out 1 (v := .int .i32 ((k + 1 : Nat) : Int)) rfl
                have hlt2 := HLT.out
                rw [Int.natCast_succ] at h5
                have e1 : ((k : Nat) : Int).toNat = k := Int.toNat_natCast k
                have e2 : ((k : Int) + 1).toNat = k + 1 := by omega
                simp only [h5, HR1.out, e1, e2]
                exact Nat.sub_lt_sub_left hlt2 (Nat.lt_succ_self k)
            · have h0 : 123 ≤ c := by omega
              have h1 : c ≤ 255 := by omega
              have d48 : decide ((c : Int) < 48) = false := by simp; omega
              have d97 : decide ((c : Int) < 97) = false := by simp; omega
              have d65 : decide ((c : Int) < 65) = false := by simp; omega
              have d57 : decide ((57 : Int) < (c : Int)) = true := by simp; omega
              have d122 : decide ((122 : Int) < (c : Int)) = true := by simp; omega
              have d90 : decide ((90 : Int) < (c : Int)) = true := by simp; omega
              have d46 : ((c : Int) != 46) = true := by rw [bne_iff_ne]; omega
              have d95 : ((c : Int) != 95) = true := by rw [bne_iff_ne]; omega
              have HKEQ := Lib.hid (show k = n by
                by_cases h : k = n
                · exact h
                · exact absurd (HKN.out (by omega)) (by unfold Lit; omega))
              clear h0 h1
              go_wp2_with fail
              refine bodyPost_ret (results_cell_row Try.results8 _ _ R 41 _ (0, 0) _ rfl HR.out Try.underlying41 rfl HS41.out) rfl ?_
              exact ⟨by rw [HKEQ.out], HB.out⟩
    · have q1 : ¬ (k : Int) < (E.size : Int) := by omega
      have q2 : decide (k < E.size) = false := by simp; omega
      have HKEQ := Lib.hid (show k = n by have := HNE.out; omega)
      clear hlt
      go_wp2_with fail
      refine bodyPost_ret (results_cell_row Try.results8 _ _ R 41 _ (0, 0) _ rfl HR.out Try.underlying41 rfl HS41.out) rfl ?_
      exact ⟨by rw [HKEQ.out], HB.out⟩
set_option maxRecDepth 100000 in
set_option maxHeartbeats 4000000 in
/-- The thin package's call. -/
theorem implRange (s : ByteArray) (p n : Nat) (w : World) (hs : s.size ≤ 2147483647) (hn : 0 < n) (hI : IsNum s (p : Int) n) :
    Calls Try.prog 4 #[.string s, .int .i64 p] w fun e w' => e = .returned (.tuple #[.int .i64 p, .int .i64 n]) ∧ Below w.heap.size w w' := by
  have hps : p < s.size := by
    obtain ⟨p', hpp, hps, _⟩ := hI
    omega
  have hpn : p + n ≤ s.size := by
    obtain ⟨p', hpp, _, _, _, hpn, _⟩ := hI
    have : p = p' := by omega
    omega
  have HW := Lib.hid (within_walk s p w (by omega) hs)
  have HSR := Lib.hid (fun g w' (h : Blk w' g 37 [.string ⟨#[]⟩, .string ⟨#[]⟩, .string ⟨#[]⟩, .string s, .string ⟨#[]⟩, .string ⟨#[]⟩, .string ⟨#[]⟩, .string ⟨#[]⟩, .int .u8 0, .int .u32 0]) => sourceRange g s p n w' _ h rfl hs hn hI)
  have p31 : p ≤ 2147483647 := by omega
  have n31 : n ≤ 2147483647 := by omega
  clear hI
  go_enter Try.func4, Try.ntmps4
  go_wp2_with fail
  refine HW.out.mono ?_
  rintro e W ⟨rfl, rfl⟩
  have HB := Lib.hid (Blk.new W 37 [.string ⟨#[]⟩, .string ⟨#[]⟩, .string ⟨#[]⟩, .string s, .string ⟨#[]⟩, .string ⟨#[]⟩, .string ⟨#[]⟩, .string ⟨#[]⟩, .int .u8 0, .int .u32 0])
  go_wp2_with fail
  refine (HSR.out _ _ HB.out).mono ?_
  rintro e W2 ⟨rfl, hb2⟩
  have HB2 := Lib.hid (show Below W.heap.size W W2 from (below_at (Below.refl _ _) (.cells #[.string ⟨#[]⟩, .string ⟨#[]⟩, .string ⟨#[]⟩, .string s, .string ⟨#[]⟩, .string ⟨#[]⟩, .string ⟨#[]⟩, .string ⟨#[]⟩, .int .u8 0, .int .u32 0] 37)).trans (hb2.mono (by simp)))
  clear hb2
  have HR := Lib.hid (Blk.new W2 41 [.int .i32 p, .int .i32 n])
  have r0 := Blk.get HR.out 0 rfl
  have r1 := Blk.get HR.out 1 rfl
  go_wp2_with fail
  go_quiet (fail)
  go_wp2_with fail
  go_returns
  exact ⟨rfl, below_drewN (HB2.out.alloc HB2.out.size _) _⟩
end Go.Proofs.Ytefippeaalkmeaa.Scan
