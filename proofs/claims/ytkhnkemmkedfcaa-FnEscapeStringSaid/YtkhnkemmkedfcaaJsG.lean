/- The reference's scanner: the token of a string. The walk. -/
import Derived.Test.YtkhnkemmkedfcaaJsF
import Derived.Deep.RegionHeld3
namespace Go.Proofs.Ytkhnkemmkedfcaa.Js
open Go.RowKit Go.Proofs.Ytkhnkemmkedfcaa.Aid Go.Proofs.Ytkhnkemmkedfcaa.Runes Go.Proofs.Ytkhnkemmkedfcaa.Bytes Go.Proofs.Ytkhnkemmkedfcaa.Wtf Go.Proofs.Ytkhnkemmkedfcaa.Esc
attribute [local go_sem ↓] Go.wp_at_zero Go.wp_at_succ
set_option linter.unusedVariables false
set_option linter.unusedSimpArgs false
/-- A token of a string; one that is none. -/
def tok (text more : ByteArray) (old : Bool) : List Value := [.int .i64 8, .string text, .string more, .int .u64 0, .int .i64 0, .int .i64 0, .bool false, .bool false, .bool old]
def zer : List Value := [.int .i64 0, .string ⟨#[]⟩, .string ⟨#[]⟩, .int .u64 0, .int .i64 0, .int .i64 0, .bool false, .bool false, .bool false]
theorem size37 : (Try.prog.info? 37).map (·.size) = some 9 := by kernel_rfl
theorem tok_one (T M : ByteArray) (old : Bool) : ∀ v ∈ tok T M old, v.oneCell' = true := by simp [tok, Value.oneCell']
theorem size_tok (T M : ByteArray) (old : Bool) : (Try.prog.info? 37).map (·.size) = some (tok T M old).length := size37
theorem tok_zer (T M : ByteArray) (old : Bool) : (tok T M old).length = zer.length := rfl
theorem grown_new {a b c : World} {r : Option Nat} {k : Nat} (h : a.grownBy b r) (x : b.grownBy c (some k)) (hk : a.heap.size ≤ k) : a.grownBy c r :=
  ⟨x.os.trans h.os, x.tape.trans h.tape, x.output.trans h.output, Nat.le_trans h.size x.size, fun i hi hr => (x.block i (Nat.lt_of_lt_of_le hi h.size) (fun e => by injection e with e; omega)).trans (h.block i hi hr)⟩
/-- What the token of a string is. -/
def TextPost (O : Option (List Nat)) (g : Nat) (s : ByteArray) (w : World) (e : Ending) (w' : World) : Prop :=
  w.grownBy w' (some g) ∧ match O with
  | some us => ∃ M : ByteArray, e = .returned (.agg (tok (str (ub us)) M false).toArray) ∧ Sc w' g s s.size 0
  | none => ∃ (T M : ByteArray) (old : Bool) (p : Nat) (b : Int), e = .returned (.agg (tok T M old).toArray) ∧ 0 ≤ b ∧ b ≤ 2 ∧ p ≤ s.size ∧ Sc w' g s p b ∧ (b ≠ 0 ∨ old = true ∨ p ≠ s.size)
/-- What is known at a round's head. -/
def TextRel (O : Option (List Nat)) (g : Nat) (s : ByteArray) (w wr : World) (p : Nat) : Prop :=
  ∃ (T : ByteArray) (old : Bool), 1 ≤ p ∧ p ≤ s.size ∧ T.size ≤ 4 * p ∧ Sc wr g s p 0 ∧ Blk wr (w.heap.size + 1) 37 (tok T ⟨#[]⟩ old) ∧ Blk wr w.heap.size 37 zer ∧
    (old = false → ∃ acc, T = str (ub acc) ∧ O = (js ((nats s).drop p)).map (acc ++ ·)) ∧ (old = true → O = none) ∧ w.grownBy wr (some g)
/-- .. and behind the loop. -/
def TextEnd (O : Option (List Nat)) (g : Nat) (s : ByteArray) (w wr : World) : Prop :=
  ∃ p, TextRel O g s w wr p ∧ ((p < s.size ∧ byt s p = 34) ∨ (O = none ∧ ¬ (p < s.size ∧ byt s p = 34)))
theorem ur_byte {s : ByteArray} {p r n : Nat} (h : ur ((nats s).drop p) = (r, n)) (hn : 0 < n) (hr : r < 128) : byt s p = r := by
  rcases ur_bytes h hn with ⟨_, _, e⟩ | ⟨_, e, _⟩
  · rw [drop_head] at e
    exact e
  · omega
theorem ur_zero {s : ByteArray} {p : Nat} (h : (ur ((nats s).drop p)).2 = 0) (hp : p < s.size) : byt s p ≠ 34 := by
  intro e
  rw [drop_at s p hp, e, ur_one 34 _ (by omega)] at h
  cases h
theorem js_at (s : ByteArray) (p : Nat) (hp : p < s.size) (hb : byt s p = 34) : js ((nats s).drop p) = if p + 1 = s.size then some [] else none := by
  rw [drop_at s p hp, hb, js_quote (by simp) (by simp)]
  have hl : ((nats s).drop (p + 1)).length = s.size - (p + 1) := by rw [List.length_drop, nats_length]
  simp only [List.length_cons, hl]
  by_cases h : p + 1 = s.size
  · rw [if_pos (by omega), if_pos h]
  · rw [if_neg (by omega), if_neg h]
/-- Where the scanner stands. -/
def place (w : World) (g : Nat) : Nat := match w.cell? ⟨g, 1, none⟩ with
  | some (.int _ n) => n.toNat
  | _ => 0
theorem place_is {w : World} {g : Nat} {s : ByteArray} {p : Nat} {bad : Int} (h : Sc w g s p bad) : place w g = p := by
  rw [place, Blk.get h 1 rfl]
  simp
set_option maxRecDepth 100000 in
set_option maxHeartbeats 16000000 in
theorem text (g : Nat) (s : ByteArray) (w : World) (h : Sc w g s 0 0) (hs : s.size ≤ 34359738368) (h0 : 0 < s.size) (hb0 : byt s 0 = 34) :
    Calls Try.prog 57 #[.pointer (some ⟨g, 0, none⟩)] w (TextPost (js ((nats s).drop 1)) g s w) := by
  have hlt := Blk.lt h
  obtain ⟨O, hO⟩ : ∃ O, O = js ((nats s).drop 1) := ⟨_, rfl⟩
  rw [← hO]
  have HO := Lib.hid hO
  have hsl : ∀ w, (Instr.slice 9 (.string s) (some (.int .i64 0)) (some (.int .i64 1)) none).run Try.prog w = .ok (.string (s.extract 0 1)) w := fun w => slice_mid s 0 1 (by omega) (by omega) w
  have wr1 : IntKind.i64.wrap 1 = 1 := IntWalk.i64_in _ (by omega)
  have hqn : nats (s.extract 0 1) = [34] := by
    rw [nats_extract, cut_next s 0 0 (Nat.le_refl _) h0, cut_self, hb0]
    rfl
  have hqz : (s.extract 0 1).size = 1 := extract_size0 s 0 1 (by omega) (by omega)
  obtain ⟨qt, hqt⟩ : ∃ q, q = s.extract 0 1 := ⟨_, rfl⟩
  rw [← hqt] at hsl hqn hqz
  have HQN := Lib.hid hqn
  have HQZ := Lib.hid hqz
  have HS0 := Lib.hid h
  clear h hO hqt hqn hqz hb0
  go_enter Try.func57, Try.ntmps57
  go_wp2_with fail
  obtain ⟨W0, hW0⟩ : ∃ W0, W0 = (w.alloc (.cells zer.toArray 37)).alloc (.cells (tok ⟨#[]⟩ ⟨#[]⟩ false).toArray 37) := ⟨_, rfl⟩
  have HS := Lib.hid (show Sc W0 g s 0 0 by rw [hW0]; exact Blk.alloc (Blk.alloc HS0.out _) _)
  have HT := Lib.hid (show Blk W0 (w.heap.size + 1) 37 (tok ⟨#[]⟩ ⟨#[]⟩ false) by
    have := Blk.new (w.alloc (.cells zer.toArray 37)) 37 (tok ⟨#[]⟩ ⟨#[]⟩ false)
    rw [show (w.alloc (.cells zer.toArray 37)).heap.size = w.heap.size + 1 by simp] at this
    rw [hW0]
    exact this)
  have HZ := Lib.hid (show Blk W0 w.heap.size 37 zer by rw [hW0]; exact Blk.alloc (Blk.new w 37 zer) _)
  have HG := Lib.hid (show w.grownBy W0 (some g) by rw [hW0]; exact only_alloc (only_alloc (World.grownBy.refl w _) _) _)
  simp only [zer, tok] at hW0
  rw [← hW0]
  clear hW0 HS0
  have c0 := Blk.get HS.out 0 rfl
  have c1 := Blk.get HS.out 1 rfl
  have f1 := Blk.frozen HS.out 1
  go_quiet (fail)
  have HS1 := Lib.hid (Sc.set (Sc.drewN HS.out nq) 1)
  have HT1 := Lib.hid (Blk.far (Blk.drewN HT.out nq) (p := ⟨g, 1, none⟩) (by show w.heap.size + 1 ≠ g; omega) (.int .i64 1))
  have HZ1 := Lib.hid (Blk.far (Blk.drewN HZ.out nq) (p := ⟨g, 1, none⟩) (by show w.heap.size ≠ g; omega) (.int .i64 1))
  have HG1 := Lib.hid (only_setCell (p := ⟨g, 1, none⟩) (only_drewN HG.out nq) (.inl rfl) (.int .i64 1))
  go_upto_block 0 with fail
  clear c0 c1 f1 hsl wr1 HS HT HZ HG
  go_cut [6] (fun _ wx => TextEnd O g s w wx)
  case first =>
    go_wp2_with fail
    go_loopw [6] (fun _ wr => ∃ p, TextRel O g s w wr p) (fun _ wr => s.size - place wr g)
    case atStart => exact ⟨1, ⟨#[]⟩, false, Nat.le_refl _, h0, by simp [ByteArray.size], HS1.out, HT1.out, HZ1.out, (fun _ => ⟨[], rfl, by rw [HO.out]; simp⟩), (fun h => by cases h), HG1.out⟩
    case round =>
      clear HS1 HT1 HZ1 HG1
      obtain ⟨k, T, old, h1k, hks, hT4, hsc, htk, hz, hold, hnew, hgr⟩ := hrel
      have HS := Lib.hid hsc
      have HT := Lib.hid htk
      have HZ := Lib.hid hz
      have HG := Lib.hid hgr
      have HOLD := Lib.hid hold
      have HNEW := Lib.hid hnew
      have hts := Blk.lt htk
      have HPL := Lib.hid (place_is hsc)
      have c0 := Blk.get hsc 0 rfl
      have c1 := Blk.get hsc 1 rfl
      clear hsc htk hz hgr hold hnew
      have HI := Lib.hid (fun w' (hw : Sc w' g s k 0) => scanIs g s k 0 qt w' hw (by omega) hks (by rw [HQZ.out]; omega))
      have hone := isAt_one s k qt 34 HQN.out hks
      by_cases hin : k < s.size
      · have t1 : decide (k < s.size) = true := by simp; omega
        by_cases hb : byt s k = 34
        · rw [hone, decide_eq_true ⟨hin, hb⟩] at HI
          have HEND := Lib.hid (And.intro hin hb)
          clear hone hb
          go_wp2_with fail
          go_quiet ((go_at_call 47; exact Calls.quiet_of (HI.out _ (Sc.drewN HS.out _))))
          go_wp2_with fail
          go_meet
          exact ⟨k, ⟨T, old, h1k, hks, hT4, Sc.drewN HS.out _, Blk.drewN HT.out _, Blk.drewN HZ.out _, HOLD.out, HNEW.out, only_drewN HG.out _⟩, .inl HEND.out⟩
        · rw [hone, decide_eq_false (fun c => hb c.2)] at HI
          have HB := Lib.hid hb
          clear hone hb
          go_wp2_with fail
          go_quiet ((go_at_call 47; exact Calls.quiet_of (HI.out _ (Sc.drewN HS.out _))))
          have HS2 := Lib.hid (Sc.drewN HS.out nq)
          have HT2 := Lib.hid (Blk.drewN HT.out nq)
          have HZ2 := Lib.hid (Blk.drewN HZ.out nq)
          have HG2 := Lib.hid (only_drewN HG.out nq)
          obtain ⟨W2, hW2⟩ : ∃ W2, W2 = wr.drewN nq := ⟨_, rfl⟩
          rw [← hW2] at HS2 HT2 HZ2 HG2 ⊢
          have hts2 : w.heap.size + 1 < W2.heap.size := by rw [hW2]; exact hts
          clear hW2 c0 c1 t1 HS HT HZ HG hts
          obtain ⟨r, n, hrn⟩ : ∃ r n, ur ((nats s).drop k) = (r, n) := ⟨_, _, rfl⟩
          have HR := Lib.hid (fun w' (hw : Sc w' g s k 0) => scanRune g s k 0 w' hw (by omega) hks)
          rw [hrn] at HR
          have hne : (nats s).drop k ≠ [] := rest_ne s k hin
          have hg34 : ((nats s).drop k).getD 0 0 ≠ 34 := by rw [drop_head]; exact HB.out
          by_cases hbad : n = 0 ∨ r = 10 ∨ r = 13
          · have HN := Lib.hid (show O = none by
              cases old with
              | true => exact HNEW.out rfl
              | false =>
                obtain ⟨acc, _, e⟩ := HOLD.out rfl
                rw [e, js_bad hne hg34 (by rw [hrn]; exact hbad)]
                rfl)
            have HFIN := Lib.hid (show ∀ m, TextEnd O g s w (W2.drewN m) from fun m => ⟨k, ⟨T, old, h1k, hks, hT4, Sc.drewN HS2.out _, Blk.drewN HT2.out _, Blk.drewN HZ2.out _, HOLD.out, HNEW.out, only_drewN HG2.out _⟩, .inr ⟨HN.out, fun c => HB.out c.2⟩⟩)
            clear hrn hne hg34
            by_cases q0 : n = 0
            · have t0 : ((n : Int) == 0) = true := by simp; omega
              clear hbad q0
              go_wp2_with fail
              refine (HR.out _ HS2.out).mono ?_
              rintro e w3 ⟨rfl, nd, rfl⟩
              go_wp2_with fail
              go_meet
              exact HFIN.out _
            have t0 : ((n : Int) == 0) = false := by simp; omega
            by_cases q10 : r = 10
            · have t10 : ((r : Int) == 10) = true := by simp; omega
              clear hbad q0 q10
              go_wp2_with fail
              refine (HR.out _ HS2.out).mono ?_
              rintro e w3 ⟨rfl, nd, rfl⟩
              go_wp2_with fail
              go_meet
              exact HFIN.out _
            have t10 : ((r : Int) == 10) = false := by simp; omega
            have t13 : ((r : Int) == 13) = true := by simp; omega
            clear hbad q0 q10
            go_wp2_with fail
            refine (HR.out _ HS2.out).mono ?_
            rintro e w3 ⟨rfl, nd, rfl⟩
            go_wp2_with fail
            go_meet
            exact HFIN.out _
          · have hn0 : 0 < n := by omega
            have t0 : ((n : Int) == 0) = false := by simp; omega
            have t10 : ((r : Int) == 10) = false := by simp; omega
            have t13 : ((r : Int) == 13) = false := by simp; omega
            have hle := ur_le hrn hn0
            have hkn : k + n ≤ s.size := by have := hle.1; rw [List.length_drop, nats_length] at this; omega
            have hrm := hle.2.2.1
            by_cases q92 : r = 92
            · have t92 : ((r : Int) != 92) = false := by simp; omega
              have hn1 : n = 1 := by rcases ur_bytes hrn hn0 with ⟨e, _, _⟩ | ⟨_, e, _⟩ <;> omega
              have hd : (nats s).drop k = 92 :: (nats s).drop (k + 1) := by rw [drop_at s k hin, ur_byte hrn hn0 (by omega), q92]
              have HE := Lib.hid (fun w' (hw : Sc w' g s (k + 1) 0) => escape g s (k + 1) 0 w' hw (by omega) (by omega))
              have c1 := Blk.get HS2.out 1 rfl
              have f1 := Blk.frozen HS2.out 1
              have HD := Lib.hid hd
              have HN1 := Lib.hid hn1
              clear hd hrn hne hg34 q92 hbad hn1 hle
              go_wp2_with fail
              refine (HR.out _ HS2.out).mono ?_
              rintro e w3 ⟨rfl, nd, rfl⟩
              go_upto_region 11 with fail
              have hc : (k : Int) + (n : Int) = ((k + 1 : Nat) : Int) := by have := HN1.out; omega
              rw [hc]
              have HS3 := Lib.hid (Sc.set (Sc.drewN HS2.out nd) (k + 1))
              have HT3 := Lib.hid (Blk.far (Blk.drewN HT2.out nd) (p := ⟨g, 1, none⟩) (by show w.heap.size + 1 ≠ g; omega) (.int .i64 ((k + 1 : Nat) : Int)))
              have HZ3 := Lib.hid (Blk.far (Blk.drewN HZ2.out nd) (p := ⟨g, 1, none⟩) (by show w.heap.size ≠ g; omega) (.int .i64 ((k + 1 : Nat) : Int)))
              have HG3 := Lib.hid (only_setCell (p := ⟨g, 1, none⟩) (only_drewN HG2.out nd) (.inl rfl) (.int .i64 ((k + 1 : Nat) : Int)))
              obtain ⟨W3, hW3⟩ : ∃ W3, W3 = (W2.drewN nd).setCell ⟨g, 1, none⟩ (.int .i64 ((k + 1 : Nat) : Int)) := ⟨_, rfl⟩
              rw [← hW3] at HS3 HT3 HZ3 HG3 ⊢
              clear hW3 hc c1 f1 HS2 HT2 HZ2 HG2 t0 t10 t13 t92
              go_wp2_with fail
              refine (HE.out _ HS3.out).mono ?_
              rintro e W4 ⟨hg4, hpost⟩
              have HT := Lib.hid (Blk.grown HT3.out hg4 (by intro e; injection e with e; omega))
              have HZ := Lib.hid (Blk.grown HZ3.out hg4 (by intro e; injection e with e; omega))
              have HG := Lib.hid (grown_trans HG3.out hg4)
              clear hg4
              cases hj : je ((nats s).drop (k + 1)) with
              | some uk =>
                obtain ⟨us, m⟩ := uk
                rw [hj] at hpost
                obtain ⟨rfl, hs4⟩ := hpost
                have HS := Lib.hid hs4
                have hkp := je_keep hj
                have hm : k + 1 + m ≤ s.size := by have := hkp.2.1; rw [List.length_drop, nats_length] at this; omega
                have hum := hkp.2.2.1
                have hyz : (str (ub us)).size = 2 * us.length := by rw [str_size, ub_len]
                have hTz : (T ++ str (ub us)).size ≤ 4 * (k + 1 + m) := by rw [ByteArray.size_append, hyz]; omega
                have HACC := Lib.hid (show old = false → ∃ acc, T ++ str (ub us) = str (ub acc) ∧ O = (js ((nats s).drop (k + 1 + m))).map (acc ++ ·) from fun ho => by
                  obtain ⟨acc, e1, e2⟩ := HOLD.out ho
                  refine ⟨acc ++ us, by rw [e1, ub_append, str_append], ?_⟩
                  rw [e2, HD.out, js_esc hj, List.drop_drop]
                  cases js ((nats s).drop (k + 1 + m)) <;> simp)
                have t1 := Blk.get HT.out 1 rfl
                have t8 := Blk.get HT.out 8 rfl
                have g1 := Blk.frozen HT.out 1
                have g8 := Blk.frozen HT.out 8
                have HTZ := Lib.hid hTz
                have hsum : T.size + (str (ub us)).size ≤ 9223372036854775807 := by rw [hyz]; omega
                obtain ⟨Y, hY⟩ : ∃ Y, Y = str (ub us) := ⟨_, rfl⟩
                rw [← hY] at HACC HTZ hsum ⊢
                have HT5 := Lib.hid (Blk.set_ (Blk.set_ HT.out 1 (.string (T ++ Y))) 8 (.bool old))
                have HZ5 := Lib.hid (Blk.far (Blk.far HZ.out (p := ⟨w.heap.size + 1, 1, none⟩) (by show w.heap.size ≠ w.heap.size + 1; omega) (.string (T ++ Y))) (p := ⟨w.heap.size + 1, 8, none⟩) (by show w.heap.size ≠ w.heap.size + 1; omega) (.bool old))
                have HS5 := Lib.hid (Blk.far (Blk.far HS.out (p := ⟨w.heap.size + 1, 1, none⟩) (by show g ≠ w.heap.size + 1; omega) (.string (T ++ Y))) (p := ⟨w.heap.size + 1, 8, none⟩) (by show g ≠ w.heap.size + 1; omega) (.bool old))
                have HG5 := Lib.hid (only_setCell (p := ⟨w.heap.size + 1, 8, none⟩) (only_setCell (p := ⟨w.heap.size + 1, 1, none⟩) HG.out (.inr (by show w.heap.size ≤ w.heap.size + 1; omega)) (.string (T ++ Y))) (.inr (by show w.heap.size ≤ w.heap.size + 1; omega)) (.bool old))
                clear hj hkp hyz hTz hY
                cases old with
                | false =>
                  go_wp2_with fail
                  go_roundw
                  case rel => exact ⟨k + 1 + m, T ++ Y, false, by omega, hm, HTZ.out, HS5.out, HT5.out, HZ5.out, (fun _ => HACC.out (by simp)), (fun h => by cases h), HG5.out⟩
                  case measure =>
                    have e1 := HPL.out
                    have e2 := place_is HS5.out
                    omega
                | true =>
                  go_wp2_with fail
                  go_roundw
                  case rel => exact ⟨k + 1 + m, T ++ Y, true, by omega, hm, HTZ.out, HS5.out, HT5.out, HZ5.out, (fun h => by cases h), (fun _ => HNEW.out (by simp)), HG5.out⟩
                  case measure =>
                    have e1 := HPL.out
                    have e2 := place_is HS5.out
                    omega
              | none =>
                rw [hj] at hpost
                obtain ⟨x, ob, ib, p4, rfl, hio, hx4, hp4, hs4⟩ := hpost
                have HS := Lib.hid hs4
                have HX4 := Lib.hid hx4
                have HIO := Lib.hid hio
                have HN := Lib.hid (show O = none by
                  cases old with
                  | true => exact HNEW.out rfl
                  | false =>
                    obtain ⟨acc, _, e⟩ := HOLD.out rfl
                    rw [e, HD.out, js_esc_none hj]
                    rfl)
                clear hj hs4 hx4 hio
                cases ib with
                | true =>
                  have hob := (HIO.out rfl).1
                  have hkp4 := (HIO.out rfl).2
                  subst hob
                  have t1 := Blk.get HT.out 1 rfl
                  have t8 := Blk.get HT.out 8 rfl
                  have g1 := Blk.frozen HT.out 1
                  have g8 := Blk.frozen HT.out 8
                  have hsum : T.size + x.size ≤ 9223372036854775807 := by have := HX4.out; omega
                  have HTZ := Lib.hid (show (T ++ x).size ≤ 4 * p4 by rw [ByteArray.size_append]; have := HX4.out; omega)
                  have HT5 := Lib.hid (Blk.set_ (Blk.set_ HT.out 1 (.string (T ++ x))) 8 (.bool true))
                  have HZ5 := Lib.hid (Blk.far (Blk.far HZ.out (p := ⟨w.heap.size + 1, 1, none⟩) (by show w.heap.size ≠ w.heap.size + 1; omega) (.string (T ++ x))) (p := ⟨w.heap.size + 1, 8, none⟩) (by show w.heap.size ≠ w.heap.size + 1; omega) (.bool true))
                  have HS5 := Lib.hid (Blk.far (Blk.far HS.out (p := ⟨w.heap.size + 1, 1, none⟩) (by show g ≠ w.heap.size + 1; omega) (.string (T ++ x))) (p := ⟨w.heap.size + 1, 8, none⟩) (by show g ≠ w.heap.size + 1; omega) (.bool true))
                  have HG5 := Lib.hid (only_setCell (p := ⟨w.heap.size + 1, 8, none⟩) (only_setCell (p := ⟨w.heap.size + 1, 1, none⟩) HG.out (.inr (by show w.heap.size ≤ w.heap.size + 1; omega)) (.string (T ++ x))) (.inr (by show w.heap.size ≤ w.heap.size + 1; omega)) (.bool true))
                  cases old with
                  | false =>
                    go_wp2_with fail
                    go_roundw
                    case rel => exact ⟨p4, T ++ x, true, by omega, hp4, HTZ.out, HS5.out, HT5.out, HZ5.out, (fun h => by cases h), (fun _ => HN.out), HG5.out⟩
                    case measure =>
                      have e1 := HPL.out
                      have e2 := place_is HS5.out
                      omega
                  | true =>
                    go_wp2_with fail
                    go_roundw
                    case rel => exact ⟨p4, T ++ x, true, by omega, hp4, HTZ.out, HS5.out, HT5.out, HZ5.out, (fun h => by cases h), (fun _ => HN.out), HG5.out⟩
                    case measure =>
                      have e1 := HPL.out
                      have e2 := place_is HS5.out
                      omega
                | false =>
                  have HFL := Lib.hid (scanFail g s p4 0 1 W4 HS.out (by omega) (by omega) (by omega) (by omega))
                  go_wp2_with fail
                  refine HFL.out.mono ?_
                  rintro e W5 ⟨rfl, ⟨b, hb1, hb2, hs5⟩, hg5⟩
                  have HT5 := Lib.hid (Blk.grown HT.out hg5 (by intro e; injection e with e; omega))
                  have HZ5 := Lib.hid (Blk.grown HZ.out hg5 (by intro e; injection e with e; omega))
                  have HG5 := Lib.hid (grown_trans HG.out hg5)
                  have HS5 := Lib.hid hs5
                  clear hg5 hs5 HT HZ HG HS
                  have HT := HT5
                  have HZ := HZ5
                  have HG := HG5
                  have HS := HS5
                  clear HT5 HZ5 HG5 HS5
                  go_wp2_with (first
                    | (with_reducible refine wpList_load_blk rfl 37 (.tmp 3) rfl (w.heap.size + 1) rfl 37 (tok T ⟨#[]⟩ old) _ HT.out Try.underlying37 rfl (size_tok _ _ _) ?_)
                    | (with_reducible refine wpList_store_blk rfl 37 (.tmp 2) (.tmp 94) rfl w.heap.size zer (tok T ⟨#[]⟩ old) 37 rfl rfl HZ.out (tok_zer _ _ _) (size_tok _ _ _) (tok_one _ _ _) ?_))
                  intro W4 H4 G4 S4
                  have HG4 := Lib.hid (grown_new HG.out G4 (Nat.le_refl _))
                  have HS4 := Lib.hid (Blk.grown HS.out G4 (by intro e; injection e with e; omega))
                  clear G4
                  go_wp2_with fail
                  refine bodyPost_ret (results_cell_row Try.results57 _ _ w.heap.size 37 _ (0, 0) _ rfl H4 Try.underlying37 rfl size37) rfl ?_
                  rw [HN.out]
                  exact ⟨HG4.out, T, ⟨#[]⟩, old, p4, b, rfl, by omega, hb2, hp4, HS4.out, .inl (by omega)⟩
            · have t92 : ((r : Int) != 92) = true := by simp; omega
              have HJ := Lib.hid (js_raw hrn hn0 (by intro e; subst e; exact HB.out (ur_byte hrn hn0 (by omega))) (by omega) (by omega) q92)
              have HU := Lib.hid (fun w => units_walk r w (by omega))
              have hel := enc_len r
              have hn4 : n = 4 ↔ 65536 ≤ r := hle.2.2.2
              have hyz : (str (ub (enc16 r))).size = 2 * (enc16 r).length := by rw [str_size, ub_len]
              have hTz : (T ++ str (ub (enc16 r))).size ≤ 4 * (k + n) := by rw [ByteArray.size_append, hyz]; omega
              have HACC := Lib.hid (show old = false → ∃ acc, T ++ str (ub (enc16 r)) = str (ub acc) ∧ O = (js ((nats s).drop (k + n))).map (acc ++ ·) from fun ho => by
                obtain ⟨acc, e1, e2⟩ := HOLD.out ho
                refine ⟨acc ++ enc16 r, by rw [e1, ub_append, str_append], ?_⟩
                rw [e2, HJ.out, List.drop_drop]
                cases js ((nats s).drop (k + n)) <;> simp)
              have HTZ := Lib.hid hTz
              have hsum : T.size + (str (ub (enc16 r))).size ≤ 9223372036854775807 := by rw [hyz]; omega
              obtain ⟨Y, hY⟩ : ∃ Y, Y = str (ub (enc16 r)) := ⟨_, rfl⟩
              rw [← hY] at HACC HTZ HU hsum
              have hns : ¬ (9223372036854775807 < T.size + Y.size) := by omega
              have c1 := Blk.get HS2.out 1 rfl
              have f1 := Blk.frozen HS2.out 1
              clear hrn hne hg34 q92 hbad hle hyz hTz hel hY hn4
              go_wp2_with fail
              refine (HR.out _ HS2.out).mono ?_
              rintro e w3 ⟨rfl, nd, rfl⟩
              go_upto_region 10 with fail
              have hc : (k : Int) + (n : Int) = ((k + n : Nat) : Int) := by omega
              rw [hc]
              have HS3 := Lib.hid (Sc.set (Sc.drewN HS2.out nd) (k + n))
              have HT3 := Lib.hid (Blk.far (Blk.drewN HT2.out nd) (p := ⟨g, 1, none⟩) (by show w.heap.size + 1 ≠ g; omega) (.int .i64 ((k + n : Nat) : Int)))
              have HZ3 := Lib.hid (Blk.far (Blk.drewN HZ2.out nd) (p := ⟨g, 1, none⟩) (by show w.heap.size ≠ g; omega) (.int .i64 ((k + n : Nat) : Int)))
              have HG3 := Lib.hid (only_setCell (p := ⟨g, 1, none⟩) (only_drewN HG2.out nd) (.inl rfl) (.int .i64 ((k + n : Nat) : Int)))
              obtain ⟨W3, hW3⟩ : ∃ W3, W3 = (W2.drewN nd).setCell ⟨g, 1, none⟩ (.int .i64 ((k + n : Nat) : Int)) := ⟨_, rfl⟩
              rw [← hW3] at HS3 HT3 HZ3 HG3 ⊢
              clear hW3 hc c1 f1 HS2 HT2 HZ2 HG2 t0 t10 t13 t92
              have t1 := Blk.get HT3.out 1 rfl
              have g1 := Blk.frozen HT3.out 1
              have hts3 := Blk.lt HT3.out
              clear g1
              refine Hoist.start (S := fun L w' => L.getD 6 true = false → w'.cell? ⟨w.heap.size + 1, 1, none⟩ = some (.string T)) (by kernel_rfl) ?_
              refine Hoist.take (i := 0) (T := fun w' => w'.cell? ⟨w.heap.size + 1, 1, none⟩ = some (.string T)) (G := fun L => L.getD 6 true = false) (v := ?v0) rfl (by kernel_rfl) (by kernel_rfl) (by kernel_rfl) (fun _ _ _ h => h) (fun L w hs hm => hs (by rw [getD_set_ne true (by decide)]; exact hm)) (Hoist.waits 6 0 (by kernel_rfl)) (fun _ _ hL h => h hL) (by kernel_rfl) (Or.inl ⟨by rfl, ?hy0⟩) (fun _ => t1) ?rest0
              case hy0 =>
                intro w' hSw
                go_simp
                rfl
              simp only [Act.put, List.setIfInBounds_toArray, List.set_cons_zero, List.set_cons_succ]
              refine Hoist.take (i := 1) (T := fun w' => w'.cell? ⟨w.heap.size + 1, 1, none⟩ = some (.string T)) (G := fun L => L.getD 6 true = false) (v := ?v1) rfl (by kernel_rfl) (by kernel_rfl) (by kernel_rfl) (fun _ _ _ h => h) (fun L w hs hm => hs (by rw [getD_set_ne true (by decide)]; exact hm)) (Hoist.waits 6 1 (by kernel_rfl)) (fun _ _ hL h => h hL) (by kernel_rfl) (Or.inl ⟨by rfl, ?hy1⟩) (fun _ => t1) ?rest1
              case hy1 =>
                intro w' hSw
                go_simp
                rfl
              simp only [Act.put, List.setIfInBounds_toArray, List.set_cons_zero, List.set_cons_succ]
              refine Hoist.take (i := 2) (T := fun w' => w'.cell? ⟨w.heap.size + 1, 1, none⟩ = some (.string T)) (G := fun L => L.getD 6 true = false) (v := ?v2) rfl (by kernel_rfl) (by kernel_rfl) (by kernel_rfl) (fun _ _ _ h => h) (fun L w hs hm => hs (by rw [getD_set_ne true (by decide)]; exact hm)) (Hoist.waits 6 2 (by kernel_rfl)) (fun _ _ hL h => h hL) (by kernel_rfl) (Or.inl ⟨by rfl, ?hy2⟩) (fun _ => t1) ?rest2
              case hy2 =>
                intro w' hSw
                go_simp
                rfl
              simp only [Act.put, List.setIfInBounds_toArray, List.set_cons_zero, List.set_cons_succ]
              refine Hoist.only (i := 3) rfl (by kernel_rfl) ?_
              intro K hK
              go_simp
              refine (HU.out _).mono ?_
              rintro e W5 ⟨rfl, hb5⟩
              have t5 : W5.cell? ⟨w.heap.size + 1, 1, none⟩ = some (.string T) := bcell hb5 hts3 t1
              have HT5 := Lib.hid (Blk.below (Blk.drew HT3.out) hb5 hts3)
              have HZ5 := Lib.hid (Blk.below (Blk.drew HZ3.out) hb5 (Blk.lt HZ3.out))
              have HS5 := Lib.hid (Blk.below (Blk.drew HS3.out) hb5 (Blk.lt HS3.out))
              have HG5 := Lib.hid (grown_trans (only_drew HG3.out) (only_of_below hb5 _))
              have g5 := Blk.frozen HT5.out 1
              clear hb5 t1
              refine hK _ _ (fun _ => t5) ?_
              clear hK K
              refine Hoist.only (i := 4) rfl (by kernel_rfl) ?_
              intro K hK
              go_simp
              refine hK _ _ (fun _ => t5) ?_
              clear hK K
              refine Hoist.only (i := 5) rfl (by kernel_rfl) ?_
              intro K hK
              go_simp
              refine hK _ _ (fun _ => t5) ?_
              clear hK K
              refine Hoist.only (i := 6) rfl (by kernel_rfl) ?_
              intro K hK
              go_simp
              refine hK _ _ (fun hL => absurd hL (by simp)) ?_
              clear hK K
              refine Hoist.over (by kernel_rfl) ?_ _
              have HT6 := Lib.hid (Blk.set_ HT5.out 1 (.string (T ++ Y)))
              have HZ6 := Lib.hid (Blk.far HZ5.out (p := ⟨w.heap.size + 1, 1, none⟩) (by show w.heap.size ≠ w.heap.size + 1; omega) (.string (T ++ Y)))
              have HS6 := Lib.hid (Blk.far HS5.out (p := ⟨w.heap.size + 1, 1, none⟩) (by show g ≠ w.heap.size + 1; omega) (.string (T ++ Y)))
              have HG6 := Lib.hid (only_setCell (p := ⟨w.heap.size + 1, 1, none⟩) HG5.out (.inr (by show w.heap.size ≤ w.heap.size + 1; omega)) (.string (T ++ Y)))
              clear t5 g5
              go_wp2_with fail
              go_roundw
              case rel => exact ⟨k + n, T ++ Y, old, by omega, hkn, HTZ.out, HS6.out, HT6.out, HZ6.out, HACC.out, HNEW.out, HG6.out⟩
              case measure =>
                have e1 := HPL.out
                have e2 := place_is HS6.out
                omega
      · have t1 : decide (k < s.size) = false := by simp; omega
        have HN := Lib.hid (show O = none by
          cases old with
          | true => exact HNEW.out rfl
          | false =>
            obtain ⟨acc, _, e⟩ := HOLD.out rfl
            rw [e, List.drop_eq_nil_of_le (by rw [nats_length]; omega), js, dif_pos rfl]
            rfl)
        have HNI := Lib.hid hin
        clear hin hone
        go_wp2_with fail
        go_quiet (fail)
        go_wp2_with fail
        go_meet
        exact ⟨k, ⟨T, old, h1k, hks, hT4, Sc.drewN HS.out _, Blk.drewN HT.out _, Blk.drewN HZ.out _, HOLD.out, HNEW.out, only_drewN HG.out _⟩, .inr ⟨HN.out, fun c => HNI.out c.1⟩⟩
  case rest =>
    obtain ⟨k, ⟨T, old, h1k, hks, hT4, hsc, htk, hz, hold, hnew, hgr⟩, hend⟩ := hcut
    clear HS1 HT1 HZ1 HG1
    have HS := Lib.hid hsc
    have HT := Lib.hid htk
    have HZ := Lib.hid hz
    have HG := Lib.hid hgr
    have HOLD := Lib.hid hold
    have HNEW := Lib.hid hnew
    clear hsc htk hz hgr hold hnew
    have HI := Lib.hid (scanIs g s k 0 qt wc HS.out (by omega) hks (by rw [HQZ.out]; omega))
    have hone := isAt_one s k qt 34 HQN.out hks
    by_cases hq : k < s.size ∧ byt s k = 34
    · rw [hone, decide_eq_true hq] at HI
      have hlk := hq.1
      have HO2 := Lib.hid (show old = false → ∃ acc, T = str (ub acc) ∧ O = if k + 1 = s.size then some acc else none from fun ho => by
        obtain ⟨acc, e1, e2⟩ := HOLD.out ho
        refine ⟨acc, e1, ?_⟩
        rw [e2, js_at s k hq.1 hq.2]
        by_cases hz : k + 1 = s.size
        · rw [if_pos hz, if_pos hz]; simp
        · rw [if_neg hz, if_neg hz]; rfl)
      have hsl : ∀ w, (Instr.slice 9 (.string s) (some (.int .i64 1)) (some (.int .i64 k)) none).run Try.prog w = .ok (.string (s.extract 1 k)) w := fun w => slice_mid s 1 k h1k hks w
      obtain ⟨M, hM⟩ : ∃ M, M = s.extract 1 k := ⟨_, rfl⟩
      rw [← hM] at hsl
      clear hone hq hend hM
      go_wp2_with fail
      refine HI.out.mono ?_
      rintro e w3 ⟨rfl, nd, rfl⟩
      go_upto_region 20 with fail
      have HS2 := Lib.hid (Sc.drewN HS.out nd)
      have HT2 := Lib.hid (Blk.drewN HT.out nd)
      have HZ2 := Lib.hid (Blk.drewN HZ.out nd)
      have HG2 := Lib.hid (only_drewN HG.out nd)
      obtain ⟨W2, hW2⟩ : ∃ W2, W2 = wc.drewN nd := ⟨_, rfl⟩
      rw [← hW2] at HS2 HT2 HZ2 HG2 ⊢
      clear hW2 HS HT HZ HG HI
      have c0 := Blk.get HS2.out 0 rfl
      have c1 := Blk.get HS2.out 1 rfl
      have t2 := Blk.get HT2.out 2 rfl
      have g2 := Blk.frozen HT2.out 2
      refine Hoist.start (S := fun L w' => L.getD 11 true = false → (w'.cell? ⟨g, 0, none⟩ = some (.string s) ∧ w'.cell? ⟨g, 1, none⟩ = some (.int .i64 k))) (by kernel_rfl) ?_
      refine Hoist.take (i := 0) (T := fun w' => (w'.cell? ⟨g, 0, none⟩ = some (.string s) ∧ w'.cell? ⟨g, 1, none⟩ = some (.int .i64 k))) (G := fun L => L.getD 11 true = false) (v := ?z0) rfl (by kernel_rfl) (by kernel_rfl) (by kernel_rfl) (fun _ _ _ h => h) (fun L w hs hm => hs (by rw [getD_set_ne true (by decide)]; exact hm)) (Hoist.waits 11 0 (by kernel_rfl)) (fun _ _ hL h => h hL) (by kernel_rfl) (Or.inl ⟨by rfl, ?hz0⟩) (fun _ => ⟨c0, c1⟩) ?zrest0
      case hz0 =>
        intro w' hSw
        obtain ⟨s0, s1⟩ := hSw
        go_simp
        rfl
      simp only [Act.put, List.setIfInBounds_toArray, List.set_cons_zero, List.set_cons_succ]
      refine Hoist.take (i := 1) (T := fun w' => (w'.cell? ⟨g, 0, none⟩ = some (.string s) ∧ w'.cell? ⟨g, 1, none⟩ = some (.int .i64 k))) (G := fun L => L.getD 11 true = false) (v := ?z1) rfl (by kernel_rfl) (by kernel_rfl) (by kernel_rfl) (fun _ _ _ h => h) (fun L w hs hm => hs (by rw [getD_set_ne true (by decide)]; exact hm)) (Hoist.waits 11 1 (by kernel_rfl)) (fun _ _ hL h => h hL) (by kernel_rfl) (Or.inl ⟨by rfl, ?hz1⟩) (fun _ => ⟨c0, c1⟩) ?zrest1
      case hz1 =>
        intro w' hSw
        obtain ⟨s0, s1⟩ := hSw
        go_simp
        rfl
      simp only [Act.put, List.setIfInBounds_toArray, List.set_cons_zero, List.set_cons_succ]
      refine Hoist.take (i := 2) (T := fun w' => (w'.cell? ⟨g, 0, none⟩ = some (.string s) ∧ w'.cell? ⟨g, 1, none⟩ = some (.int .i64 k))) (G := fun L => L.getD 11 true = false) (v := ?z2) rfl (by kernel_rfl) (by kernel_rfl) (by kernel_rfl) (fun _ _ _ h => h) (fun L w hs hm => hs (by rw [getD_set_ne true (by decide)]; exact hm)) (Hoist.waits 11 2 (by kernel_rfl)) (fun _ _ hL h => h hL) (by kernel_rfl) (Or.inl ⟨by rfl, ?hz2⟩) (fun _ => ⟨c0, c1⟩) ?zrest2
      case hz2 =>
        intro w' hSw
        obtain ⟨s0, s1⟩ := hSw
        go_simp
        rfl
      simp only [Act.put, List.setIfInBounds_toArray, List.set_cons_zero, List.set_cons_succ]
      refine Hoist.take (i := 3) (T := fun w' => (w'.cell? ⟨g, 0, none⟩ = some (.string s) ∧ w'.cell? ⟨g, 1, none⟩ = some (.int .i64 k))) (G := fun L => L.getD 11 true = false) (v := ?z3) rfl (by kernel_rfl) (by kernel_rfl) (by kernel_rfl) (fun _ _ _ h => h) (fun L w hs hm => hs (by rw [getD_set_ne true (by decide)]; exact hm)) (Hoist.waits 11 3 (by kernel_rfl)) (fun _ _ hL h => h hL) (by kernel_rfl) (Or.inl ⟨by rfl, ?hz3⟩) (fun _ => ⟨c0, c1⟩) ?zrest3
      case hz3 =>
        intro w' hSw
        obtain ⟨s0, s1⟩ := hSw
        go_simp
        rfl
      simp only [Act.put, List.setIfInBounds_toArray, List.set_cons_zero, List.set_cons_succ]
      refine Hoist.take (i := 4) (T := fun w' => (w'.cell? ⟨g, 0, none⟩ = some (.string s) ∧ w'.cell? ⟨g, 1, none⟩ = some (.int .i64 k))) (G := fun L => L.getD 11 true = false) (v := ?z4) rfl (by kernel_rfl) (by kernel_rfl) (by kernel_rfl) (fun _ _ _ h => h) (fun L w hs hm => hs (by rw [getD_set_ne true (by decide)]; exact hm)) (Hoist.waits 11 4 (by kernel_rfl)) (fun _ _ hL h => h hL) (by kernel_rfl) (Or.inl ⟨by rfl, ?hz4⟩) (fun _ => ⟨c0, c1⟩) ?zrest4
      case hz4 =>
        intro w' hSw
        obtain ⟨s0, s1⟩ := hSw
        go_simp
        rfl
      simp only [Act.put, List.setIfInBounds_toArray, List.set_cons_zero, List.set_cons_succ]
      refine Hoist.take (i := 5) (T := fun w' => (w'.cell? ⟨g, 0, none⟩ = some (.string s) ∧ w'.cell? ⟨g, 1, none⟩ = some (.int .i64 k))) (G := fun L => L.getD 11 true = false) (v := ?z5) rfl (by kernel_rfl) (by kernel_rfl) (by kernel_rfl) (fun _ _ _ h => h) (fun L w hs hm => hs (by rw [getD_set_ne true (by decide)]; exact hm)) (Hoist.waits 11 5 (by kernel_rfl)) (fun _ _ hL h => h hL) (by kernel_rfl) (Or.inl ⟨by rfl, ?hz5⟩) (fun _ => ⟨c0, c1⟩) ?zrest5
      case hz5 =>
        intro w' hSw
        obtain ⟨s0, s1⟩ := hSw
        go_simp
        rfl
      simp only [Act.put, List.setIfInBounds_toArray, List.set_cons_zero, List.set_cons_succ]
      refine Hoist.take (i := 6) (T := fun w' => (w'.cell? ⟨g, 0, none⟩ = some (.string s) ∧ w'.cell? ⟨g, 1, none⟩ = some (.int .i64 k))) (G := fun L => L.getD 11 true = false) (v := ?z6) rfl (by kernel_rfl) (by kernel_rfl) (by kernel_rfl) (fun _ _ _ h => h) (fun L w hs hm => hs (by rw [getD_set_ne true (by decide)]; exact hm)) (Hoist.waits 11 6 (by kernel_rfl)) (fun _ _ hL h => h hL) (by kernel_rfl) (Or.inl ⟨by rfl, ?hz6⟩) (fun _ => ⟨c0, c1⟩) ?zrest6
      case hz6 =>
        intro w' hSw
        obtain ⟨s0, s1⟩ := hSw
        go_simp
        rfl
      simp only [Act.put, List.setIfInBounds_toArray, List.set_cons_zero, List.set_cons_succ]
      refine Hoist.take (i := 7) (T := fun w' => (w'.cell? ⟨g, 0, none⟩ = some (.string s) ∧ w'.cell? ⟨g, 1, none⟩ = some (.int .i64 k))) (G := fun L => L.getD 11 true = false) (v := ?z7) rfl (by kernel_rfl) (by kernel_rfl) (by kernel_rfl) (fun _ _ _ h => h) (fun L w hs hm => hs (by rw [getD_set_ne true (by decide)]; exact hm)) (Hoist.waits 11 7 (by kernel_rfl)) (fun _ _ hL h => h hL) (by kernel_rfl) (Or.inl ⟨by rfl, ?hz7⟩) (fun _ => ⟨c0, c1⟩) ?zrest7
      case hz7 =>
        intro w' hSw
        obtain ⟨s0, s1⟩ := hSw
        go_simp
        rfl
      simp only [Act.put, List.setIfInBounds_toArray, List.set_cons_zero, List.set_cons_succ]
      refine Hoist.take (i := 8) (T := fun w' => (w'.cell? ⟨g, 0, none⟩ = some (.string s) ∧ w'.cell? ⟨g, 1, none⟩ = some (.int .i64 k))) (G := fun L => L.getD 11 true = false) (v := ?z8) rfl (by kernel_rfl) (by kernel_rfl) (by kernel_rfl) (fun _ _ _ h => h) (fun L w hs hm => hs (by rw [getD_set_ne true (by decide)]; exact hm)) (Hoist.waits 11 8 (by kernel_rfl)) (fun _ _ hL h => h hL) (by kernel_rfl) (Or.inl ⟨by rfl, ?hz8⟩) (fun _ => ⟨c0, c1⟩) ?zrest8
      case hz8 =>
        intro w' hSw
        obtain ⟨s0, s1⟩ := hSw
        go_simp
        rfl
      simp only [Act.put, List.setIfInBounds_toArray, List.set_cons_zero, List.set_cons_succ]
      refine Hoist.take (i := 9) (T := fun w' => (w'.cell? ⟨g, 0, none⟩ = some (.string s) ∧ w'.cell? ⟨g, 1, none⟩ = some (.int .i64 k))) (G := fun L => L.getD 11 true = false) (v := ?z9) rfl (by kernel_rfl) (by kernel_rfl) (by kernel_rfl) (fun _ _ _ h => h) (fun L w hs hm => hs (by rw [getD_set_ne true (by decide)]; exact hm)) (Hoist.waits 11 9 (by kernel_rfl)) (fun _ _ hL h => h hL) (by kernel_rfl) (Or.inl ⟨by rfl, ?hz9⟩) (fun _ => ⟨c0, c1⟩) ?zrest9
      case hz9 =>
        intro w' hSw
        obtain ⟨s0, s1⟩ := hSw
        go_simp
        rfl
      simp only [Act.put, List.setIfInBounds_toArray, List.set_cons_zero, List.set_cons_succ]
      refine Hoist.only (i := 10) rfl (by kernel_rfl) ?_
      intro K hK
      go_simp
      refine hK _ _ (fun _ => ⟨c0, c1⟩) ?_
      clear hK K
      refine Hoist.only (i := 11) rfl (by kernel_rfl) ?_
      intro K hK
      go_simp
      refine hK _ _ (fun hL => absurd hL (by simp)) ?_
      clear hK K
      refine Hoist.over (by kernel_rfl) ?_ _
      have f1 := Blk.frozen HS2.out 1
      go_upto_region 22 with fail
      have hc : (k : Int) + 1 = ((k + 1 : Nat) : Int) := by omega
      rw [hc]
      have HT5 := Lib.hid (Blk.set_ HT2.out 2 (.string M))
      have HZ5 := Lib.hid (Blk.far HZ2.out (p := ⟨w.heap.size + 1, 2, none⟩) (by show w.heap.size ≠ w.heap.size + 1; omega) (.string M))
      have HS5 := Lib.hid (Blk.far HS2.out (p := ⟨w.heap.size + 1, 2, none⟩) (by show g ≠ w.heap.size + 1; omega) (.string M))
      have HG5 := Lib.hid (only_setCell (p := ⟨w.heap.size + 1, 2, none⟩) HG2.out (.inr (by show w.heap.size ≤ w.heap.size + 1; omega)) (.string M))
      have HS6 := Lib.hid (Blk.drew (Sc.set HS5.out (k + 1)))
      have HT6 := Lib.hid (Blk.drew (Blk.far HT5.out (p := ⟨g, 1, none⟩) (by show w.heap.size + 1 ≠ g; omega) (.int .i64 ((k + 1 : Nat) : Int))))
      have HZ6 := Lib.hid (Blk.drew (Blk.far HZ5.out (p := ⟨g, 1, none⟩) (by show w.heap.size ≠ g; omega) (.int .i64 ((k + 1 : Nat) : Int))))
      have HG6 := Lib.hid (only_drew (only_setCell (p := ⟨g, 1, none⟩) HG5.out (.inl rfl) (.int .i64 ((k + 1 : Nat) : Int))))
      obtain ⟨W6, hW6⟩ : ∃ W6, W6 = ((W2.setCell ⟨w.heap.size + 1, 2, none⟩ (.string M)).setCell ⟨g, 1, none⟩ (.int .i64 ((k + 1 : Nat) : Int))).drew := ⟨_, rfl⟩
      rw [← hW6] at HS6 HT6 HZ6 HG6 ⊢
      have HT := Lib.hid (show Blk W6 (w.heap.size + 1) 37 (tok T M old) from HT6.out)
      have HS := Lib.hid (show Sc W6 g s (k + 1) 0 from HS6.out)
      have HZ := HZ6
      have HG := HG6
      clear hW6 hc HS5 HT5 HZ5 HG5 HS6 HT6 HZ6 HG6 HS2 HT2 HZ2 HG2 c0 c1 f1 t2 g2 hsl
      go_wp2_with (first
        | (with_reducible refine wpList_load_blk rfl 37 (.tmp 3) rfl (w.heap.size + 1) rfl 37 (tok T M old) _ HT.out Try.underlying37 rfl (size_tok _ _ _) ?_)
        | (with_reducible refine wpList_store_blk rfl 37 (.tmp 2) (.tmp 131) rfl w.heap.size zer (tok T M old) 37 rfl rfl HZ.out (tok_zer _ _ _) (size_tok _ _ _) (tok_one _ _ _) ?_))
      intro W4 H4 G4 S4
      have HG4 := Lib.hid (grown_new HG.out G4 (Nat.le_refl _))
      have HS4 := Lib.hid (Blk.grown HS.out G4 (by intro e; injection e with e; omega))
      clear G4
      go_wp2_with fail
      refine bodyPost_ret (results_cell_row Try.results57 _ _ w.heap.size 37 _ (0, 0) _ rfl H4 Try.underlying37 rfl size37) rfl ?_
      cases old with
      | false =>
        obtain ⟨acc, e1, e2⟩ := HO2.out rfl
        by_cases hz : k + 1 = s.size
        · rw [if_pos hz] at e2
          rw [e2, e1]
          rw [hz] at HS4
          exact ⟨HG4.out, M, rfl, HS4.out⟩
        · rw [if_neg hz] at e2
          rw [e2]
          exact ⟨HG4.out, T, M, false, k + 1, 0, rfl, by omega, by omega, by omega, HS4.out, .inr (.inr hz)⟩
      | true =>
        rw [HNEW.out rfl]
        exact ⟨HG4.out, T, M, true, k + 1, 0, rfl, by omega, by omega, by omega, HS4.out, .inr (.inl rfl)⟩
    · rw [hone, decide_eq_false hq] at HI
      have HN := Lib.hid (show O = none by
        rcases hend with h | h
        · exact absurd h hq
        · exact h.1)
      clear hone hq hend
      go_wp2_with fail
      refine HI.out.mono ?_
      rintro e w3 ⟨rfl, nd, rfl⟩
      have HFL := Lib.hid (scanFail g s k 0 1 (wc.drewN nd) (Sc.drewN HS.out nd) (by omega) (by omega) (by omega) (by omega))
      go_wp2_with fail
      refine HFL.out.mono ?_
      rintro e W5 ⟨rfl, ⟨b, hb1, hb2, hs5⟩, hg5⟩
      have HT5 := Lib.hid (Blk.grown (Blk.drewN HT.out nd) hg5 (by intro e; injection e with e; omega))
      have HZ5 := Lib.hid (Blk.grown (Blk.drewN HZ.out nd) hg5 (by intro e; injection e with e; omega))
      have HG5 := Lib.hid (grown_trans (only_drewN HG.out nd) hg5)
      have HS5 := Lib.hid hs5
      clear hg5 hs5 HT HZ HG HS
      have HT := HT5
      have HZ := HZ5
      have HG := HG5
      have HS := HS5
      clear HT5 HZ5 HG5 HS5
      go_wp2_with (first
        | (with_reducible refine wpList_load_blk rfl 37 (.tmp 3) rfl (w.heap.size + 1) rfl 37 (tok T ⟨#[]⟩ old) _ HT.out Try.underlying37 rfl (size_tok _ _ _) ?_)
        | (with_reducible refine wpList_store_blk rfl 37 (.tmp 2) (.tmp 112) rfl w.heap.size zer (tok T ⟨#[]⟩ old) 37 rfl rfl HZ.out (tok_zer _ _ _) (size_tok _ _ _) (tok_one _ _ _) ?_))
      intro W4 H4 G4 S4
      have HG4 := Lib.hid (grown_new HG.out G4 (Nat.le_refl _))
      have HS4 := Lib.hid (Blk.grown HS.out G4 (by intro e; injection e with e; omega))
      clear G4
      go_wp2_with fail
      refine bodyPost_ret (results_cell_row Try.results57 _ _ w.heap.size 37 _ (0, 0) _ rfl H4 Try.underlying37 rfl size37) rfl ?_
      rw [HN.out]
      exact ⟨HG4.out, T, ⟨#[]⟩, old, k, b, rfl, by omega, hb2, hks, HS4.out, .inl (by omega)⟩
end Go.Proofs.Ytkhnkemmkedfcaa.Js
