/- The reference's scanner: a number with 0x, 0o or 0b. The walk. -/
import Derived.Test.YtefippeaalkmeaaScC
namespace Go.Proofs.Ytefippeaalkmeaa.Scan
open Go.RowKit Go.Proofs.Ytefippeaalkmeaa.Aid Go.Proofs.Ytefippeaalkmeaa.Runes Go.Proofs.Ytefippeaalkmeaa.Bytes Go.Proofs.Ytefippeaalkmeaa.Nats
attribute [local go_sem ↓] Go.wp_at_zero Go.wp_at_succ
set_option linter.unusedVariables false
/-- A token of a number; an empty one. -/
def tk (K : Int) (T : ByteArray) (q : Nat) (old : Bool) : List Value := [.int .i64 K, .string T, .string ⟨#[]⟩, .int .u64 q, .int .i64 0, .int .i64 0, .bool false, .bool false, .bool old]
def zer : List Value := [.int .i64 0, .string ⟨#[]⟩, .string ⟨#[]⟩, .int .u64 0, .int .i64 0, .int .i64 0, .bool false, .bool false, .bool false]
theorem size45 : (Try.prog.info? 45).map (·.size) = some 9 := by kernel_rfl
theorem tk_one (K : Int) (T : ByteArray) (q : Nat) (old : Bool) : ∀ v ∈ tk K T q old, v.oneCell' = true := by simp [tk, Value.oneCell']
theorem size_tk (K : Int) (T : ByteArray) (q : Nat) (old : Bool) : (Try.prog.info? 45).map (·.size) = some (tk K T q old).length := size45
theorem tk_zer (K : Int) (T : ByteArray) (q : Nat) (old : Bool) : (tk K T q old).length = zer.length := rfl
def TokPost (g : Nat) (s : ByteArray) (at_ : Nat) (bad : Int) (w : World) (e : Ending) (w' : World) : Prop :=
  ∃ (q : Nat) (K : Int) (T : ByteArray) (n : Nat) (old : Bool), e = .returned (.agg (tk K T n old).toArray) ∧ Moved g s at_ bad w w' q
theorem Moved.stored {g : Nat} {s : ByteArray} {a b : Nat} {x : Int} {w w1 w2 : World} (h : Moved g s a x w w1 b) {G : Nat} (k : w1.grownBy w2 (some G)) (hG : w.heap.size ≤ G) (hg : g < w.heap.size) : Moved g s a x w w2 b := by
  obtain ⟨h1, h2, h3, h4, c, h5, h6⟩ := h
  exact ⟨⟨k.os.trans h1.os, k.tape.trans h1.tape, k.output.trans h1.output, Nat.le_trans h1.size k.size, fun i hi hr => (k.block i (Nat.lt_of_lt_of_le hi h1.size) (fun e => by injection e with e; omega)).trans (h1.block i hi hr)⟩, h2, h3, h4, c, Blk.grown h5 k (fun e => by injection e with e; omega), h6⟩
theorem Moved.from_ {g : Nat} {s : ByteArray} {a b : Nat} {x y : Int} {w w0 w1 : World} (h0 : w.grownBy w0 (some g)) (h : Moved g s a x w0 w1 b) : Moved g s a y w w1 b := ⟨grown_trans h0 h.1, h.2⟩
set_option maxRecDepth 100000 in
set_option maxHeartbeats 8000000 in
theorem scanBased (g : Nat) (s : ByteArray) (at_ : Nat) (bad : Int) (base : Nat) (w : World) (h : Sc w g s at_ bad) (hb0 : 0 ≤ bad) (hb2 : bad ≤ 2) (hs : s.size ≤ 4096) (ha : at_ + 1 < s.size) (h1 : Sgn (byt s at_)) (h2 : Sgn (byt s (at_ + 1))) (hbase : base ≤ 16) :
    Calls Try.prog 30 #[.pointer (some ⟨g, 0, none⟩), .int .i64 base] w (TokPost g s at_ bad w) := by
  have hgl := Blk.lt h
  have HS := Lib.hid h
  have HSG := Lib.hid ((Seg.one h1).trans (Seg.one h2))
  clear h h1 h2
  go_enter Try.func30, Try.ntmps30
  go_upto_region 1 with fail
  obtain ⟨W0, hW0⟩ : ∃ W0, W0 = w.alloc (.cells zer.toArray 45) := ⟨_, rfl⟩
  have HZ0 := Lib.hid (show Blk W0 w.heap.size 45 zer by rw [hW0]; exact Blk.new w 45 zer)
  have HS0 := Lib.hid (show Sc W0 g s at_ bad by rw [hW0]; exact Blk.alloc HS.out _)
  have HG0 := Lib.hid (show w.grownBy W0 (some g) by rw [hW0]; exact only_alloc (World.grownBy.refl w _) _)
  have HL0 := Lib.hid (show W0.heap.size = w.heap.size + 1 by rw [hW0]; simp)
  simp only [zer] at hW0
  rw [← hW0]
  clear hW0
  have c1 := Blk.get HS0.out 1 rfl
  have f1 := Blk.frozen HS0.out 1
  obtain ⟨p, hp⟩ : ∃ p, p = at_ + 2 := ⟨_, rfl⟩
  have ep : ((p : Nat) : Int) = (at_ : Int) + 2 := by omega
  have HS1 := Lib.hid (show Sc (W0.setCell ⟨g, 1, none⟩ (.int .i64 ((at_ : Int) + 2))) g s p bad by rw [← ep]; exact Sc.set HS0.out p)
  have HM1 := Lib.hid (show Moved g s at_ bad w (W0.setCell ⟨g, 1, none⟩ (.int .i64 ((at_ : Int) + 2))) p from ⟨only_setCell (p := ⟨g, 1, none⟩) HG0.out (.inl rfl) _, by omega, by omega, by rw [hp]; exact HSG.out, bad, HS1.out, hb0, hb2⟩)
  have HZ1 := Lib.hid (show Blk (W0.setCell ⟨g, 1, none⟩ (.int .i64 ((at_ : Int) + 2))) w.heap.size 45 zer from Blk.far HZ0.out (by show w.heap.size ≠ g; omega) _)
  have hps : p ≤ s.size := by omega
  clear hp ep
  go_upto_region 2 with fail
  obtain ⟨W1, hW1⟩ : ∃ W1, W1 = W0.setCell ⟨g, 1, none⟩ (.int .i64 ((at_ : Int) + 2)) := ⟨_, rfl⟩
  rw [← hW1] at HS1 HM1 HZ1 ⊢
  clear hW1 c1 f1 HZ0 HS0 HG0 HL0
  have HDG := Lib.hid (scanDigits g s p bad base true W1 HS1.out hb0 hb2 hs hps hbase)
  go_wp2_with fail
  refine HDG.out.mono ?_
  rintro e W2 ⟨q, t, rfl, hd, ht, hmv⟩
  have HM2 := Lib.hid (HM1.out.trans hmv)
  have HZ2 := Lib.hid (Blk.grown HZ1.out hmv.1 (fun e => by injection e with e; omega))
  have HD := Lib.hid hd
  have tsz : t.size ≤ 4096 := by have := hmv.2.2.1; omega
  clear hd ht hmv
  go_upto_if 18 with fail
  obtain ⟨E, hE⟩ : ∃ E, E = t.toList.isEmpty := ⟨_, rfl⟩
  rw [← hE]
  clear hE
  go_cut [] (fun wx => Moved g s at_ bad w wx q ∧ Blk wx w.heap.size 45 zer)
  case first =>
    cases E with
    | true =>
      obtain ⟨h1, h2, h3, h4, b5, h5, h6, h7⟩ := HM2.out
      have HFA := Lib.hid (scanFail g s q b5 1 W2 h5 (by omega) (by omega) h6 h7)
      have HM6 := Lib.hid (And.intro h1 (And.intro h2 (And.intro h3 h4)))
      clear h1 h2 h3 h4 h5 h6 h7
      go_wp2_with fail
      refine HFA.out.mono ?_
      rintro e W6 ⟨rfl, ⟨b3, b31, b32, hsc6⟩, hgr6⟩
      have HS6 := Lib.hid hsc6
      have HG6 := Lib.hid (grown_trans HM6.out.1 hgr6)
      have HZ6 := Lib.hid (Blk.grown HZ2.out hgr6 (fun e => by injection e with e; omega))
      clear hsc6 hgr6
      go_wp2_with fail
      go_meet
      exact ⟨⟨HG6.out, HM6.out.2.1, HM6.out.2.2.1, HM6.out.2.2.2, b3, HS6.out, by omega, b32⟩, HZ6.out⟩
    | false =>
      go_wp2_with fail
      go_meet
      exact ⟨HM2.out, HZ2.out⟩
  case rest =>
    obtain ⟨⟨hg3, hap, hqs, hsg3, b3, hs3, h30, h32⟩, hz3⟩ := hcut
    have HS3 := Lib.hid hs3
    have HZ3 := Lib.hid hz3
    have HM3 := Lib.hid (show Moved g s at_ bad w wc q from ⟨hg3, hap, hqs, hsg3, b3, hs3, h30, h32⟩)
    clear hg3 hsg3 hs3 hz3
    obtain ⟨W3, rfl⟩ : ∃ W3, W3 = wc := ⟨_, rfl⟩
    obtain ⟨V, hV⟩ : ∃ V, V = natOf base (nats t) := ⟨_, rfl⟩
    have HNA := Lib.hid (fun w => show Calls Try.prog 34 #[.string t, .int .i64 base] w (Gives V w) from by rw [hV]; exact natural_walk t base w hbase (by omega) fun i hi => HD.out.at_ i hi)
    have HNB := Lib.hid (show blen V ≤ 20000 by have := natOf_blen base hbase (nats t); rw [nats_length] at this; rw [hV]; omega)
    clear hV
    by_cases hn : q < s.size ∧ byt s q = 110
    · have HIS := Lib.hid (is_one (b := b3) HS3.out hs hqs 110 (by omega) true (decide_eq_true hn))
      have HIS := Lib.hid (show Calls Try.prog 14 #[.pointer (some ⟨g, 0, none⟩), .string ⟨#[110]⟩] W3 fun e w' => e = .returned (.bool true) ∧ Drawn W3 w' from HIS.out)
      have HSN := Lib.hid (show Sgn (byt s q) from sgn_of (by omega))
      have hlt := hn.1
      clear hn
      go_wp2_with fail
      refine HIS.out.mono ?_
      rintro e w4 ⟨rfl, k4, rfl⟩
      have HS4 := Lib.hid (Sc.drewN HS3.out k4)
      have HM4 := Lib.hid (Moved.step (b := b3) (x := bad) (HM3.out.drewN k4).1 hap HM3.out.2.2.2.1 HS4.out h30 h32 hlt HSN.out)
      have HZ4 := Lib.hid (show Blk ((W3.drewN k4).setCell ⟨g, 1, none⟩ (.int .i64 ((q + 1 : Nat) : Int))) w.heap.size 45 zer from Blk.far (Blk.drewN HZ3.out k4) (by show w.heap.size ≠ g; omega) _)
      have c1 := Blk.get HS4.out 1 rfl
      have f1 := Blk.frozen HS4.out 1
      obtain ⟨X4, hX4⟩ : ∃ X4, X4 = W3.drewN k4 := ⟨_, rfl⟩
      rw [← hX4] at c1 f1 HM4 HZ4 ⊢
      clear hX4 HS4
      go_wp2_with fail
      refine (HNA.out _).mono ?_
      rintro e w6 ⟨hb6, a, rfl, han⟩
      have HM6 := Lib.hid (HM4.out.below hb6)
      have HZ6 := Lib.hid (Blk.below HZ4.out hb6 (Blk.lt HZ4.out))
      have HDW := Lib.hid (digits_walk a V w6 han (by have := HNB.out; omega))
      clear hb6 han c1 f1 HM4 HZ4
      go_wp2_with fail
      refine HDW.out.mono ?_
      rintro e w7 ⟨hb7, T, rfl⟩
      have HM7 := Lib.hid (HM6.out.below hb7)
      have HZ7 := Lib.hid (Blk.below HZ6.out hb7 (Blk.lt HZ6.out))
      clear hb7
      go_wp2_with (with_reducible refine wpList_store_blk rfl 45 (.tmp 4) (.tmp 34) rfl w.heap.size zer (tk 7 T 0 false) 45 rfl rfl HZ7.out (tk_zer _ _ _ _) (size_tk _ _ _ _) (tk_one _ _ _ _) ?_)
      intro W8 H8 G8 S8
      have HM8 := Lib.hid (HM7.out.stored G8 (Nat.le_refl _) hgl)
      clear G8
      go_wp2_with fail
      refine bodyPost_ret (results_cell_row Try.results30 _ _ w.heap.size 45 _ (0, 0) _ rfl H8 Try.underlying45 rfl size45) rfl ?_
      exact ⟨q + 1, 7, T, 0, false, rfl, HM8.out⟩
    · have HIS := Lib.hid (is_one (b := b3) HS3.out hs hqs 110 (by omega) false (decide_eq_false hn))
      have HIS := Lib.hid (show Calls Try.prog 14 #[.pointer (some ⟨g, 0, none⟩), .string ⟨#[110]⟩] W3 fun e w' => e = .returned (.bool false) ∧ Drawn W3 w' from HIS.out)
      clear hn
      go_wp2_with fail
      refine HIS.out.mono ?_
      rintro e w4 ⟨rfl, k4, rfl⟩
      have HM4 := Lib.hid (HM3.out.drewN k4)
      have HZ4 := Lib.hid (Blk.drewN HZ3.out k4)
      go_wp2_with fail
      refine (HNA.out _).mono ?_
      rintro e w6 ⟨hb6, a, rfl, han⟩
      have HM6 := Lib.hid (HM4.out.below hb6)
      have HZ6 := Lib.hid (Blk.below HZ4.out hb6 (Blk.lt HZ4.out))
      have HWW := Lib.hid (whole_walk a V w6 han (by have := HNB.out; omega))
      clear hb6 han HM4 HZ4
      go_wp2_with fail
      refine HWW.out.mono ?_
      rintro e w7 ⟨hb7, rfl⟩
      have HM7 := Lib.hid (HM6.out.below hb7)
      have HZ7 := Lib.hid (Blk.below HZ6.out hb7 (Blk.lt HZ6.out))
      obtain ⟨n, hnn⟩ : ∃ n, n = roundP V 1 := ⟨_, rfl⟩
      rw [← hnn]
      clear hb7 hnn
      obtain ⟨F, hF⟩ : ∃ F, decide ((4845873199050653696 : Int) < (n : Int)) = F := ⟨_, rfl⟩
      go_upto_if 40 with fail
      clear hF
      go_cut [] (fun wx => Moved g s at_ bad w wx q ∧ Blk wx w.heap.size 45 zer)
      case first =>
        cases F with
        | true =>
          obtain ⟨h1, h2, h3, h4, b5, h5, h6, h7⟩ := HM7.out
          have HFA := Lib.hid (scanFail g s q b5 2 w7 h5 (by omega) (by omega) h6 h7)
          have HMM := Lib.hid (And.intro h1 (And.intro h2 (And.intro h3 h4)))
          clear h1 h2 h3 h4 h5 h6 h7
          go_wp2_with fail
          refine HFA.out.mono ?_
          rintro e W6 ⟨rfl, ⟨b3, b31, b32, hsc6⟩, hgr6⟩
          have HS6 := Lib.hid hsc6
          have HG6 := Lib.hid (grown_trans HMM.out.1 hgr6)
          have HZ8 := Lib.hid (Blk.grown HZ7.out hgr6 (fun e => by injection e with e; omega))
          clear hsc6 hgr6
          go_wp2_with fail
          go_meet
          exact ⟨⟨HG6.out, HMM.out.2.1, HMM.out.2.2.1, HMM.out.2.2.2, b3, HS6.out, by omega, b32⟩, HZ8.out⟩
        | false =>
          go_wp2_with fail
          go_meet
          exact ⟨HM7.out, HZ7.out⟩
      case rest =>
        obtain ⟨hm, hz⟩ := hcut
        have HM8 := Lib.hid hm
        have HZ8 := Lib.hid hz
        clear hm hz
        go_wp2_with (with_reducible refine wpList_store_blk rfl 45 (.tmp 4) (.tmp 44) rfl w.heap.size zer (tk 6 ⟨#[]⟩ n false) 45 rfl rfl HZ8.out (tk_zer _ _ _ _) (size_tk _ _ _ _) (tk_one _ _ _ _) ?_)
        intro W8 H8 G8 S8
        have HM9 := Lib.hid (HM8.out.stored G8 (Nat.le_refl _) hgl)
        clear G8
        go_wp2_with fail
        refine bodyPost_ret (results_cell_row Try.results30 _ _ w.heap.size 45 _ (0, 0) _ rfl H8 Try.underlying45 rfl size45) rfl ?_
        exact ⟨q, 6, ⟨#[]⟩, n, false, rfl, HM9.out⟩
end Go.Proofs.Ytefippeaalkmeaa.Scan
