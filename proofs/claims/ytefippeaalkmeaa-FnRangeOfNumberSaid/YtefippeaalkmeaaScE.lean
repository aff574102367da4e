/- The reference's scanner: a number with a 0 before other digits. The walk. -/
import Derived.Test.YtefippeaalkmeaaScD
namespace Go.Proofs.Ytefippeaalkmeaa.Scan
open Go.RowKit Go.Proofs.Ytefippeaalkmeaa.Aid Go.Proofs.Ytefippeaalkmeaa.Runes Go.Proofs.Ytefippeaalkmeaa.Bytes Go.Proofs.Ytefippeaalkmeaa.Nats
attribute [local go_sem ↓] Go.wp_at_zero Go.wp_at_succ
set_option linter.unusedVariables false
theorem results_mix {P : Program} {fn : Func} {p a b : Tmp} {ty : TypeId} (h : fn.results = #[.cell p ty, .tmp a, .tmp b]) (tmps : Array Value) (w : World) (g : Nat) (t : TypeId) (cs : Array Value) (fr : Nat × Nat) (d : TypeDesc)
    (hp : tmps.getD p undef = .pointer (some ⟨g, 0, none⟩)) (hg : w.heap[g]? = some (.cells cs t fr))
    (hu : P.underlying ty = some d) (hd : (match d with | .struct _ | .array _ _ => true | _ => false) = true) (hi : (P.info? ty).map (·.size) = some cs.size) :
    (results fn tmps).run P w = .ok (.tuple #[.agg cs, tmps.getD a undef, tmps.getD b undef]) w := by
  have hp' : tmps[p]?.getD undef = .pointer (some ⟨g, 0, none⟩) := by simpa using hp
  simp [results, h, hp', asAddr, run_loadVar_row w g t ty cs fr d hg hu hd hi]
def OldPost (g : Nat) (s : ByteArray) (at_ : Nat) (bad : Int) (w : World) (e : Ending) (w' : World) : Prop :=
  ∃ (q : Nat) (K : Int) (T : ByteArray) (n : Nat) (old : Bool) (t : ByteArray) (b : Bool), e = .returned (.tuple #[.agg (tk K T n old).toArray, .string t, .bool b]) ∧ Dig t ∧ t.size ≤ 4096 ∧ Moved g s at_ bad w w' q
set_option maxRecDepth 100000 in
set_option maxHeartbeats 8000000 in
theorem scanOld (g : Nat) (s : ByteArray) (at_ : Nat) (bad : Int) (w : World) (h : Sc w g s at_ bad) (hb0 : 0 ≤ bad) (hb2 : bad ≤ 2) (hs : s.size ≤ 4096) (ha : at_ ≤ s.size) :
    Calls Try.prog 31 #[.pointer (some ⟨g, 0, none⟩)] w (OldPost g s at_ bad w) := by
  have hgl := Blk.lt h
  have HS := Lib.hid h
  clear h
  go_enter Try.func31, Try.ntmps31
  go_upto_region 1 with fail
  obtain ⟨W0, hW0⟩ : ∃ W0, W0 = w.alloc (.cells zer.toArray 45) := ⟨_, rfl⟩
  have HZ0 := Lib.hid (show Blk W0 w.heap.size 45 zer by rw [hW0]; exact Blk.new w 45 zer)
  have HS0 := Lib.hid (show Sc W0 g s at_ bad by rw [hW0]; exact Blk.alloc HS.out _)
  have HG0 := Lib.hid (show w.grownBy W0 (some g) by rw [hW0]; exact only_alloc (World.grownBy.refl w _) _)
  simp only [zer] at hW0
  rw [← hW0]
  clear hW0
  have HFA := Lib.hid (scanFail g s at_ bad 2 W0 HS0.out (by omega) (by omega) hb0 hb2)
  go_wp2_with fail
  refine HFA.out.mono ?_
  rintro e W1 ⟨rfl, ⟨b3, b31, b32, hsc1⟩, hgr1⟩
  have HZ1 := Lib.hid (Blk.grown HZ0.out hgr1 (fun e => by injection e with e; omega))
  have HM1 := Lib.hid (show Moved g s at_ bad w W1 at_ from ⟨grown_trans HG0.out hgr1, Nat.le_refl _, ha, Seg.refl _ _, b3, hsc1, by omega, b32⟩)
  have HDG := Lib.hid (show Calls Try.prog 32 #[.pointer (some ⟨g, 0, none⟩), .int .i64 10, .bool false] W1 (DigPost g s at_ b3 W1) from scanDigits g s at_ b3 10 false W1 hsc1 (by omega) b32 hs ha (by omega))
  clear hsc1 hgr1 HZ0 HS0 HG0
  go_wp2_with fail
  refine HDG.out.mono ?_
  rintro e W2 ⟨q, t, rfl, hd, ht, hmv⟩
  have HM2 := Lib.hid (HM1.out.trans hmv)
  have HZ2 := Lib.hid (Blk.grown HZ1.out hmv.1 (fun e => by injection e with e; omega))
  have HD := Lib.hid hd
  have tsz : t.size ≤ 4096 := by have := hmv.2.2.1; omega
  clear hd ht hmv
  go_wp2_with fail
  go_loopw [6] (fun iv wr => ∃ i : Nat, iv = .int .i64 i ∧ i ≤ t.size ∧ wr = W2) (fun iv _ => t.size - (intOf iv).toNat)
  case atStart => exact ⟨0, rfl, by omega, rfl⟩
  case round =>
    obtain ⟨i, rfl, hi, rfl⟩ := hrel
    by_cases hlt : i < t.size
    · have q1 : (i : Int) < (t.size : Int) := by omega
      obtain ⟨c, hc⟩ : ∃ c : Nat, c = byt t i := ⟨_, rfl⟩
      have ec : (t[i]'hlt).toNat = c := by rw [hc, byt_eq t _ hlt]
      have HLT := Lib.hid hlt
      clear hc
      by_cases h7 : 55 < c
      · have t1 : (55 : Int) < (c : Int) := by omega
        have t2 : decide ((55 : Int) < (c : Int)) = true := by simp; omega
        clear h7
        go_wp2_with (with_reducible refine wpList_store_blk rfl 45 (.tmp 2) (.tmp 21) rfl w.heap.size zer (tk 6 ⟨#[]⟩ 0 true) 45 rfl rfl HZ2.out (tk_zer _ _ _ _) (size_tk _ _ _ _) (tk_one _ _ _ _) ?_)
        intro W8 H8 G8 S8
        have HM8 := Lib.hid (HM2.out.stored G8 (Nat.le_refl _) hgl)
        clear G8
        go_wp2_with fail
        refine bodyPost_ret (results_mix Try.results31 _ _ w.heap.size 45 _ (0, 0) _ rfl H8 Try.underlying45 rfl size45) rfl ?_
        exact ⟨q, 6, ⟨#[]⟩, 0, true, t, false, rfl, HD.out, tsz, HM8.out⟩
      · have t1 : ¬ (55 : Int) < (c : Int) := by omega
        have t2 : decide ((55 : Int) < (c : Int)) = false := by simp; omega
        clear h7
        go_wp2_with fail
        go_roundw
        case rel => exact ⟨i + 1, val_int (by omega), HLT.out, trivial⟩
        case measure => have := HLT.out; simp [intOf]; omega
    · have q1 : ¬ (i : Int) < (t.size : Int) := by omega
      obtain ⟨V, hV⟩ : ∃ V, V = natOf 8 (nats t) := ⟨_, rfl⟩
      have HNA := Lib.hid (fun w => show Calls Try.prog 34 #[.string t, .int .i64 8] w (Gives V w) from by rw [hV]; exact natural_walk t 8 w (by omega) (by omega) fun i hi => HD.out.at_ i hi)
      have HNB := Lib.hid (show blen V ≤ 20000 by have := natOf_blen 8 (by omega) (nats t); rw [nats_length] at this; rw [hV]; omega)
      clear hV hlt
      go_wp2_with fail
      refine (HNA.out _).mono ?_
      rintro e w6 ⟨hb6, a, rfl, han⟩
      have HM6 := Lib.hid (HM2.out.below hb6)
      have HZ6 := Lib.hid (Blk.below HZ2.out hb6 (Blk.lt HZ2.out))
      have HWW := Lib.hid (whole_walk a V w6 han (by have := HNB.out; omega))
      clear hb6 han
      go_wp2_with fail
      refine HWW.out.mono ?_
      rintro e w7 ⟨hb7, rfl⟩
      have HM7 := Lib.hid (HM6.out.below hb7)
      have HZ7 := Lib.hid (Blk.below HZ6.out hb7 (Blk.lt HZ6.out))
      obtain ⟨n, hnn⟩ : ∃ n, n = roundP V 1 := ⟨_, rfl⟩
      rw [← hnn]
      clear hb7 hnn
      go_wp2_with (with_reducible refine wpList_store_blk rfl 45 (.tmp 2) (.tmp 26) rfl w.heap.size zer (tk 6 ⟨#[]⟩ n true) 45 rfl rfl HZ7.out (tk_zer _ _ _ _) (size_tk _ _ _ _) (tk_one _ _ _ _) ?_)
      intro W8 H8 G8 S8
      have HM8 := Lib.hid (HM7.out.stored G8 (Nat.le_refl _) hgl)
      clear G8
      go_wp2_with fail
      refine bodyPost_ret (results_mix Try.results31 _ _ w.heap.size 45 _ (0, 0) _ rfl H8 Try.underlying45 rfl size45) rfl ?_
      exact ⟨q, 6, ⟨#[]⟩, n, true, t, true, rfl, HD.out, tsz, HM8.out⟩
end Go.Proofs.Ytefippeaalkmeaa.Scan
