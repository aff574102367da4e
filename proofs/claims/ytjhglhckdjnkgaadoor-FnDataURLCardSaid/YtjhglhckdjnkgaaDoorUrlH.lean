/- The statement FnDataURL, walked: a text that is written as a data URL is what is fetched from it. -/
import Derived.Test.YtjhglhckdjnkgaaDoorUrlG
import Derived.Test.YtjhglhckdjnkgaaDoorRows
import Derived.PinnedBridge
import Derived.Lib.LaidU8
import Derived.LaidMore
import Derived.Stop.Joined
namespace Go.Proofs.YtjhglhckdjnkgaaDoor.Url
open Go.RowKit Go.Proofs.YtjhglhckdjnkgaaDoor.Aid Go.Proofs.YtjhglhckdjnkgaaDoor.Runes
attribute [local go_sem ↓] Go.wp_at_zero Go.wp_at_succ
set_option linter.unusedVariables false
theorem extra : U8Extra Tryd.prog Tryd.lays260_ren := ⟨by kernel_rfl, by kernel_rfl, by kernel_rfl, by kernel_rfl, by kernel_rfl, by kernel_rfl, by kernel_rfl⟩
theorem tabs_of_laid {W : World} (h : laidMetH Tryd.prog Rows.fnDataURLRow.laid W) : Lib.Utf8Tabs 4 5 W := by
  rw [MakeChecks.laidMetH_plain _ _ _ (by kernel_rfl)] at h
  have h3 := Lib.laidMet.reads h (n := "unicode/utf8.first") (d := Go.Pinned.utf8First) (by simp [Rows.fnDataURLRow, Rows.laid_unicode_utf8_first])
  have h4 := Lib.laidMet.reads h (n := "unicode/utf8.acceptRanges") (d := Rows.laid_unicode_utf8_acceptRanges) (by simp [Rows.fnDataURLRow])
  rw [Go.Pinned.utf8First_eq] at h3
  rw [show (Rows.laid_unicode_utf8_acceptRanges : DataW Unit) = Lib.acceptData by kernel_rfl] at h4
  exact utf8Tabs_of_reads Tryd.lays260 extra h3 h4
set_option maxRecDepth 100000 in
set_option maxHeartbeats 2000000 in
theorem implData (mime s : ByteArray) (w : World) (hm : mime.size ≤ 1000) (hs : s.size ≤ 100000) (hT : Lib.Utf8Tabs 4 5 w) :
    Calls Tryd.prog 12 #[.string mime, .string s] w (Out mime s w) := by
  have H := Lib.hid (encode mime s w hm hs hT)
  clear hT
  by_cases hw : wf s 0 = true
  · have HW := Lib.hid hw
    clear hw
    go_enter Tryd.func12, Tryd.ntmps12
    go_wp2_with fail
    refine (H.out).mono ?_
    rintro e w1 ⟨rfl, hb⟩
    rw [HW.out, if_pos rfl]
    go_wp2_with fail
    go_returns
    exact ⟨by rw [HW.out]; rfl, hb⟩
  · have HW := Lib.hid (show wf s 0 = false by simpa using hw)
    clear hw
    go_enter Tryd.func12, Tryd.ntmps12
    go_wp2_with fail
    refine (H.out).mono ?_
    rintro e w1 ⟨rfl, hb⟩
    rw [HW.out, if_neg (by decide)]
    go_wp2_with fail
    go_returns
    exact ⟨by rw [HW.out]; rfl, hb⟩
set_option maxRecDepth 100000 in
set_option maxHeartbeats 4000000 in
theorem law (mime s : ByteArray) (w : World) (hm : mime.size ≤ 140737488351232) (hs : s.size ≤ 140737488351232) (hL : laidMetH Tryd.prog Rows.fnDataURLRow.laid w) :
    Calls Tryd.prog 4 #[.string mime, .string s] w fun e w' => e = .returned (.bool true) ∧ Below w.heap.size w w' := by
  have HT := Lib.hid (tabs_of_laid hL)
  clear hL
  by_cases a1 : (2147483647 : Int) < mime.size
  · go_enter Tryd.func4, Tryd.ntmps4
    go_wp2_with fail
    go_returns
    exact ⟨rfl, Below.refl _ _⟩
  by_cases a2 : (2147483647 : Int) < s.size
  · go_enter Tryd.func4, Tryd.ntmps4
    go_wp2_with fail
    go_returns
    exact ⟨rfl, Below.refl _ _⟩
  by_cases a3 : (4096 : Int) < s.size
  · go_enter Tryd.func4, Tryd.ntmps4
    go_wp2_with fail
    go_returns
    exact ⟨rfl, Below.refl _ _⟩
  by_cases a4 : (100 : Int) < mime.size
  · go_enter Tryd.func4, Tryd.ntmps4
    go_wp2_with fail
    go_returns
    exact ⟨rfl, Below.refl _ _⟩
  have HI := Lib.hid (implData mime s w (by omega) (by omega) HT.out)
  have HWF := Lib.hid (fun w => wellFormed s w hs)
  go_enter Tryd.func4, Tryd.ntmps4
  go_wp2_with fail
  go_loop [5] (fun i => ∃ k : Nat, k ≤ mime.size ∧ i = .int .i64 k) (fun i => mime.size - (intOf i).toNat)
  case atStart => exact ⟨0, Nat.zero_le _, rfl⟩
  case round =>
    obtain ⟨k, hk, rfl⟩ := hrel
    by_cases hlt : k < mime.size
    · have i1 : (k : Int) < mime.size := by omega
      obtain ⟨b, eb⟩ : ∃ b : Nat, (mime[k]'hlt).toNat = b := ⟨_, rfl⟩
      have hret : ∀ w : World, (Ending.returned (.bool true) = .returned (.bool true)) ∧ Below w.heap.size w w := fun w => ⟨rfl, Below.refl _ _⟩
      by_cases q1 : b ≤ 32
      · have t1 : (b : Int) ≤ 32 := by omega
        clear q1 hret
        go_wp2_with fail
        go_returns
        exact ⟨rfl, Below.refl _ _⟩
      have t1 : (32 : Int) < b := by omega
      by_cases q2 : 127 ≤ b
      · have t2 : (127 : Int) ≤ b := by omega
        clear q1 q2 hret
        go_wp2_with fail
        go_returns
        exact ⟨rfl, Below.refl _ _⟩
      have t2 : (b : Int) < 127 := by omega
      by_cases q3 : b = 44
      · have t3 : ((b : Int) == 44) = true := by simp; omega
        clear q1 q2 q3 hret
        go_wp2_with fail
        go_returns
        exact ⟨rfl, Below.refl _ _⟩
      have t3 : ((b : Int) == 44) = false := by simp; omega
      by_cases q4 : b = 35
      · have t4 : ((b : Int) == 35) = true := by simp; omega
        clear q1 q2 q3 q4 hret
        go_wp2_with fail
        go_returns
        exact ⟨rfl, Below.refl _ _⟩
      have t4 : ((b : Int) == 35) = false := by simp; omega
      by_cases q5 : b = 37
      · have t5 : ((b : Int) == 37) = true := by simp; omega
        clear q1 q2 q3 q4 q5 hret
        go_wp2_with fail
        go_returns
        exact ⟨rfl, Below.refl _ _⟩
      have t5 : ((b : Int) == 37) = false := by simp; omega
      clear q1 q2 q3 q4 q5 hret
      go_wp2_with fail
      go_round
      case rel => exact ⟨k + 1, by omega, by go_num⟩
      case measure => simp [intOf]; omega
    · have hge : (mime.size : Int) ≤ k := by omega
      clear hlt
      go_wp2_with fail
      refine (HI.out).mono ?_
      rintro e w1 ⟨rfl, hb⟩
      have HB := Lib.hid hb
      clear hb
      by_cases hw : wf s 0 = true
      · rw [hw, if_pos rfl]
        have HW1 := HWF.out w1
        rw [hw] at HW1
        have hE : (encL (nats s)).length ≤ 13000 := by
          have := enc_len (nats s)
          rw [nats_length] at this
          omega
        have hn : nats (str (encL (nats s))) = encL (nats s) := nats_str _ (enc_lt _ (nats_lt s))
        have hd := dec_enc (nats s) (nats_lt s)
        have HD := Lib.hid (fun w => dataOf_walk mime (str (encL (nats s))) w (by omega) (by rw [str_size]; omega) (by rw [hn]; exact enc_ctl _ (nats_lt s)) (by rw [hn]; exact enc_last _ (nats_lt s)))
        rw [hn, hd, str_nats] at HD
        obtain ⟨U, hU⟩ : ∃ U, U = head mime ++ str (encL (nats s)) := ⟨_, rfl⟩
        rw [← hU] at HD ⊢
        clear hU hn hd hE hw
        go_wp2_with fail
        refine HW1.mono ?_
        rintro e w2 ⟨rfl, rfl⟩
        go_wp2_with fail
        refine (HD.out _).mono ?_
        rintro e w3 ⟨rfl, hb3⟩
        have HB3 := Lib.hid (HB.out.trans (hb3.mono HB.out.size))
        clear hb3
        go_wp2_with fail
        go_returns
        exact ⟨rfl, HB3.out⟩
      · have hw' : wf s 0 = false := by simpa using hw
        rw [hw', if_neg (by decide)]
        have HW1 := HWF.out w1
        rw [hw'] at HW1
        have HD := Lib.hid (fun w => dataOf_none mime w (by omega))
        clear hw hw'
        go_wp2_with fail
        refine HW1.mono ?_
        rintro e w2 ⟨rfl, rfl⟩
        go_wp2_with fail
        refine (HD.out _).mono ?_
        rintro e w3 ⟨rfl, rfl⟩
        go_wp2_with fail
        go_returns
        exact ⟨rfl, HB.out⟩
end Go.Proofs.YtjhglhckdjnkgaaDoor.Url
