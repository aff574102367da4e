/- The reference's scanner: its small functions. The walks. -/
import Derived.Test.YtkhnkemmkedfcaaEsc
import Derived.Test.YtkhnkemmkedfcaaWtfN
import Derived.Deep.QuietTactic
import Derived.BigQuiet
namespace Go.Proofs.Ytkhnkemmkedfcaa.Js
open Go.RowKit Go.Proofs.Ytkhnkemmkedfcaa.Aid Go.Proofs.Ytkhnkemmkedfcaa.Runes Go.Proofs.Ytkhnkemmkedfcaa.Bytes Go.Proofs.Ytkhnkemmkedfcaa.Wtf Go.Proofs.Ytkhnkemmkedfcaa.Esc
attribute [local go_sem ↓] Go.wp_at_zero Go.wp_at_succ
set_option linter.unusedVariables false
theorem byt_from (s : ByteArray) (i k : Nat) : byt (s.extract i s.size) k = byt s (i + k) := by
  rw [← getD_nats, nats_rest, getD_drop]
theorem rune_shift (s : ByteArray) (i : Nat) (hi : i ≤ s.size) : rune s i = rune (s.extract i s.size) 0 := by
  have hz : (s.extract i s.size).size = s.size - i := extract_size0 s i s.size hi (Nat.le_refl _)
  have e0 : (0 < s.size - i) = (i < s.size) := by apply propext; omega
  have e1 : (1 < s.size - i) = (i + 1 < s.size) := by apply propext; omega
  have e2 : (2 < s.size - i) = (i + 2 < s.size) := by apply propext; omega
  have e3 : (3 < s.size - i) = (i + 3 < s.size) := by apply propext; omega
  unfold rune
  simp only [decode_eq, byt_from, hz, Nat.zero_add, Nat.add_zero, e0, e1, e2, e3]
theorem rune_ur (s : ByteArray) (i : Nat) (hi : i ≤ s.size) : rune s i = ur ((nats s).drop i) := by
  rw [rune_shift s i hi, ← nats_rest]
  obtain ⟨C, hC⟩ : ∃ C, C = s.extract i s.size := ⟨_, rfl⟩
  rw [← hC]
  by_cases hn : 0 < (rune C 0).2
  · have h1 := lrune_of_rune C hn
    have h2 := (rune_pos (s := C) (i := 0) (r := (rune C 0).1) (n := (rune C 0).2) rfl hn).2.2.2.2.2.2.2
    exact (ur_mk (r := (rune C 0).1) (n := (rune C 0).2) h1 (fun h => h2 h.2)).symm
  · have h0 : (rune C 0).2 = 0 := by omega
    have h00 : rune C 0 = (0, 0) := by
      unfold rune at h0 ⊢
      split
      · rename_i hc
        rw [if_pos hc] at h0
        rcases decode_of C 0 hc.1 with ⟨h1, h2⟩ | ⟨h1, h2⟩
        · rw [h2] at h0
          omega
        · exact absurd h2 hc.2
      · rfl
    rw [h00]
    by_cases hs : Sur C
    · have h1 := lrune_sur C hs
      obtain ⟨_, _, a, b, _⟩ := hs
      rw [ur, h1, if_pos ⟨rfl, by simp only; omega, by simp only; omega⟩]
    · rw [ur, lrune_none C h0 hs]
      rfl
/-- The scanner at a place. -/
def Sc (w : World) (g : Nat) (s : ByteArray) (at_ : Nat) (bad : Int) : Prop := Blk w g 54 [.string s, .int .i64 at_, .bool false, .bool false, .int .i64 bad]
theorem Sc.drewN {w : World} {g : Nat} {s : ByteArray} {at_ : Nat} {bad : Int} (h : Sc w g s at_ bad) (n : Nat) : Sc (w.drewN n) g s at_ bad := Blk.drewN h n
set_option maxRecDepth 100000 in
set_option maxHeartbeats 2000000 in
theorem scanRune (g : Nat) (s : ByteArray) (at_ : Nat) (bad : Int) (w : World) (h : Sc w g s at_ bad) (hs : s.size ≤ 140737488351232) (ha : at_ ≤ s.size) :
    Calls Try.prog 49 #[.pointer (some ⟨g, 0, none⟩)] w fun e w' => e = .returned (.tuple #[.int .i64 (ur ((nats s).drop at_)).1, .int .i64 (ur ((nats s).drop at_)).2]) ∧ Drawn w w' := by
  have c0 := Blk.get h 0 rfl
  have c1 := Blk.get h 1 rfl
  have HR := Lib.hid (fun w => rune_walk s at_ w hs (by omega))
  rw [rune_ur s at_ ha] at HR
  obtain ⟨r, n, hrn⟩ : ∃ r n, ur ((nats s).drop at_) = (r, n) := ⟨_, _, rfl⟩
  rw [hrn] at HR ⊢
  clear h hrn
  go_enter Try.func49, Try.ntmps49
  go_wp2_with fail
  go_quiet ((go_at_call 44; exact Calls.quiet_of_same (HR.out _)))
  go_wp2_with fail
  go_returns
  exact ⟨rfl, _, rfl⟩
/-- Whether a text goes on with another one. -/
def isAt (s : ByteArray) (at_ : Nat) (t : ByteArray) : Bool := decide (t.size ≤ s.size - at_) && ((s.extract at_ (at_ + t.size)).toList == t.toList)
set_option maxRecDepth 100000 in
set_option maxHeartbeats 2000000 in
theorem scanIs (g : Nat) (s : ByteArray) (at_ : Nat) (bad : Int) (t : ByteArray) (w : World) (h : Sc w g s at_ bad) (hs : s.size ≤ 140737488351232) (ha : at_ ≤ s.size) (ht : t.size ≤ 100) :
    Calls Try.prog 47 #[.pointer (some ⟨g, 0, none⟩), .string t] w fun e w' => e = .returned (.bool (isAt s at_ t)) ∧ Drawn w w' := by
  have c0 := Blk.get h 0 rfl
  have c1 := Blk.get h 1 rfl
  obtain ⟨B, hB⟩ : ∃ B, B = isAt s at_ t := ⟨_, rfl⟩
  rw [← hB]
  by_cases hl : t.size ≤ s.size - at_
  · have hd : decide ((t.size : Int) ≤ (s.size : Int) - (at_ : Int)) = true := by simp; omega
    have hd' : (t.size : Int) ≤ (s.size : Int) - (at_ : Int) := by omega
    have hsl : ∀ w, (Instr.slice 9 (.string s) (some (.int .i64 (at_ : Int))) (some (.int .i64 ((at_ : Int) + (t.size : Int)))) none).run Try.prog w = .ok (.string (s.extract at_ (at_ + t.size))) w := by
      intro w
      have := slice_mid s at_ (at_ + t.size) (by omega) (by omega) w
      rwa [Int.natCast_add] at this
    have HE := Lib.hid (show B = ((s.extract at_ (at_ + t.size)).toList == t.toList) by
      rw [hB, isAt]
      simp only [hl, decide_true, Bool.true_and])
    obtain ⟨E, hE⟩ : ∃ E, E = s.extract at_ (at_ + t.size) := ⟨_, rfl⟩
    rw [← hE] at hsl HE
    clear h hB hE
    go_enter Try.func47, Try.ntmps47
    go_wp2_with fail
    go_quiet (fail)
    go_wp2_with fail
    go_returns
    exact ⟨by rw [HE.out]; rfl, _, rfl⟩
  · have hd : decide ((t.size : Int) ≤ (s.size : Int) - (at_ : Int)) = false := by simp; omega
    have HE := Lib.hid (show B = false by rw [hB, isAt]; simp [hl])
    clear h hB hl
    go_enter Try.func47, Try.ntmps47
    go_wp2_with fail
    go_quiet (fail)
    go_wp2_with fail
    go_returns
    exact ⟨by rw [HE.out]; rfl, _, rfl⟩
theorem list_is (a b : ByteArray) : (a.toList == b.toList) = decide (nats a = nats b) := by
  rw [Bool.eq_iff_iff]
  simp only [beq_iff_eq, decide_eq_true_eq, ByteArray.toList_eq]
  constructor
  · intro h
    rw [nats, nats, h]
  · intro h
    have := congrArg str h
    rw [str_nats, str_nats] at this
    rw [this]
theorem isAt_one (s : ByteArray) (at_ : Nat) (t : ByteArray) (c : Nat) (ht : nats t = [c]) (ha : at_ ≤ s.size) : isAt s at_ t = decide (at_ < s.size ∧ byt s at_ = c) := by
  have hz : t.size = 1 := by rw [← nats_length, ht]; rfl
  rw [isAt, list_is, nats_extract, ht, hz, Bool.eq_iff_iff]
  simp only [Bool.and_eq_true, decide_eq_true_eq]
  constructor
  · rintro ⟨h1, h2⟩
    have h3 : at_ < s.size := by omega
    rw [cut_next s at_ at_ (Nat.le_refl _) h3, cut_self] at h2
    exact ⟨h3, by simpa using h2⟩
  · rintro ⟨h1, h2⟩
    refine ⟨by omega, ?_⟩
    rw [cut_next s at_ at_ (Nat.le_refl _) h1, cut_self, h2]
    rfl
/-- No text of two bytes goes on where the first byte is another. -/
theorem isAt_two (s : ByteArray) (at_ : Nat) (t : ByteArray) (c d : Nat) (ht : nats t = [c, d]) (ha : at_ < s.size) (hb : byt s at_ ≠ c) : isAt s at_ t = false := by
  have hz : t.size = 2 := by rw [← nats_length, ht]; rfl
  rw [isAt, list_is, nats_extract, ht, hz]
  by_cases h : 2 ≤ s.size - at_
  · have h1 : cut s at_ (at_ + 2) ≠ [c, d] := by
      rw [cut_next s at_ (at_ + 1) (by omega) (by omega), cut_next s at_ at_ (Nat.le_refl _) ha, cut_self]
      simp
      intro h
      exact absurd h hb
    simp [h1]
  · simp [h]
set_option maxHeartbeats 2000000 in
theorem scanFail (g : Nat) (s : ByteArray) (at_ : Nat) (bad k : Int) (w : World) (h : Sc w g s at_ bad) (hk : 0 < k) (hk2 : k ≤ 2) (hb : 0 ≤ bad) (hb2 : bad ≤ 2) :
    Calls Try.prog 50 #[.pointer (some ⟨g, 0, none⟩), .int .i64 k] w fun e w' => e = .returned (.tuple #[]) ∧ (∃ b, 0 < b ∧ b ≤ 2 ∧ Sc w' g s at_ b) ∧ w.grownBy w' (some g) := by
  have c4 := Blk.get h 4 rfl
  have f4 := Blk.frozen h 4
  by_cases h0 : bad = 0
  · have t0 : (bad == 0) = true := by simp [h0]
    have HS := Lib.hid (show Sc (w.setCell ⟨g, 4, none⟩ (.int .i64 k)) g s at_ k from Blk.set_ h 4 _)
    clear h h0
    go_enter Try.func50, Try.ntmps50
    go_wp2_with fail
    go_returns
    exact ⟨rfl, ⟨k, hk, hk2, HS.out⟩, only_setCell (p := ⟨g, 4, none⟩) (World.grownBy.refl w _) (.inl rfl) _⟩
  · have t0 : (bad == 0) = false := by simp [h0]
    have HS := Lib.hid h
    have hb0 : 0 < bad := by omega
    clear h h0
    go_enter Try.func50, Try.ntmps50
    go_wp2_with fail
    go_returns
    exact ⟨rfl, ⟨bad, hb0, hb2, HS.out⟩, World.grownBy.refl w _⟩
end Go.Proofs.Ytkhnkemmkedfcaa.Js
