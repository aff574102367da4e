/- The reference's scanner: its small functions. The walks. -/
import Derived.Test.YtefippeaalkmeaaDec
import Derived.Deep.QuietTactic
import Derived.BigQuiet
namespace Go.Proofs.Ytefippeaalkmeaa.Scan
open Go.RowKit Go.Proofs.Ytefippeaalkmeaa.Aid Go.Proofs.Ytefippeaalkmeaa.Runes Go.Proofs.Ytefippeaalkmeaa.Bytes Go.Proofs.Ytefippeaalkmeaa.Nats
attribute [local go_sem ↓] Go.wp_at_zero Go.wp_at_succ
set_option linter.unusedVariables false
def Drawn (w w' : World) : Prop := ∃ n, w' = w.drewN n
/-- The scanner at a place. -/
def Sc (w : World) (g : Nat) (s : ByteArray) (at_ : Nat) (bad : Int) : Prop := Blk w g 52 [.string s, .int .i64 at_, .bool false, .bool false, .int .i64 bad]
theorem Sc.drewN {w : World} {g : Nat} {s : ByteArray} {at_ : Nat} {bad : Int} (h : Sc w g s at_ bad) (n : Nat) : Sc (w.drewN n) g s at_ bad := Blk.drewN h n
theorem Sc.set {w : World} {g : Nat} {s : ByteArray} {at_ : Nat} {bad : Int} (h : Sc w g s at_ bad) (p : Nat) : Sc (w.setCell ⟨g, 1, none⟩ (.int .i64 p)) g s p bad := Blk.set_ h 1 _
theorem Sc.grown {w w' : World} {g : Nat} {s : ByteArray} {at_ : Nat} {bad : Int} (h : Sc w g s at_ bad) (hb : Below w.heap.size w w') : Sc w' g s at_ bad := Blk.below h hb (Blk.lt h)
theorem grown_trans {a b c : World} {r : Option Nat} (h : a.grownBy b r) (k : b.grownBy c r) : a.grownBy c r :=
  ⟨k.os.trans h.os, k.tape.trans h.tape, k.output.trans h.output, Nat.le_trans h.size k.size, fun i hi hr => (k.block i (Nat.lt_of_lt_of_le hi h.size) hr).trans (h.block i hi hr)⟩
set_option maxRecDepth 100000 in
set_option maxHeartbeats 2000000 in
theorem scanRune (g : Nat) (s : ByteArray) (at_ : Nat) (bad : Int) (w : World) (h : Sc w g s at_ bad) (hs : s.size ≤ 140737488351232) (ha : at_ ≤ s.size) :
    Calls Try.prog 16 #[.pointer (some ⟨g, 0, none⟩)] w fun e w' => e = .returned (.tuple #[.int .i64 (rune s at_).1, .int .i64 (rune s at_).2]) ∧ Drawn w w' := by
  have c0 := Blk.get h 0 rfl
  have c1 := Blk.get h 1 rfl
  have HR := Lib.hid (fun w => rune_walk s at_ w hs (by omega))
  obtain ⟨r, n, hrn⟩ : ∃ r n, rune s at_ = (r, n) := ⟨_, _, rfl⟩
  rw [hrn] at HR ⊢
  clear h hrn
  go_enter Try.func16, Try.ntmps16
  go_wp2_with fail
  go_quiet ((go_at_call 9; exact Calls.quiet_of_same (HR.out _)))
  go_wp2_with fail
  go_returns
  exact ⟨rfl, _, rfl⟩
/-- Whether a text goes on with another one. -/
def isAt (s : ByteArray) (at_ : Nat) (t : ByteArray) : Bool := decide (t.size ≤ s.size - at_) && ((s.extract at_ (at_ + t.size)).toList == t.toList)
set_option maxRecDepth 100000 in
set_option maxHeartbeats 2000000 in
theorem scanIs (g : Nat) (s : ByteArray) (at_ : Nat) (bad : Int) (t : ByteArray) (w : World) (h : Sc w g s at_ bad) (hs : s.size ≤ 140737488351232) (ha : at_ ≤ s.size) (ht : t.size ≤ 100) :
    Calls Try.prog 14 #[.pointer (some ⟨g, 0, none⟩), .string t] w fun e w' => e = .returned (.bool (isAt s at_ t)) ∧ Drawn w w' := by
  have c0 := Blk.get h 0 rfl
  have c1 := Blk.get h 1 rfl
  obtain ⟨B, hB⟩ : ∃ B, B = isAt s at_ t := ⟨_, rfl⟩
  rw [← hB]
  by_cases hl : t.size ≤ s.size - at_
  · have hd : decide ((t.size : Int) ≤ (s.size : Int) - (at_ : Int)) = true := by simp; omega
    have hd' : (t.size : Int) ≤ (s.size : Int) - (at_ : Int) := by omega
    have hsl : ∀ w, (Instr.slice 9 (.string s) (some (.int .i64 (at_ : Int))) (some (.int .i64 ((at_ : Int) + (t.size : Int)))) none).run Try.prog w = .ok (.string (s.extract at_ (at_ + t.size))) w := by
      intro w
      have := slice_mid s at_ (at_ + t.size) (by omega) (by omega) w
      rwa [Int.natCast_add] at this
    have HE := Lib.hid (show B = ((s.extract at_ (at_ + t.size)).toList == t.toList) by
      rw [hB, isAt]
      simp only [hl, decide_true, Bool.true_and])
    obtain ⟨E, hE⟩ : ∃ E, E = s.extract at_ (at_ + t.size) := ⟨_, rfl⟩
    rw [← hE] at hsl HE
    clear h hB hE
    go_enter Try.func14, Try.ntmps14
    go_wp2_with fail
    go_quiet (fail)
    go_wp2_with fail
    go_returns
    exact ⟨by rw [HE.out]; rfl, _, rfl⟩
  · have hd : decide ((t.size : Int) ≤ (s.size : Int) - (at_ : Int)) = false := by simp; omega
    have HE := Lib.hid (show B = false by rw [hB, isAt]; simp [hl])
    clear h hB hl
    go_enter Try.func14, Try.ntmps14
    go_wp2_with fail
    go_quiet (fail)
    go_wp2_with fail
    go_returns
    exact ⟨by rw [HE.out]; rfl, _, rfl⟩
theorem list_is (a b : ByteArray) : (a.toList == b.toList) = decide (nats a = nats b) := by
  rw [Bool.eq_iff_iff]
  simp only [beq_iff_eq, decide_eq_true_eq, ByteArray.toList_eq]
  constructor
  · intro h
    rw [nats, nats, h]
  · intro h
    have := congrArg str h
    rw [str_nats, str_nats] at this
    rw [this]
theorem isAt_one (s : ByteArray) (at_ : Nat) (t : ByteArray) (c : Nat) (ht : nats t = [c]) (ha : at_ ≤ s.size) : isAt s at_ t = decide (at_ < s.size ∧ byt s at_ = c) := by
  have hz : t.size = 1 := by rw [← nats_length, ht]; rfl
  rw [isAt, list_is, nats_extract, ht, hz, Bool.eq_iff_iff]
  simp only [Bool.and_eq_true, decide_eq_true_eq]
  constructor
  · rintro ⟨h1, h2⟩
    have h3 : at_ < s.size := by omega
    rw [cut_next s at_ at_ (Nat.le_refl _) h3, cut_self] at h2
    exact ⟨h3, by simpa using h2⟩
  · rintro ⟨h1, h2⟩
    refine ⟨by omega, ?_⟩
    rw [cut_next s at_ at_ (Nat.le_refl _) h1, cut_self, h2]
    rfl
/-- No text of two bytes goes on where the first byte is another. -/
theorem isAt_two (s : ByteArray) (at_ : Nat) (t : ByteArray) (c d : Nat) (ht : nats t = [c, d]) (ha : at_ < s.size) (hb : byt s at_ ≠ c) : isAt s at_ t = false := by
  have hz : t.size = 2 := by rw [← nats_length, ht]; rfl
  rw [isAt, list_is, nats_extract, ht, hz]
  by_cases h : 2 ≤ s.size - at_
  · have h1 : cut s at_ (at_ + 2) ≠ [c, d] := by
      rw [cut_next s at_ (at_ + 1) (by omega) (by omega), cut_next s at_ at_ (Nat.le_refl _) ha, cut_self]
      simp
      intro h
      exact absurd h hb
    simp [h1]
  · simp [h]
set_option maxHeartbeats 2000000 in
theorem scanFail (g : Nat) (s : ByteArray) (at_ : Nat) (bad k : Int) (w : World) (h : Sc w g s at_ bad) (hk : 0 < k) (hk2 : k ≤ 2) (hb : 0 ≤ bad) (hb2 : bad ≤ 2) :
    Calls Try.prog 17 #[.pointer (some ⟨g, 0, none⟩), .int .i64 k] w fun e w' => e = .returned (.tuple #[]) ∧ (∃ b, 0 < b ∧ b ≤ 2 ∧ Sc w' g s at_ b) ∧ w.grownBy w' (some g) := by
  have c4 := Blk.get h 4 rfl
  have f4 := Blk.frozen h 4
  by_cases h0 : bad = 0
  · have t0 : (bad == 0) = true := by simp [h0]
    have HS := Lib.hid (show Sc (w.setCell ⟨g, 4, none⟩ (.int .i64 k)) g s at_ k from Blk.set_ h 4 _)
    clear h h0
    go_enter Try.func17, Try.ntmps17
    go_wp2_with fail
    go_returns
    exact ⟨rfl, ⟨k, hk, hk2, HS.out⟩, only_setCell (p := ⟨g, 4, none⟩) (World.grownBy.refl w _) (.inl rfl) _⟩
  · have t0 : (bad == 0) = false := by simp [h0]
    have HS := Lib.hid h
    have hb0 : 0 < bad := by omega
    clear h h0
    go_enter Try.func17, Try.ntmps17
    go_wp2_with fail
    go_returns
    exact ⟨rfl, ⟨bad, hb0, hb2, HS.out⟩, World.grownBy.refl w _⟩
theorem isAt_pair (s : ByteArray) (at_ : Nat) (t : ByteArray) (c d : Nat) (ht : nats t = [c, d]) (ha : at_ ≤ s.size) : isAt s at_ t = decide (at_ + 1 < s.size ∧ byt s at_ = c ∧ byt s (at_ + 1) = d) := by
  have hz : t.size = 2 := by rw [← nats_length, ht]; rfl
  rw [isAt, list_is, nats_extract, ht, hz, Bool.eq_iff_iff]
  simp only [Bool.and_eq_true, decide_eq_true_eq]
  constructor
  · rintro ⟨h1, h2⟩
    rw [cut_next s at_ (at_ + 1) (by omega) (by omega), cut_next s at_ at_ (Nat.le_refl _) (by omega), cut_self] at h2
    simp at h2
    exact ⟨by omega, h2.1, h2.2⟩
  · rintro ⟨h1, h2, h3⟩
    refine ⟨by omega, ?_⟩
    rw [cut_next s at_ (at_ + 1) (by omega) (by omega), cut_next s at_ at_ (Nat.le_refl _) (by omega), cut_self, h2, h3]
    rfl
/-- The signs of which a number is made, with its exponent's. -/
def Sgn (b : Nat) : Prop := (48 ≤ b ∧ b ≤ 57) ∨ (97 ≤ b ∧ b ≤ 122) ∨ (65 ≤ b ∧ b ≤ 90) ∨ b = 46 ∨ b = 95 ∨ b = 43 ∨ b = 45
def Seg (s : ByteArray) (a b : Nat) : Prop := ∀ i, a ≤ i → i < b → Sgn (byt s i)
theorem Seg.refl (s : ByteArray) (a : Nat) : Seg s a a := fun i h1 h2 => by omega
theorem Seg.trans {s : ByteArray} {a b c : Nat} (h : Seg s a b) (k : Seg s b c) : Seg s a c := fun i h1 h2 => by
  by_cases hi : i < b
  · exact h i h1 hi
  · exact k i (by omega) h2
theorem Seg.one {s : ByteArray} {a : Nat} (h : Sgn (byt s a)) : Seg s a (a + 1) := fun i h1 h2 => by
  rw [show i = a by omega]
  exact h
theorem sgn_hex {b v : Nat} (h : hexv b = some v) : Sgn b := by
  unfold hexv at h
  unfold Sgn
  repeat' split at h
  all_goals first | omega | cases h
/-- Where the scanner stands. -/
def place (w : World) (g : Nat) : Nat := match w.cell? ⟨g, 1, none⟩ with
  | some (.int _ n) => n.toNat
  | _ => 0
theorem place_is {w : World} {g : Nat} {s : ByteArray} {p : Nat} {bad : Int} (h : Sc w g s p bad) : place w g = p := by
  rw [place, Blk.get h 1 rfl]
  simp
/-- How the scanner moves in a number. -/
def Moved (g : Nat) (s : ByteArray) (at_ : Nat) (bad : Int) (w w' : World) (q : Nat) : Prop :=
  w.grownBy w' (some g) ∧ at_ ≤ q ∧ q ≤ s.size ∧ Seg s at_ q ∧ ∃ bad2 : Int, Sc w' g s q bad2 ∧ 0 ≤ bad2 ∧ bad2 ≤ 2
end Go.Proofs.Ytefippeaalkmeaa.Scan
