/- The reference's JSON escapes. The walk. -/
import Derived.Test.YtkhnkemmkedfcaaWtfF
namespace Go.Proofs.Ytkhnkemmkedfcaa.Wtf
open Go.RowKit Go.Proofs.Ytkhnkemmkedfcaa.Aid Go.Proofs.Ytkhnkemmkedfcaa.Runes Go.Proofs.Ytkhnkemmkedfcaa.Bytes
attribute [local go_sem ↓] Go.wp_at_zero Go.wp_at_succ
set_option linter.unusedVariables false
set_option maxRecDepth 100000 in
set_option maxHeartbeats 1000000 in
theorem jsonEsc_34 (s : ByteArray) (at_ : Nat) (w : World) (hs : s.size ≤ 140737488351232) (hlt : at_ < s.size) (h : byt s at_ = 34) :
    Calls Try.prog 27 #[.string s, .int .i64 at_] w fun e w' => e = .returned (.tuple #[.int .u16 ((34 : Nat) : Int), .int .i64 ((1 : Nat) : Int)]) ∧ w' = w := by
  have hab : at_ < 140737488351232 := by omega
  have i1 : ¬ (s.size : Int) ≤ (at_ : Int) := by omega
  have i2 : (at_ : Int) < (s.size : Int) := by omega
  obtain ⟨b, hb⟩ : ∃ b : Nat, b = byt s at_ := ⟨_, rfl⟩
  have eb : (s[at_]'hlt).toNat = b := by rw [hb, byt_eq s _ hlt]
  rw [← hb] at h
  have t34 : ((b : Int) == 34) = true := by simp; omega
  have HB := Lib.hid h
  have b255 : b < 256 := by omega
  clear hb h
  go_enter Try.func27, Try.ntmps27
  go_wp2_with fail
  go_returns
  exact ⟨by rw [HB.out]; rfl, rfl⟩
set_option maxRecDepth 100000 in
set_option maxHeartbeats 1000000 in
theorem jsonEsc_92 (s : ByteArray) (at_ : Nat) (w : World) (hs : s.size ≤ 140737488351232) (hlt : at_ < s.size) (h : byt s at_ = 92) :
    Calls Try.prog 27 #[.string s, .int .i64 at_] w fun e w' => e = .returned (.tuple #[.int .u16 ((92 : Nat) : Int), .int .i64 ((1 : Nat) : Int)]) ∧ w' = w := by
  have hab : at_ < 140737488351232 := by omega
  have i1 : ¬ (s.size : Int) ≤ (at_ : Int) := by omega
  have i2 : (at_ : Int) < (s.size : Int) := by omega
  obtain ⟨b, hb⟩ : ∃ b : Nat, b = byt s at_ := ⟨_, rfl⟩
  have eb : (s[at_]'hlt).toNat = b := by rw [hb, byt_eq s _ hlt]
  rw [← hb] at h
  have t34 : ((b : Int) == 34) = false := by simp; omega
  have t92 : ((b : Int) == 92) = true := by simp; omega
  have HB := Lib.hid h
  have b255 : b < 256 := by omega
  clear hb h
  go_enter Try.func27, Try.ntmps27
  go_wp2_with fail
  go_returns
  exact ⟨by rw [HB.out]; rfl, rfl⟩
set_option maxRecDepth 100000 in
set_option maxHeartbeats 1000000 in
theorem jsonEsc_47 (s : ByteArray) (at_ : Nat) (w : World) (hs : s.size ≤ 140737488351232) (hlt : at_ < s.size) (h : byt s at_ = 47) :
    Calls Try.prog 27 #[.string s, .int .i64 at_] w fun e w' => e = .returned (.tuple #[.int .u16 ((47 : Nat) : Int), .int .i64 ((1 : Nat) : Int)]) ∧ w' = w := by
  have hab : at_ < 140737488351232 := by omega
  have i1 : ¬ (s.size : Int) ≤ (at_ : Int) := by omega
  have i2 : (at_ : Int) < (s.size : Int) := by omega
  obtain ⟨b, hb⟩ : ∃ b : Nat, b = byt s at_ := ⟨_, rfl⟩
  have eb : (s[at_]'hlt).toNat = b := by rw [hb, byt_eq s _ hlt]
  rw [← hb] at h
  have t34 : ((b : Int) == 34) = false := by simp; omega
  have t92 : ((b : Int) == 92) = false := by simp; omega
  have t47 : ((b : Int) == 47) = true := by simp; omega
  have HB := Lib.hid h
  have b255 : b < 256 := by omega
  clear hb h
  go_enter Try.func27, Try.ntmps27
  go_wp2_with fail
  go_returns
  exact ⟨by rw [HB.out]; rfl, rfl⟩
set_option maxRecDepth 100000 in
set_option maxHeartbeats 1000000 in
theorem jsonEsc_98 (s : ByteArray) (at_ : Nat) (w : World) (hs : s.size ≤ 140737488351232) (hlt : at_ < s.size) (h : byt s at_ = 98) :
    Calls Try.prog 27 #[.string s, .int .i64 at_] w fun e w' => e = .returned (.tuple #[.int .u16 ((8 : Nat) : Int), .int .i64 ((1 : Nat) : Int)]) ∧ w' = w := by
  have hab : at_ < 140737488351232 := by omega
  have i1 : ¬ (s.size : Int) ≤ (at_ : Int) := by omega
  have i2 : (at_ : Int) < (s.size : Int) := by omega
  obtain ⟨b, hb⟩ : ∃ b : Nat, b = byt s at_ := ⟨_, rfl⟩
  have eb : (s[at_]'hlt).toNat = b := by rw [hb, byt_eq s _ hlt]
  rw [← hb] at h
  have t34 : ((b : Int) == 34) = false := by simp; omega
  have t92 : ((b : Int) == 92) = false := by simp; omega
  have t47 : ((b : Int) == 47) = false := by simp; omega
  have t98 : ((b : Int) == 98) = true := by simp; omega
  clear hb h
  go_enter Try.func27, Try.ntmps27
  go_wp2_with fail
  go_returns
  exact ⟨rfl, rfl⟩
set_option maxRecDepth 100000 in
set_option maxHeartbeats 1000000 in
theorem jsonEsc_102 (s : ByteArray) (at_ : Nat) (w : World) (hs : s.size ≤ 140737488351232) (hlt : at_ < s.size) (h : byt s at_ = 102) :
    Calls Try.prog 27 #[.string s, .int .i64 at_] w fun e w' => e = .returned (.tuple #[.int .u16 ((12 : Nat) : Int), .int .i64 ((1 : Nat) : Int)]) ∧ w' = w := by
  have hab : at_ < 140737488351232 := by omega
  have i1 : ¬ (s.size : Int) ≤ (at_ : Int) := by omega
  have i2 : (at_ : Int) < (s.size : Int) := by omega
  obtain ⟨b, hb⟩ : ∃ b : Nat, b = byt s at_ := ⟨_, rfl⟩
  have eb : (s[at_]'hlt).toNat = b := by rw [hb, byt_eq s _ hlt]
  rw [← hb] at h
  have t34 : ((b : Int) == 34) = false := by simp; omega
  have t92 : ((b : Int) == 92) = false := by simp; omega
  have t47 : ((b : Int) == 47) = false := by simp; omega
  have t98 : ((b : Int) == 98) = false := by simp; omega
  have t102 : ((b : Int) == 102) = true := by simp; omega
  clear hb h
  go_enter Try.func27, Try.ntmps27
  go_wp2_with fail
  go_returns
  exact ⟨rfl, rfl⟩
set_option maxRecDepth 100000 in
set_option maxHeartbeats 1000000 in
theorem jsonEsc_110 (s : ByteArray) (at_ : Nat) (w : World) (hs : s.size ≤ 140737488351232) (hlt : at_ < s.size) (h : byt s at_ = 110) :
    Calls Try.prog 27 #[.string s, .int .i64 at_] w fun e w' => e = .returned (.tuple #[.int .u16 ((10 : Nat) : Int), .int .i64 ((1 : Nat) : Int)]) ∧ w' = w := by
  have hab : at_ < 140737488351232 := by omega
  have i1 : ¬ (s.size : Int) ≤ (at_ : Int) := by omega
  have i2 : (at_ : Int) < (s.size : Int) := by omega
  obtain ⟨b, hb⟩ : ∃ b : Nat, b = byt s at_ := ⟨_, rfl⟩
  have eb : (s[at_]'hlt).toNat = b := by rw [hb, byt_eq s _ hlt]
  rw [← hb] at h
  have t34 : ((b : Int) == 34) = false := by simp; omega
  have t92 : ((b : Int) == 92) = false := by simp; omega
  have t47 : ((b : Int) == 47) = false := by simp; omega
  have t98 : ((b : Int) == 98) = false := by simp; omega
  have t102 : ((b : Int) == 102) = false := by simp; omega
  have t110 : ((b : Int) == 110) = true := by simp; omega
  clear hb h
  go_enter Try.func27, Try.ntmps27
  go_wp2_with fail
  go_returns
  exact ⟨rfl, rfl⟩
set_option maxRecDepth 100000 in
set_option maxHeartbeats 1000000 in
theorem jsonEsc_114 (s : ByteArray) (at_ : Nat) (w : World) (hs : s.size ≤ 140737488351232) (hlt : at_ < s.size) (h : byt s at_ = 114) :
    Calls Try.prog 27 #[.string s, .int .i64 at_] w fun e w' => e = .returned (.tuple #[.int .u16 ((13 : Nat) : Int), .int .i64 ((1 : Nat) : Int)]) ∧ w' = w := by
  have hab : at_ < 140737488351232 := by omega
  have i1 : ¬ (s.size : Int) ≤ (at_ : Int) := by omega
  have i2 : (at_ : Int) < (s.size : Int) := by omega
  obtain ⟨b, hb⟩ : ∃ b : Nat, b = byt s at_ := ⟨_, rfl⟩
  have eb : (s[at_]'hlt).toNat = b := by rw [hb, byt_eq s _ hlt]
  rw [← hb] at h
  have t34 : ((b : Int) == 34) = false := by simp; omega
  have t92 : ((b : Int) == 92) = false := by simp; omega
  have t47 : ((b : Int) == 47) = false := by simp; omega
  have t98 : ((b : Int) == 98) = false := by simp; omega
  have t102 : ((b : Int) == 102) = false := by simp; omega
  have t110 : ((b : Int) == 110) = false := by simp; omega
  have t114 : ((b : Int) == 114) = true := by simp; omega
  clear hb h
  go_enter Try.func27, Try.ntmps27
  go_wp2_with fail
  go_returns
  exact ⟨rfl, rfl⟩
set_option maxRecDepth 100000 in
set_option maxHeartbeats 1000000 in
theorem jsonEsc_116 (s : ByteArray) (at_ : Nat) (w : World) (hs : s.size ≤ 140737488351232) (hlt : at_ < s.size) (h : byt s at_ = 116) :
    Calls Try.prog 27 #[.string s, .int .i64 at_] w fun e w' => e = .returned (.tuple #[.int .u16 ((9 : Nat) : Int), .int .i64 ((1 : Nat) : Int)]) ∧ w' = w := by
  have hab : at_ < 140737488351232 := by omega
  have i1 : ¬ (s.size : Int) ≤ (at_ : Int) := by omega
  have i2 : (at_ : Int) < (s.size : Int) := by omega
  obtain ⟨b, hb⟩ : ∃ b : Nat, b = byt s at_ := ⟨_, rfl⟩
  have eb : (s[at_]'hlt).toNat = b := by rw [hb, byt_eq s _ hlt]
  rw [← hb] at h
  have t34 : ((b : Int) == 34) = false := by simp; omega
  have t92 : ((b : Int) == 92) = false := by simp; omega
  have t47 : ((b : Int) == 47) = false := by simp; omega
  have t98 : ((b : Int) == 98) = false := by simp; omega
  have t102 : ((b : Int) == 102) = false := by simp; omega
  have t110 : ((b : Int) == 110) = false := by simp; omega
  have t114 : ((b : Int) == 114) = false := by simp; omega
  have t116 : ((b : Int) == 116) = true := by simp; omega
  clear hb h
  go_enter Try.func27, Try.ntmps27
  go_wp2_with fail
  go_returns
  exact ⟨rfl, rfl⟩
set_option maxRecDepth 100000 in
set_option maxHeartbeats 1000000 in
theorem jsonEsc_117 (s : ByteArray) (at_ : Nat) (v : Nat) (hx : hex4 ((nats s).drop (at_ + 1)) = some v) (w : World) (hs : s.size ≤ 140737488351232) (hlt : at_ < s.size) (h : byt s at_ = 117) :
    Calls Try.prog 27 #[.string s, .int .i64 at_] w fun e w' => e = .returned (.tuple #[.int .u16 ((v : Nat) : Int), .int .i64 ((5 : Nat) : Int)]) ∧ w' = w := by
  have HX := Lib.hid (fun w => jsonHex s (at_ + 1) v w hs hx)
  clear hx
  have hab : at_ < 140737488351232 := by omega
  have i1 : ¬ (s.size : Int) ≤ (at_ : Int) := by omega
  have i2 : (at_ : Int) < (s.size : Int) := by omega
  obtain ⟨b, hb⟩ : ∃ b : Nat, b = byt s at_ := ⟨_, rfl⟩
  have eb : (s[at_]'hlt).toNat = b := by rw [hb, byt_eq s _ hlt]
  rw [← hb] at h
  have t34 : ((b : Int) == 34) = false := by simp; omega
  have t92 : ((b : Int) == 92) = false := by simp; omega
  have t47 : ((b : Int) == 47) = false := by simp; omega
  have t98 : ((b : Int) == 98) = false := by simp; omega
  have t102 : ((b : Int) == 102) = false := by simp; omega
  have t110 : ((b : Int) == 110) = false := by simp; omega
  have t114 : ((b : Int) == 114) = false := by simp; omega
  have t116 : ((b : Int) == 116) = false := by simp; omega
  have t117 : ((b : Int) == 117) = true := by simp; omega
  clear hb h
  go_enter Try.func27, Try.ntmps27
  go_wp2_with fail
  refine (HX.out _).mono ?_
  rintro e w' ⟨rfl, rfl⟩
  go_wp2_with fail
  go_returns
  exact ⟨rfl, rfl⟩
theorem jsonEscape (s : ByteArray) (at_ u n : Nat) (w : World) (hs : s.size ≤ 140737488351232) (h : jesc ((nats s).drop at_) = (u, n)) (hn : 0 < n) :
    Calls Try.prog 27 #[.string s, .int .i64 at_] w fun e w' => e = .returned (.tuple #[.int .u16 u, .int .i64 n]) ∧ w' = w := by
  have hlt : at_ < s.size := by
    have := jesc_le ((nats s).drop at_)
    rw [h, List.length_drop, nats_length] at this
    simp only at this
    omega
  have e0 := getD_drop s at_ 0
  unfold jesc at h
  rw [e0, Nat.add_zero, List.drop_drop] at h
  have hl0 : ¬ ((nats s).drop at_).length = 0 := by rw [List.length_drop, nats_length]; omega
  rw [if_neg hl0] at h
  split at h
  · rename_i hc
    injection h with hu hn'
    subst hu hn'
    rcases hc with hc | hc | hc
    · rw [hc]; exact jsonEsc_34 s at_ w hs hlt hc
    · rw [hc]; exact jsonEsc_92 s at_ w hs hlt hc
    · rw [hc]; exact jsonEsc_47 s at_ w hs hlt hc
  split at h
  · rename_i hc
    injection h with hu hn'
    subst hu hn'
    exact jsonEsc_98 s at_ w hs hlt hc
  split at h
  · rename_i hc
    injection h with hu hn'
    subst hu hn'
    exact jsonEsc_102 s at_ w hs hlt hc
  split at h
  · rename_i hc
    injection h with hu hn'
    subst hu hn'
    exact jsonEsc_110 s at_ w hs hlt hc
  split at h
  · rename_i hc
    injection h with hu hn'
    subst hu hn'
    exact jsonEsc_114 s at_ w hs hlt hc
  split at h
  · rename_i hc
    injection h with hu hn'
    subst hu hn'
    exact jsonEsc_116 s at_ w hs hlt hc
  split at h
  · rename_i hc
    split at h
    · rename_i v hv
      injection h with hu hn'
      subst hu hn'
      exact jsonEsc_117 s at_ v hv w hs hlt hc
    · injection h with hu hn'
      omega
  · injection h with hu hn'
    omega
end Go.Proofs.Ytkhnkemmkedfcaa.Wtf
