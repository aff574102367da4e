/- Code points of WTF-8: the reference's reading, its surrogates, digits of base 16. The walks. -/
import Derived.Test.YtobhlppdolekoaaRuneW
import Derived.Test.YtobhlppdolekoaaBytes
import Derived.Test.YtobhlppdolekoaaWtf
import Derived.Deep.QuietTactic
import Derived.BigQuiet
import Derived.Deep.DeepCutAuto
namespace Go.Proofs.Ytobhlppdolekoaa.Wtf
open Go.RowKit Go.Proofs.Ytobhlppdolekoaa.Aid Go.Proofs.Ytobhlppdolekoaa.Runes Go.Proofs.Ytobhlppdolekoaa.Bytes
attribute [local go_sem ↓] Go.wp_at_zero Go.wp_at_succ
set_option linter.unusedVariables false
theorem getD_nats (s : ByteArray) (k : Nat) : (nats s).getD k 0 = byt s k := by
  by_cases h : k < s.size
  · rw [List.getD, nats_get s k h, Option.getD_some]
  · rw [List.getD, List.getElem?_eq_none (by rw [nats_length]; omega), byt_out s k (by omega)]
    rfl
/-- The reference's code point, and surrogates beside. -/
theorem lrune_of_rune (s : ByteArray) (h : 0 < (rune s 0).2) : lrune (nats s) = rune s 0 := by
  have ho := rune_pos (s := s) (i := 0) (r := (rune s 0).1) (n := (rune s 0).2) rfl h
  have hd : Utf8.decode s 0 = rune s 0 := ho.2.1
  have hne : Utf8.decode s 0 ≠ (65533, 1) := by
    intro e
    rw [rune_bad s 0 e] at h
    exact absurd h (by simp)
  have b0 := byt_lt s 0
  rw [← hd]
  rw [decode_eq] at hne ⊢
  unfold lrune
  simp only [getD_nats, nats_length]
  have hs : ¬ s.size = 0 := by omega
  rw [if_neg hs]
  simp only [Nat.zero_add] at hne ⊢
  by_cases a : byt s 0 < 128
  · rw [if_pos a, if_pos a]
  rw [if_neg a] at hne ⊢
  rw [if_neg a]
  by_cases b : byt s 0 / 32 = 6 ∧ 1 < s.size ∧ byt s 1 / 64 = 2
  · rw [if_pos b] at hne ⊢
    by_cases c : 128 ≤ byt s 0 % 32 * 64 + byt s 1 % 64
    · rw [if_pos c, if_pos (by omega)]
    · rw [if_neg c] at hne
      exact absurd rfl hne
  rw [if_neg b] at hne ⊢
  by_cases c : byt s 0 / 16 = 14 ∧ (1 < s.size ∧ byt s 1 / 64 = 2) ∧ (2 < s.size ∧ byt s 2 / 64 = 2)
  · rw [if_pos c] at hne ⊢
    split at hne
    · rename_i d
      rw [if_pos d, if_neg (by omega), if_pos (by omega)]
    · exact absurd rfl hne
  rw [if_neg c] at hne ⊢
  by_cases d : byt s 0 / 8 = 30 ∧ (1 < s.size ∧ byt s 1 / 64 = 2) ∧ (2 < s.size ∧ byt s 2 / 64 = 2) ∧ (3 < s.size ∧ byt s 3 / 64 = 2)
  · rw [if_pos d] at hne ⊢
    split at hne
    · rename_i e
      rw [if_pos e, if_neg (by omega), if_neg (by omega), if_pos (by omega)]
    · exact absurd rfl hne
  rw [if_neg d] at hne
  exact absurd rfl hne
/-- Three bytes that are a surrogate. -/
def Sur (s : ByteArray) : Prop := 3 ≤ s.size ∧ byt s 0 = 237 ∧ 160 ≤ byt s 1 ∧ byt s 1 ≤ 191 ∧ byt s 2 / 64 = 2
theorem lrune_sur (s : ByteArray) (h : Sur s) : lrune (nats s) = (53248 + byt s 1 % 64 * 64 + byt s 2 % 64, 3) := by
  obtain ⟨h1, h2, h3, h4, h5⟩ := h
  unfold lrune
  simp only [getD_nats, nats_length]
  rw [if_neg (by omega), if_neg (by omega), if_neg (by omega), if_pos (by omega), h2]
theorem lrune_none (s : ByteArray) (h : (rune s 0).2 = 0) (hn : ¬ Sur s) : lrune (nats s) = (0, 0) := by
  rcases Nat.eq_zero_or_pos (lrune (nats s)).2 with e | e
  · unfold lrune at e ⊢
    repeat' split at e
    all_goals first
      | rfl
      | (simp only at e; omega)
      | skip
    all_goals (repeat' split)
    all_goals first | rfl | omega
  · exfalso
    have hd : rune s 0 = (0, 0) := by
      unfold rune at h ⊢
      split
      · rename_i hc
        rw [if_pos hc] at h
        rcases decode_of s 0 hc.1 with ⟨h1, h2⟩ | ⟨h1, h2⟩
        · rw [h2] at h
          omega
        · exact absurd h2 hc.2
      · rfl
    have b1 := byt_lt s 1
    unfold lrune at e
    simp only [getD_nats, nats_length] at e
    split at e
    · simp at e
    rename_i c0
    split at e
    · rename_i c1
      rw [rune_ascii s 0 (by omega) c1] at hd
      injection hd with _ hd
      omega
    rename_i c1
    split at e
    · rename_i c2
      rw [rune_two s 0 (by omega) c2.1.1 c2.1.2 c2.2.2] at hd
      injection hd with _ hd
      omega
    rename_i c2
    split at e
    · rename_i c3
      by_cases hs : byt s 0 % 16 * 4096 + byt s 1 % 64 * 64 + byt s 2 % 64 < 55296 ∨ 57344 ≤ byt s 0 % 16 * 4096 + byt s 1 % 64 * 64 + byt s 2 % 64
      · rw [rune_three s 0 (by omega) c3.1.1 c3.1.2 c3.2.2.1 c3.2.2.2.1 c3.2.2.2.2 hs] at hd
        injection hd with _ hd
        omega
      · exact hn ⟨by omega, by omega, by omega, by omega, c3.2.2.2.1⟩
    rename_i c3
    split at e
    · rename_i c4
      rw [rune_four s 0 (by omega) c4.1.1 c4.1.2 c4.2.2.1 c4.2.2.2.1 c4.2.2.2.2.1 c4.2.2.2.2.2.1 c4.2.2.2.2.2.2] at hd
      injection hd with _ hd
      omega
    · simp at e
end Go.Proofs.Ytobhlppdolekoaa.Wtf
/- The reference's WtfRune and small functions. The walks. -/
namespace Go.Proofs.Ytobhlppdolekoaa.Wtf
open Go.RowKit Go.Proofs.Ytobhlppdolekoaa.Aid Go.Proofs.Ytobhlppdolekoaa.Runes Go.Proofs.Ytobhlppdolekoaa.Bytes
attribute [local go_sem ↓] Go.wp_at_zero Go.wp_at_succ
set_option linter.unusedVariables false
theorem wraps_u8 (n : Int) (h0 : 0 ≤ n) (h1 : n < 2 ^ 8) : IntKind.u8.wrap n = n := by rw [IntKind.wrap_u8]; omega
theorem and192_8 (x : Nat) (h : x < 256) : bits .and .u8 (x : Int) 192 = ((x / 64 * 64 : Nat) : Int) := by
  have h1 := (bits_nat .u8 8 (by decide) wraps_u8 x 192 (by omega) (by decide)).1
  rw [show ((192 : Nat) : Int) = 192 from rfl] at h1
  rw [h1]
  have h2 : ∀ y : Fin 256, (y.val &&& 192) = y.val / 64 * 64 := by decide +kernel
  rw [h2 ⟨x, h⟩]
theorem and63_8 (x : Nat) (h : x < 256) : bits .and .u8 (x : Int) 63 = ((x % 64 : Nat) : Int) := by
  have h1 := (bits_nat .u8 8 (by decide) wraps_u8 x 63 (by omega) (by decide)).1
  rw [show ((63 : Nat) : Int) = 63 from rfl] at h1
  rw [h1]
  have h2 : ∀ y : Fin 256, (y.val &&& 63) = y.val % 64 := by decide +kernel
  rw [h2 ⟨x, h⟩]
theorem or_d000 (x : Nat) (hx : x < 64) : bits .or .i64 53248 ((x : Int) * 64) = 53248 + (x : Int) * 64 :=
  bits_join .i64 63 (by decide) wraps_i64 12 53248 ((x : Int) * 64) (by omega) (by omega) (by omega) (by omega) (by omega) (by omega)
theorem or_d000' (x y : Nat) (hx : x < 64) (hy : y < 64) : bits .or .i64 (53248 + (x : Int) * 64) (y : Int) = ((53248 + x * 64 + y : Nat) : Int) := by
  have := bits_join .i64 63 (by decide) wraps_i64 6 (53248 + (x : Int) * 64) (y : Int) (by omega) (by omega) (by omega) (by omega) (by omega) (by omega)
  rw [this]
  omega
/-- The world, but for what was drawn. -/
def Drawn (w w' : World) : Prop := ∃ n, w' = w.drewN n
set_option maxRecDepth 100000 in
set_option maxHeartbeats 4000000 in
theorem wtfRune (s : ByteArray) (w : World) (hs : s.size ≤ 140737488351232) :
    Calls Try.prog 33 #[.string s] w fun e w' => e = .returned (.tuple #[.int .i64 (lrune (nats s)).1, .int .i64 (lrune (nats s)).2]) ∧ Drawn w w' := by
  have HR := rune_walk s 0 w hs (by omega)
  rw [show ((0 : Nat) : Int) = 0 from rfl] at HR
  by_cases hn : 0 < (rune s 0).2
  · rw [lrune_of_rune s hn]
    obtain ⟨r, n, hrn⟩ : ∃ r n, rune s 0 = (r, n) := ⟨_, _, rfl⟩
    rw [hrn] at HR hn ⊢
    have hn' : (0 : Int) < n := by have : 0 < n := hn; omega
    clear hrn hn
    go_enter Try.func33, Try.ntmps33
    go_wp2_with fail
    refine HR.mono ?_
    rintro e w' ⟨rfl, rfl⟩
    go_wp2_with fail
    go_returns
    exact ⟨rfl, 0, rfl⟩
  · have h0 : (rune s 0).2 = 0 := by omega
    obtain ⟨r, n, hrn⟩ : ∃ r n, rune s 0 = (r, n) := ⟨_, _, rfl⟩
    rw [hrn] at HR h0
    obtain rfl : n = 0 := h0
    obtain ⟨P, hP⟩ : ∃ P, P = lrune (nats s) := ⟨_, rfl⟩
    rw [← hP]
    have HRN := Lib.hid (show (rune s 0).2 = 0 by rw [hrn])
    have HP := Lib.hid hP
    rw [show ((0 : Nat) : Int) = 0 from rfl] at HR
    clear hrn hP hn
    by_cases q3 : s.size < 3
    · have t3 : (s.size : Int) < 3 := by omega
      have HE := Lib.hid (show P = (0, 0) by rw [HP.out]; exact lrune_none s HRN.out (fun h => by have := h.1; omega))
      clear q3
      go_enter Try.func33, Try.ntmps33
      go_wp2_with fail
      refine HR.mono ?_
      rintro e w' ⟨rfl, rfl⟩
      go_wp2_with fail
      go_returns
      exact ⟨by rw [HE.out]; rfl, 0, rfl⟩
    have t3 : (3 : Int) ≤ s.size := by omega
    have z0 : (0 : Int) < s.size := by omega
    have z1 : (1 : Int) < s.size := by omega
    have z2 : (2 : Int) < s.size := by omega
    have g0 : 0 < s.size := by omega
    have g1 : 1 < s.size := by omega
    have g2 : 2 < s.size := by omega
    obtain ⟨a, ha⟩ : ∃ a : Nat, a = byt s 0 := ⟨_, rfl⟩
    obtain ⟨b, hb⟩ : ∃ b : Nat, b = byt s 1 := ⟨_, rfl⟩
    obtain ⟨c, hc⟩ : ∃ c : Nat, c = byt s 2 := ⟨_, rfl⟩
    have ea : (s[0]'g0).toNat = a := by rw [ha, byt_eq s 0 g0]
    have eb : (s[1]'g1).toNat = b := by rw [hb, byt_eq s 1 g1]
    have ec : (s[2]'g2).toNat = c := by rw [hc, byt_eq s 2 g2]
    have b255 := byt_lt s 1
    have c255 := byt_lt s 2
    rw [← hb] at b255
    rw [← hc] at c255
    have HABC := Lib.hid (And.intro ha (And.intro hb hc))
    clear ha hb hc
    by_cases q0 : a = 237
    · have t0 : ((a : Int) != 237) = false := by simp; omega
      by_cases q1 : b < 160
      · have t1 : (b : Int) < 160 := by omega
        have HE := Lib.hid (show P = (0, 0) by rw [HP.out]; exact lrune_none s HRN.out (fun h => by have := h.2.2.1; have := HABC.out; omega))
        clear q0 q1 q3
        go_enter Try.func33, Try.ntmps33
        go_wp2_with fail
        refine HR.mono ?_
        rintro e w' ⟨rfl, rfl⟩
        go_wp2_with fail
        go_returns
        exact ⟨by rw [HE.out]; rfl, 0, rfl⟩
      by_cases q2 : 191 < b
      · have t1 : ¬ (b : Int) < 160 := by omega
        have t2 : (191 : Int) < b := by omega
        have HE := Lib.hid (show P = (0, 0) by rw [HP.out]; exact lrune_none s HRN.out (fun h => by have := h.2.2.2.1; have := HABC.out; omega))
        clear q0 q1 q3 q2
        go_enter Try.func33, Try.ntmps33
        go_wp2_with fail
        refine HR.mono ?_
        rintro e w' ⟨rfl, rfl⟩
        go_wp2_with fail
        go_returns
        exact ⟨by rw [HE.out]; rfl, 0, rfl⟩
      have t1 : ¬ (b : Int) < 160 := by omega
      have t2 : ¬ (191 : Int) < b := by omega
      have hh := and192_8 c c255
      obtain ⟨y, hy⟩ : ∃ y, y = c / 64 * 64 := ⟨_, rfl⟩
      rw [← hy] at hh
      by_cases q4 : c / 64 = 2
      · have t4 : ((y : Int) != 128) = false := by simp; omega
        have m1 := and63_8 b b255
        have m2 := and63_8 c c255
        obtain ⟨u, hu⟩ : ∃ u, u = b % 64 := ⟨_, rfl⟩
        obtain ⟨v, hv⟩ : ∃ v, v = c % 64 := ⟨_, rfl⟩
        rw [← hu] at m1
        rw [← hv] at m2
        have ub : u < 64 := by omega
        have vb : v < 64 := by omega
        have o1 := or_d000 u ub
        have o2 := or_d000' u v ub vb
        have HE := Lib.hid (show P = (53248 + u * 64 + v, 3) by
          have h := HABC.out
          rw [HP.out, lrune_sur s ⟨by omega, by omega, by omega, by omega, by omega⟩, ← h.2.1, ← h.2.2, hu, hv])
        clear q0 q1 q3 q2 q4 hy hu hv
        go_enter Try.func33, Try.ntmps33
        go_wp2_with fail
        refine HR.mono ?_
        rintro e w' ⟨rfl, rfl⟩
        go_wp2_with fail
        go_quiet (fail)
        go_wp2_with fail
        go_returns
        exact ⟨by rw [HE.out]; rfl, _, rfl⟩
      · have t4 : ((y : Int) != 128) = true := by simp; omega
        have HE := Lib.hid (show P = (0, 0) by rw [HP.out]; exact lrune_none s HRN.out (fun h => by have := h.2.2.2.2; have := HABC.out; omega))
        clear q0 q1 q3 q2 q4 hy
        go_enter Try.func33, Try.ntmps33
        go_wp2_with fail
        refine HR.mono ?_
        rintro e w' ⟨rfl, rfl⟩
        go_wp2_with fail
        go_returns
        exact ⟨by rw [HE.out]; rfl, 0, rfl⟩
    · have t0 : ((a : Int) != 237) = true := by simp; omega
      have HE := Lib.hid (show P = (0, 0) by rw [HP.out]; exact lrune_none s HRN.out (fun h => by have := h.2.1; have := HABC.out; omega))
      clear q0 q3
      go_enter Try.func33, Try.ntmps33
      go_wp2_with fail
      refine HR.mono ?_
      rintro e w' ⟨rfl, rfl⟩
      go_wp2_with fail
      go_returns
      exact ⟨by rw [HE.out]; rfl, 0, rfl⟩
set_option maxRecDepth 100000 in
set_option maxHeartbeats 1000000 in
theorem between_walk (a n b : Nat) (w : World) : Calls Try.prog 52 #[.int .i64 a, .int .i64 n, .int .i64 b] w fun e w' => e = .returned (.bool (decide (a ≤ n) && decide (n ≤ b))) ∧ w' = w := by
  obtain ⟨B, hB⟩ : ∃ B, B = (decide (a ≤ n) && decide (n ≤ b)) := ⟨_, rfl⟩
  rw [← hB]
  by_cases h1 : a ≤ n
  · by_cases h2 : n ≤ b
    · have HE := Lib.hid (show B = true by rw [hB]; simp [h1, h2])
      have d2 : decide (n ≤ b) = true := by simp [h2]
      clear hB
      go_enter Try.func52, Try.ntmps52
      go_wp2_with fail
      go_returns
      exact ⟨by rw [HE.out]; rfl, rfl⟩
    · have HE := Lib.hid (show B = false by rw [hB]; simp [h1, h2])
      have d2 : decide (n ≤ b) = false := by simp; omega
      clear hB
      go_enter Try.func52, Try.ntmps52
      go_wp2_with fail
      go_returns
      exact ⟨by rw [HE.out]; rfl, rfl⟩
  · have HE := Lib.hid (show B = false by rw [hB]; simp [h1])
    have d2 : decide (a ≤ n) = false := by simp; omega
    clear hB
    go_enter Try.func52, Try.ntmps52
    go_wp2_with fail
    go_returns
    exact ⟨by rw [HE.out]; rfl, rfl⟩
theorem trail_walk (r : Nat) (w : World) : Calls Try.prog 43 #[.int .i64 r] w fun e w' => e = .returned (.bool (trail r)) ∧ w' = w := by
  have H := Lib.hid (between_walk 56320 r 57343 w)
  obtain ⟨B, hB⟩ : ∃ B, B = trail r := ⟨_, rfl⟩
  rw [← hB]
  rw [show (decide (56320 ≤ r) && decide (r ≤ 57343)) = B from hB.symm] at H
  clear hB
  go_enter Try.func43, Try.ntmps43
  go_wp2_with fail
  refine (H.out).mono ?_
  rintro e w' ⟨rfl, rfl⟩
  go_wp2_with fail
  go_returns
  exact ⟨rfl, rfl⟩
theorem lead_walk (r : Nat) (w : World) : Calls Try.prog 42 #[.int .i64 r] w fun e w' => e = .returned (.bool (lead r)) ∧ w' = w := by
  have H := Lib.hid (between_walk 55296 r 56319 w)
  obtain ⟨B, hB⟩ : ∃ B, B = lead r := ⟨_, rfl⟩
  rw [← hB]
  rw [show (decide (55296 ≤ r) && decide (r ≤ 56319)) = B from hB.symm] at H
  clear hB
  go_enter Try.func42, Try.ntmps42
  go_wp2_with fail
  refine (H.out).mono ?_
  rintro e w' ⟨rfl, rfl⟩
  go_wp2_with fail
  go_returns
  exact ⟨rfl, rfl⟩
end Go.Proofs.Ytobhlppdolekoaa.Wtf
/- The reference's code units of a text of WTF-8. The walk. -/
namespace Go.Proofs.Ytobhlppdolekoaa.Wtf
open Go.RowKit Go.Proofs.Ytobhlppdolekoaa.Aid Go.Proofs.Ytobhlppdolekoaa.Runes Go.Proofs.Ytobhlppdolekoaa.Bytes
attribute [local go_sem ↓] Go.wp_at_zero Go.wp_at_succ
set_option linter.unusedVariables false
/-- append of elements of one cell each, which the statement has just laid into a block of their own: told over the world ahead of that block. -/
theorem wpList_append_list {P : Program} {W : World} {ops : Array Oper} {rest : List Oper} {o : Oper} {a : Act} {Q : Exit → Act → World → Prop} (hgd : o.guard = none) (s x : Operand) (t : TypeId)
    (ho : o.op = .call { callee := .builtin .append, args := #[s, x], argTypes := #[t, t] })
    (base : Nat) (e : TypeId) (i : TypeInfo) (z : Value) (bytes : Nat) (ht : P.underlying t = some (.slice e)) (hi : P.info? e = some i) (hz : i.zero = some z)
    (hsize : i.size = 1) (hby : i.bytes = bytes) (hzs : z.cells.size = 1)
    (v : Value) (n : Nat) (xs : List Value) (hs : a.eval s = v) (hown : W.ownsRow base e 1 v n xs)
    (us : List Value) (m : Nat) (hm : us.length = m) (hx : a.eval x = .slice (some ⟨W.heap.size, 0, none⟩) m m) (h1 : ∀ u ∈ us, u.oneCell' = true)
    (h63 : n + m ≤ maxLen) (hbytes : (n + m) * bytes ≤ 140737488355328) (hbase : base ≤ W.heap.size)
    (h : ∀ v' w', w'.ownsRow base e 1 v' (n + m) (xs ++ us) → W.grownBy w' v.ownBlock → wpList P ops Q rest (a.put o.dst v') w') :
    wpList P ops Q (o :: rest) a (W.alloc (.cells us.toArray e)) := by
  subst hm
  refine wpList_append_own (W.alloc (.cells us.toArray e)) hgd s x t ho base e i z 1 bytes ht hi hz hsize hby hzs (by omega) v n xs hs (hown.alloc _) ⟨W.heap.size, 0, none⟩ us.length us.length us hx (by omega) ?_ h1 h63 hbytes (by simp; omega) ?_
  · intro j y hj
    rw [add_at, Nat.zero_add]
    exact (Blk.new W e us).get j hj
  · intro v' w' h2 h3 _
    exact h v' w' h2 ⟨h3.os, h3.tape, h3.output, Nat.le_trans (by simp) h3.size, fun k hk hr => (h3.block k (by simp; omega) hr).trans (Below.heap_alloc W _ k hk)⟩
def ucells (l : List Nat) : List Value := l.map fun (n : Nat) => .int .u16 (n : Int)
theorem ucells_append (a b : List Nat) : ucells (a ++ b) = ucells a ++ ucells b := by simp [ucells]
theorem info90 : (Try.prog.info? 90).map (fun i => (i.zero, i.size, i.bytes)) = some (some (.int .u16 0), 1, 2) := by kernel_rfl
theorem slice_from (u : ByteArray) (a : Nat) (ha : a ≤ u.size) (w : World) : (Instr.slice 9 (.string u) (some (.int .i64 a)) none none).run Try.prog w = .ok (.string (u.extract a u.size)) w := by
  have h1 : (a : Int) ≤ (u.size : Int) := by omega
  have hx := run_sliceBound (P := Try.prog) w .i64 (a : Int) u.size BoundsCode.sliceB (by omega) (by omega)
  simp [Instr.slice, run_underlying Try.underlying9, Instr.sliceBounds, *]
theorem nats_rest (s : ByteArray) (a : Nat) : nats (s.extract a s.size) = (nats s).drop a := by
  rw [nats_extract, cut, List.take_of_length_le (by rw [List.length_drop, nats_length]; omega)]
/-- What the call hands back. -/
def Units (o : Option (List Nat)) (w : World) (e : Ending) (w' : World) : Prop :=
  Below w.heap.size w w' ∧ match o with
  | some us => ∃ v, e = .returned (.tuple #[v, .bool true]) ∧ w'.ownsRow w.heap.size 90 1 v us.length (ucells us) ∧ us.length ≤ 2147483647
  | none => e = .returned (.tuple #[.slice none 0 0, .bool false])
theorem and1023 (x : Nat) (h : x < 2 ^ 63) : bits .and .i64 (x : Int) 1023 = ((x % 1024 : Nat) : Int) := by
  have := bits_mask .i64 63 (by decide) wraps_i64 10 (by decide) (x : Int) (by omega) (by exact_mod_cast h)
  rw [show ((2 : Int) ^ 10 - 1) = 1023 from rfl] at this
  rw [this]
  omega
end Go.Proofs.Ytobhlppdolekoaa.Wtf
/- The reference's digits of base 16 and escapes of JSON, where they are well formed. The walks. -/
namespace Go.Proofs.Ytobhlppdolekoaa.Wtf
open Go.RowKit Go.Proofs.Ytobhlppdolekoaa.Aid Go.Proofs.Ytobhlppdolekoaa.Runes Go.Proofs.Ytobhlppdolekoaa.Bytes
attribute [local go_sem ↓] Go.wp_at_zero Go.wp_at_succ
set_option linter.unusedVariables false
theorem between_is {a n b : Nat} {v : Bool} (h : (decide (a ≤ n) && decide (n ≤ b)) = v) (w : World) : Calls Try.prog 52 #[.int .i64 a, .int .i64 n, .int .i64 b] w fun e w' => e = .returned (.bool v) ∧ w' = w := by
  rw [← h]
  exact between_walk a n b w
theorem digit_walk (r : Nat) (w : World) (v : Bool) (h : (decide (48 ≤ r) && decide (r ≤ 57)) = v) : Calls Try.prog 56 #[.int .i64 r] w fun e w' => e = .returned (.bool v) ∧ w' = w := by
  have H := Lib.hid (between_is h w)
  clear h
  go_enter Try.func56, Try.ntmps56
  go_wp2_with fail
  refine (H.out).mono ?_
  rintro e w' ⟨rfl, rfl⟩
  go_wp2_with fail
  go_returns
  exact ⟨rfl, rfl⟩
set_option maxRecDepth 100000 in
set_option maxHeartbeats 1000000 in
theorem hex_walk (r v : Nat) (h : hexv r = some v) (w : World) : Calls Try.prog 51 #[.int .i64 r] w fun e w' => e = .returned (.int .i64 v) ∧ w' = w := by
  by_cases h1 : 48 ≤ r ∧ r ≤ 57
  · have HD := Lib.hid (digit_walk r w true (by simp [h1]))
    have HE := Lib.hid (show (v : Int) = (r : Int) - 48 by rw [hexv, if_pos h1] at h; injection h with h; omega)
    have b1 : 48 ≤ r := h1.1
    have b2 : r ≤ 57 := h1.2
    clear h h1
    go_enter Try.func51, Try.ntmps51
    go_wp2_with fail
    refine (HD.out).mono ?_
    rintro e w' ⟨rfl, rfl⟩
    go_wp2_with fail
    go_returns
    exact ⟨by rw [HE.out]; rfl, rfl⟩
  · have HD := Lib.hid (digit_walk r w false (by simp; omega))
    by_cases h2 : 97 ≤ r ∧ r ≤ 102
    · have HB := Lib.hid (between_is (a := 97) (n := r) (b := 102) (v := true) (by simp [h2]) w)
      have HE := Lib.hid (show (v : Int) = (r : Int) - 97 + 10 by rw [hexv, if_neg h1, if_pos h2] at h; injection h with h; omega)
      have b1 : 97 ≤ r := h2.1
      have b2 : r ≤ 102 := h2.2
      clear h h1 h2
      go_enter Try.func51, Try.ntmps51
      go_wp2_with fail
      refine (HD.out).mono ?_
      rintro e w' ⟨rfl, rfl⟩
      go_wp2_with fail
      refine (HB.out).mono ?_
      rintro e w' ⟨rfl, rfl⟩
      go_wp2_with fail
      go_returns
      exact ⟨by rw [HE.out]; rfl, rfl⟩
    · have h3 : 65 ≤ r ∧ r ≤ 70 := by
        rw [hexv, if_neg h1, if_neg h2] at h
        split at h
        · assumption
        · cases h
      have HB := Lib.hid (between_is (a := 97) (n := r) (b := 102) (v := false) (by simp; omega) w)
      have HC := Lib.hid (between_is (a := 65) (n := r) (b := 70) (v := true) (by simp [h3]) w)
      have HE := Lib.hid (show (v : Int) = (r : Int) - 65 + 10 by rw [hexv, if_neg h1, if_neg h2, if_pos h3] at h; injection h with h; omega)
      have b1 : 65 ≤ r := h3.1
      have b2 : r ≤ 70 := h3.2
      clear h h1 h2 h3
      go_enter Try.func51, Try.ntmps51
      go_wp2_with fail
      refine (HD.out).mono ?_
      rintro e w' ⟨rfl, rfl⟩
      go_wp2_with fail
      refine (HB.out).mono ?_
      rintro e w' ⟨rfl, rfl⟩
      go_wp2_with fail
      refine (HC.out).mono ?_
      rintro e w' ⟨rfl, rfl⟩
      go_wp2_with fail
      go_returns
      exact ⟨by rw [HE.out]; rfl, rfl⟩
/-- Four digits of base 16 at the end of a text. -/
theorem numRun_four (s : ByteArray) (at_ : Nat) (w : World) (hs : s.size ≤ 140737488351232) (hsz : s.size = at_ + 4) (hd : ∀ j, j < 4 → ∃ v, hexv (byt s (at_ + j)) = some v) :
    Calls Try.prog 50 #[.string s, .int .i64 at_, .int .i64 16] w fun e w' => e = .returned (.int .i64 4) ∧ w' = w := by
  have HD := Lib.hid hd
  have HSZ := Lib.hid hsz
  have hab : at_ ≤ 140737488351232 := by omega
  clear hd hsz
  go_enter Try.func50, Try.ntmps50
  go_wp2_with fail
  go_loop [7] (fun n => ∃ k : Nat, k ≤ 4 ∧ n = .int .i64 k) (fun n => 4 - (intOf n).toNat)
  case atStart => exact ⟨0, by omega, rfl⟩
  case round =>
    obtain ⟨k, hk, rfl⟩ := hrel
    by_cases hlt : k < 4
    · obtain ⟨v, hv⟩ := HD.out k hlt
      have hlt2 : at_ + k < s.size := by have := HSZ.out; omega
      have i1 : ((at_ + k : Nat) : Int) < s.size := by omega
      obtain ⟨b, hb⟩ : ∃ b : Nat, b = byt s (at_ + k) := ⟨_, rfl⟩
      have eb : (s[at_ + k]'hlt2).toNat = b := by rw [hb, byt_eq s _ hlt2]
      have b255 := byt_lt s (at_ + k)
      rw [← hb] at hv b255
      have hv16 := hexv_lt hv
      have HX := Lib.hid (fun w => hex_walk b v hv w)
      have HLT := Lib.hid hlt
      clear hb hv hlt
      go_wp2_with fail
      refine (HX.out _).mono ?_
      rintro e w' ⟨rfl, rfl⟩
      go_wp2_with fail
      refine (HX.out _).mono ?_
      rintro e w' ⟨rfl, rfl⟩
      go_wp2_with fail
      go_round
      case rel => exact ⟨k + 1, HLT.out, by go_num⟩
      case measure => have := HLT.out; simp [intOf]; omega
    · have hk4 : k = 4 := by omega
      have i1 : ¬ (at_ : Int) + (k : Int) < s.size := by have := HSZ.out; omega
      have i2 : decide ((at_ : Int) + (k : Int) < s.size) = false := by simp; have := HSZ.out; omega
      have i3 : decide (at_ + k < s.size) = false := by simp; have := HSZ.out; omega
      have HK := Lib.hid hk4
      clear hk4 hlt
      go_wp2_with fail
      go_returns
      exact ⟨by rw [HK.out]; rfl, rfl⟩
end Go.Proofs.Ytobhlppdolekoaa.Wtf
/- The reference's JSON escapes, where they are well formed. The walks. -/
namespace Go.Proofs.Ytobhlppdolekoaa.Wtf
open Go.RowKit Go.Proofs.Ytobhlppdolekoaa.Aid Go.Proofs.Ytobhlppdolekoaa.Runes Go.Proofs.Ytobhlppdolekoaa.Bytes
attribute [local go_sem ↓] Go.wp_at_zero Go.wp_at_succ
set_option linter.unusedVariables false
theorem slice_to (u : ByteArray) (b : Nat) (hb : b ≤ u.size) (w : World) : (Instr.slice 9 (.string u) none (some (.int .i64 b)) none).run Try.prog w = .ok (.string (u.extract 0 b)) w := by
  have h2 : (0 : Int) ≤ (b : Int) := by omega
  have h1 : (b : Int) ≤ (u.size : Int) := by omega
  have ht : (b : Int).toNat = b := by omega
  simp [Instr.slice, run_underlying Try.underlying9, Instr.sliceBounds, run_sliceBound, *]
theorem byt_extract (s : ByteArray) (b j : Nat) (hb : b ≤ s.size) (hj : j < b) : byt (s.extract 0 b) j = byt s j := by
  have h1 : (nats (s.extract 0 b))[j]? = (nats s)[j]? := by rw [nats_extract, cut, List.drop_zero, List.getElem?_take_of_lt (by omega)]
  rw [nats_get _ _ (by rw [extract_size0 s 0 b (by omega) hb]; omega), nats_get _ _ (by omega)] at h1
  exact Option.some.inj h1
def hexAcc (s : ByteArray) (i : Nat) : Nat → Nat
  | 0 => 0
  | k + 1 => 16 * hexAcc s i k + (hexv (byt s (i + k))).getD 0
theorem getD_drop (s : ByteArray) (i j : Nat) : ((nats s).drop i).getD j 0 = byt s (i + j) := by
  rw [← getD_nats, List.getD, List.getD, List.getElem?_drop]
theorem hex4_at {s : ByteArray} {i v : Nat} (h : hex4 ((nats s).drop i) = some v) : i + 4 ≤ s.size ∧ (∀ j, j < 4 → ∃ x, hexv (byt s (i + j)) = some x) ∧ hexAcc s i 4 = v ∧ v < 65536 := by
  unfold hex4 at h
  rw [getD_drop, getD_drop, getD_drop, getD_drop] at h
  split at h
  · rename_i a b c d ha hb hc hd
    split at h
    · rename_i h4
      rw [List.length_drop, nats_length] at h4
      have a1 := hexv_lt ha
      have b1 := hexv_lt hb
      have c1 := hexv_lt hc
      have d1 := hexv_lt hd
      injection h with h
      refine ⟨by omega, fun j hj => ?_, ?_, by omega⟩
      · match j, hj with
        | 0, _ => exact ⟨_, ha⟩
        | 1, _ => exact ⟨_, hb⟩
        | 2, _ => exact ⟨_, hc⟩
        | 3, _ => exact ⟨_, hd⟩
      · simp only [hexAcc, ha, hb, hc, hd, Option.getD_some]
        omega
    · cases h
  · cases h
theorem hexAcc_lt (s : ByteArray) (i k : Nat) : hexAcc s i k < 16 ^ k := by
  induction k with
  | zero => simp [hexAcc]
  | succ k ih =>
    have : (hexv (byt s (i + k))).getD 0 < 16 := by
      cases h : hexv (byt s (i + k)) with
      | none => simp
      | some x => simpa using hexv_lt h
    simp only [hexAcc, Nat.pow_succ]
    omega
set_option maxRecDepth 100000 in
set_option maxHeartbeats 2000000 in
theorem jsonHex (s : ByteArray) (i v : Nat) (w : World) (hs : s.size ≤ 140737488351232) (h : hex4 ((nats s).drop i) = some v) :
    Calls Try.prog 41 #[.string s, .int .i64 i] w fun e w' => e = .returned (.tuple #[.int .u16 v, .bool true]) ∧ w' = w := by
  obtain ⟨h1, h2, h3, h4⟩ := hex4_at h
  have hsl : ∀ w, (Instr.slice 9 (.string s) none (some (.int .i64 ((i : Int) + 4))) none).run Try.prog w = .ok (.string (s.extract 0 (i + 4))) w := fun w => slice_to s (i + 4) h1 w
  have hesz : (s.extract 0 (i + 4)).size = i + 4 := extract_size0 s 0 (i + 4) (by omega) h1
  have HN := Lib.hid (fun w => numRun_four (s.extract 0 (i + 4)) i w (by omega) hesz (fun j hj => by rw [byt_extract s (i + 4) (i + j) h1 (by omega)]; exact h2 j hj))
  obtain ⟨E, hE⟩ : ∃ E, E = s.extract 0 (i + 4) := ⟨_, rfl⟩
  rw [← hE] at hsl HN
  have H2 := Lib.hid h2
  have H3 := Lib.hid h3
  have i1 : ¬ (s.size : Int) < (i : Int) + 4 := by omega
  have hib : i ≤ 140737488351232 := by omega
  have H1 := Lib.hid h1
  clear h h1 h2 h3 hE hesz
  go_enter Try.func41, Try.ntmps41
  go_wp2_with fail
  refine (HN.out _).mono ?_
  rintro e w' ⟨rfl, rfl⟩
  go_wp2_with fail
  go_loop [6, 7] (fun n j => ∃ k : Nat, k ≤ 4 ∧ j = .int .i64 ((i + k : Nat) : Int) ∧ n = .int .i64 (hexAcc s i k)) (fun _ j => i + 4 - (intOf j).toNat)
  case atStart => exact ⟨0, by omega, rfl, rfl⟩
  case round =>
    obtain ⟨k, hk, rfl, rfl⟩ := hrel
    have ha := hexAcc_lt s i k
    have hp : 16 ^ k ≤ 16 ^ 4 := Nat.pow_le_pow_right (by omega) (by omega)
    by_cases hlt : k < 4
    · obtain ⟨x, hx⟩ := H2.out k hlt
      obtain ⟨a, haa⟩ : ∃ a : Nat, a = i + k := ⟨_, rfl⟩
      have hlt2 : a < s.size := by have := H1.out; omega
      have i2 : (a : Int) < s.size := by omega
      have i3 : (a : Int) < (i : Int) + 4 := by omega
      obtain ⟨b, hb⟩ : ∃ b : Nat, b = byt s a := ⟨_, rfl⟩
      have eb : (s[a]'hlt2).toNat = b := by rw [hb, byt_eq s _ hlt2]
      have b255 := byt_lt s a
      rw [← haa, ← hb] at hx
      rw [← hb] at b255
      have hx16 := hexv_lt hx
      have HX := Lib.hid (fun w => hex_walk b x hx w)
      have HNX := Lib.hid (show hexAcc s i (k + 1) = 16 * hexAcc s i k + x by rw [hexAcc, ← haa, ← hb, hx]; rfl)
      rw [← haa]
      obtain ⟨y, hy⟩ : ∃ y, y = hexAcc s i k := ⟨_, rfl⟩
      rw [← hy] at ha HNX ⊢
      have y1 : y < 65536 := by omega
      have HLT := Lib.hid hlt
      have HA := Lib.hid haa
      clear hb hx ha hp hlt haa hy
      go_wp2_with fail
      refine (HX.out _).mono ?_
      rintro e w' ⟨rfl, rfl⟩
      go_wp2_with fail
      go_round
      case rel => exact ⟨k + 1, HLT.out, val_int (by have := HA.out; omega), by rw [HNX.out]; go_num⟩
      case measure => simp [intOf]; omega
    · have hk4 : k = 4 := by omega
      obtain ⟨y, hy⟩ : ∃ y, y = hexAcc s i k := ⟨_, rfl⟩
      have hacc : y = v := by rw [hy, hk4]; exact H3.out
      obtain ⟨a, haa⟩ : ∃ a : Nat, a = i + k := ⟨_, rfl⟩
      have i3 : ¬ (a : Int) < (i : Int) + 4 := by omega
      rw [← hy, ← haa, hacc]
      clear hacc ha hp hlt hy haa hk4 hk
      go_wp2_with fail
      go_returns
      exact ⟨rfl, rfl⟩
end Go.Proofs.Ytobhlppdolekoaa.Wtf
/- The reference's JSON escapes. The walk. -/
namespace Go.Proofs.Ytobhlppdolekoaa.Wtf
open Go.RowKit Go.Proofs.Ytobhlppdolekoaa.Aid Go.Proofs.Ytobhlppdolekoaa.Runes Go.Proofs.Ytobhlppdolekoaa.Bytes
attribute [local go_sem ↓] Go.wp_at_zero Go.wp_at_succ
set_option linter.unusedVariables false
set_option maxRecDepth 100000 in
set_option maxHeartbeats 1000000 in
theorem jsonEsc_34 (s : ByteArray) (at_ : Nat) (w : World) (hs : s.size ≤ 140737488351232) (hlt : at_ < s.size) (h : byt s at_ = 34) :
    Calls Try.prog 32 #[.string s, .int .i64 at_] w fun e w' => e = .returned (.tuple #[.int .u16 ((34 : Nat) : Int), .int .i64 ((1 : Nat) : Int)]) ∧ w' = w := by
  have hab : at_ < 140737488351232 := by omega
  have i1 : ¬ (s.size : Int) ≤ (at_ : Int) := by omega
  have i2 : (at_ : Int) < (s.size : Int) := by omega
  obtain ⟨b, hb⟩ : ∃ b : Nat, b = byt s at_ := ⟨_, rfl⟩
  have eb : (s[at_]'hlt).toNat = b := by rw [hb, byt_eq s _ hlt]
  rw [← hb] at h
  have t34 : ((b : Int) == 34) = true := by simp; omega
  have HB := Lib.hid h
  have b255 : b < 256 := by omega
  clear hb h
  go_enter Try.func32, Try.ntmps32
  go_wp2_with fail
  go_returns
  exact ⟨by rw [HB.out]; rfl, rfl⟩
set_option maxRecDepth 100000 in
set_option maxHeartbeats 1000000 in
theorem jsonEsc_92 (s : ByteArray) (at_ : Nat) (w : World) (hs : s.size ≤ 140737488351232) (hlt : at_ < s.size) (h : byt s at_ = 92) :
    Calls Try.prog 32 #[.string s, .int .i64 at_] w fun e w' => e = .returned (.tuple #[.int .u16 ((92 : Nat) : Int), .int .i64 ((1 : Nat) : Int)]) ∧ w' = w := by
  have hab : at_ < 140737488351232 := by omega
  have i1 : ¬ (s.size : Int) ≤ (at_ : Int) := by omega
  have i2 : (at_ : Int) < (s.size : Int) := by omega
  obtain ⟨b, hb⟩ : ∃ b : Nat, b = byt s at_ := ⟨_, rfl⟩
  have eb : (s[at_]'hlt).toNat = b := by rw [hb, byt_eq s _ hlt]
  rw [← hb] at h
  have t34 : ((b : Int) == 34) = false := by simp; omega
  have t92 : ((b : Int) == 92) = true := by simp; omega
  have HB := Lib.hid h
  have b255 : b < 256 := by omega
  clear hb h
  go_enter Try.func32, Try.ntmps32
  go_wp2_with fail
  go_returns
  exact ⟨by rw [HB.out]; rfl, rfl⟩
set_option maxRecDepth 100000 in
set_option maxHeartbeats 1000000 in
theorem jsonEsc_47 (s : ByteArray) (at_ : Nat) (w : World) (hs : s.size ≤ 140737488351232) (hlt : at_ < s.size) (h : byt s at_ = 47) :
    Calls Try.prog 32 #[.string s, .int .i64 at_] w fun e w' => e = .returned (.tuple #[.int .u16 ((47 : Nat) : Int), .int .i64 ((1 : Nat) : Int)]) ∧ w' = w := by
  have hab : at_ < 140737488351232 := by omega
  have i1 : ¬ (s.size : Int) ≤ (at_ : Int) := by omega
  have i2 : (at_ : Int) < (s.size : Int) := by omega
  obtain ⟨b, hb⟩ : ∃ b : Nat, b = byt s at_ := ⟨_, rfl⟩
  have eb : (s[at_]'hlt).toNat = b := by rw [hb, byt_eq s _ hlt]
  rw [← hb] at h
  have t34 : ((b : Int) == 34) = false := by simp; omega
  have t92 : ((b : Int) == 92) = false := by simp; omega
  have t47 : ((b : Int) == 47) = true := by simp; omega
  have HB := Lib.hid h
  have b255 : b < 256 := by omega
  clear hb h
  go_enter Try.func32, Try.ntmps32
  go_wp2_with fail
  go_returns
  exact ⟨by rw [HB.out]; rfl, rfl⟩
set_option maxRecDepth 100000 in
set_option maxHeartbeats 1000000 in
theorem jsonEsc_98 (s : ByteArray) (at_ : Nat) (w : World) (hs : s.size ≤ 140737488351232) (hlt : at_ < s.size) (h : byt s at_ = 98) :
    Calls Try.prog 32 #[.string s, .int .i64 at_] w fun e w' => e = .returned (.tuple #[.int .u16 ((8 : Nat) : Int), .int .i64 ((1 : Nat) : Int)]) ∧ w' = w := by
  have hab : at_ < 140737488351232 := by omega
  have i1 : ¬ (s.size : Int) ≤ (at_ : Int) := by omega
  have i2 : (at_ : Int) < (s.size : Int) := by omega
  obtain ⟨b, hb⟩ : ∃ b : Nat, b = byt s at_ := ⟨_, rfl⟩
  have eb : (s[at_]'hlt).toNat = b := by rw [hb, byt_eq s _ hlt]
  rw [← hb] at h
  have t34 : ((b : Int) == 34) = false := by simp; omega
  have t92 : ((b : Int) == 92) = false := by simp; omega
  have t47 : ((b : Int) == 47) = false := by simp; omega
  have t98 : ((b : Int) == 98) = true := by simp; omega
  clear hb h
  go_enter Try.func32, Try.ntmps32
  go_wp2_with fail
  go_returns
  exact ⟨rfl, rfl⟩
set_option maxRecDepth 100000 in
set_option maxHeartbeats 1000000 in
theorem jsonEsc_102 (s : ByteArray) (at_ : Nat) (w : World) (hs : s.size ≤ 140737488351232) (hlt : at_ < s.size) (h : byt s at_ = 102) :
    Calls Try.prog 32 #[.string s, .int .i64 at_] w fun e w' => e = .returned (.tuple #[.int .u16 ((12 : Nat) : Int), .int .i64 ((1 : Nat) : Int)]) ∧ w' = w := by
  have hab : at_ < 140737488351232 := by omega
  have i1 : ¬ (s.size : Int) ≤ (at_ : Int) := by omega
  have i2 : (at_ : Int) < (s.size : Int) := by omega
  obtain ⟨b, hb⟩ : ∃ b : Nat, b = byt s at_ := ⟨_, rfl⟩
  have eb : (s[at_]'hlt).toNat = b := by rw [hb, byt_eq s _ hlt]
  rw [← hb] at h
  have t34 : ((b : Int) == 34) = false := by simp; omega
  have t92 : ((b : Int) == 92) = false := by simp; omega
  have t47 : ((b : Int) == 47) = false := by simp; omega
  have t98 : ((b : Int) == 98) = false := by simp; omega
  have t102 : ((b : Int) == 102) = true := by simp; omega
  clear hb h
  go_enter Try.func32, Try.ntmps32
  go_wp2_with fail
  go_returns
  exact ⟨rfl, rfl⟩
set_option maxRecDepth 100000 in
set_option maxHeartbeats 1000000 in
theorem jsonEsc_110 (s : ByteArray) (at_ : Nat) (w : World) (hs : s.size ≤ 140737488351232) (hlt : at_ < s.size) (h : byt s at_ = 110) :
    Calls Try.prog 32 #[.string s, .int .i64 at_] w fun e w' => e = .returned (.tuple #[.int .u16 ((10 : Nat) : Int), .int .i64 ((1 : Nat) : Int)]) ∧ w' = w := by
  have hab : at_ < 140737488351232 := by omega
  have i1 : ¬ (s.size : Int) ≤ (at_ : Int) := by omega
  have i2 : (at_ : Int) < (s.size : Int) := by omega
  obtain ⟨b, hb⟩ : ∃ b : Nat, b = byt s at_ := ⟨_, rfl⟩
  have eb : (s[at_]'hlt).toNat = b := by rw [hb, byt_eq s _ hlt]
  rw [← hb] at h
  have t34 : ((b : Int) == 34) = false := by simp; omega
  have t92 : ((b : Int) == 92) = false := by simp; omega
  have t47 : ((b : Int) == 47) = false := by simp; omega
  have t98 : ((b : Int) == 98) = false := by simp; omega
  have t102 : ((b : Int) == 102) = false := by simp; omega
  have t110 : ((b : Int) == 110) = true := by simp; omega
  clear hb h
  go_enter Try.func32, Try.ntmps32
  go_wp2_with fail
  go_returns
  exact ⟨rfl, rfl⟩
set_option maxRecDepth 100000 in
set_option maxHeartbeats 1000000 in
theorem jsonEsc_114 (s : ByteArray) (at_ : Nat) (w : World) (hs : s.size ≤ 140737488351232) (hlt : at_ < s.size) (h : byt s at_ = 114) :
    Calls Try.prog 32 #[.string s, .int .i64 at_] w fun e w' => e = .returned (.tuple #[.int .u16 ((13 : Nat) : Int), .int .i64 ((1 : Nat) : Int)]) ∧ w' = w := by
  have hab : at_ < 140737488351232 := by omega
  have i1 : ¬ (s.size : Int) ≤ (at_ : Int) := by omega
  have i2 : (at_ : Int) < (s.size : Int) := by omega
  obtain ⟨b, hb⟩ : ∃ b : Nat, b = byt s at_ := ⟨_, rfl⟩
  have eb : (s[at_]'hlt).toNat = b := by rw [hb, byt_eq s _ hlt]
  rw [← hb] at h
  have t34 : ((b : Int) == 34) = false := by simp; omega
  have t92 : ((b : Int) == 92) = false := by simp; omega
  have t47 : ((b : Int) == 47) = false := by simp; omega
  have t98 : ((b : Int) == 98) = false := by simp; omega
  have t102 : ((b : Int) == 102) = false := by simp; omega
  have t110 : ((b : Int) == 110) = false := by simp; omega
  have t114 : ((b : Int) == 114) = true := by simp; omega
  clear hb h
  go_enter Try.func32, Try.ntmps32
  go_wp2_with fail
  go_returns
  exact ⟨rfl, rfl⟩
set_option maxRecDepth 100000 in
set_option maxHeartbeats 1000000 in
theorem jsonEsc_116 (s : ByteArray) (at_ : Nat) (w : World) (hs : s.size ≤ 140737488351232) (hlt : at_ < s.size) (h : byt s at_ = 116) :
    Calls Try.prog 32 #[.string s, .int .i64 at_] w fun e w' => e = .returned (.tuple #[.int .u16 ((9 : Nat) : Int), .int .i64 ((1 : Nat) : Int)]) ∧ w' = w := by
  have hab : at_ < 140737488351232 := by omega
  have i1 : ¬ (s.size : Int) ≤ (at_ : Int) := by omega
  have i2 : (at_ : Int) < (s.size : Int) := by omega
  obtain ⟨b, hb⟩ : ∃ b : Nat, b = byt s at_ := ⟨_, rfl⟩
  have eb : (s[at_]'hlt).toNat = b := by rw [hb, byt_eq s _ hlt]
  rw [← hb] at h
  have t34 : ((b : Int) == 34) = false := by simp; omega
  have t92 : ((b : Int) == 92) = false := by simp; omega
  have t47 : ((b : Int) == 47) = false := by simp; omega
  have t98 : ((b : Int) == 98) = false := by simp; omega
  have t102 : ((b : Int) == 102) = false := by simp; omega
  have t110 : ((b : Int) == 110) = false := by simp; omega
  have t114 : ((b : Int) == 114) = false := by simp; omega
  have t116 : ((b : Int) == 116) = true := by simp; omega
  clear hb h
  go_enter Try.func32, Try.ntmps32
  go_wp2_with fail
  go_returns
  exact ⟨rfl, rfl⟩
set_option maxRecDepth 100000 in
set_option maxHeartbeats 1000000 in
theorem jsonEsc_117 (s : ByteArray) (at_ : Nat) (v : Nat) (hx : hex4 ((nats s).drop (at_ + 1)) = some v) (w : World) (hs : s.size ≤ 140737488351232) (hlt : at_ < s.size) (h : byt s at_ = 117) :
    Calls Try.prog 32 #[.string s, .int .i64 at_] w fun e w' => e = .returned (.tuple #[.int .u16 ((v : Nat) : Int), .int .i64 ((5 : Nat) : Int)]) ∧ w' = w := by
  have HX := Lib.hid (fun w => jsonHex s (at_ + 1) v w hs hx)
  clear hx
  have hab : at_ < 140737488351232 := by omega
  have i1 : ¬ (s.size : Int) ≤ (at_ : Int) := by omega
  have i2 : (at_ : Int) < (s.size : Int) := by omega
  obtain ⟨b, hb⟩ : ∃ b : Nat, b = byt s at_ := ⟨_, rfl⟩
  have eb : (s[at_]'hlt).toNat = b := by rw [hb, byt_eq s _ hlt]
  rw [← hb] at h
  have t34 : ((b : Int) == 34) = false := by simp; omega
  have t92 : ((b : Int) == 92) = false := by simp; omega
  have t47 : ((b : Int) == 47) = false := by simp; omega
  have t98 : ((b : Int) == 98) = false := by simp; omega
  have t102 : ((b : Int) == 102) = false := by simp; omega
  have t110 : ((b : Int) == 110) = false := by simp; omega
  have t114 : ((b : Int) == 114) = false := by simp; omega
  have t116 : ((b : Int) == 116) = false := by simp; omega
  have t117 : ((b : Int) == 117) = true := by simp; omega
  clear hb h
  go_enter Try.func32, Try.ntmps32
  go_wp2_with fail
  refine (HX.out _).mono ?_
  rintro e w' ⟨rfl, rfl⟩
  go_wp2_with fail
  go_returns
  exact ⟨rfl, rfl⟩
theorem jsonEscape (s : ByteArray) (at_ u n : Nat) (w : World) (hs : s.size ≤ 140737488351232) (h : jesc ((nats s).drop at_) = (u, n)) (hn : 0 < n) :
    Calls Try.prog 32 #[.string s, .int .i64 at_] w fun e w' => e = .returned (.tuple #[.int .u16 u, .int .i64 n]) ∧ w' = w := by
  have hlt : at_ < s.size := by
    have := jesc_le ((nats s).drop at_)
    rw [h, List.length_drop, nats_length] at this
    simp only at this
    omega
  have e0 := getD_drop s at_ 0
  unfold jesc at h
  rw [e0, Nat.add_zero, List.drop_drop] at h
  have hl0 : ¬ ((nats s).drop at_).length = 0 := by rw [List.length_drop, nats_length]; omega
  rw [if_neg hl0] at h
  split at h
  · rename_i hc
    injection h with hu hn'
    subst hu hn'
    rcases hc with hc | hc | hc
    · rw [hc]; exact jsonEsc_34 s at_ w hs hlt hc
    · rw [hc]; exact jsonEsc_92 s at_ w hs hlt hc
    · rw [hc]; exact jsonEsc_47 s at_ w hs hlt hc
  split at h
  · rename_i hc
    injection h with hu hn'
    subst hu hn'
    exact jsonEsc_98 s at_ w hs hlt hc
  split at h
  · rename_i hc
    injection h with hu hn'
    subst hu hn'
    exact jsonEsc_102 s at_ w hs hlt hc
  split at h
  · rename_i hc
    injection h with hu hn'
    subst hu hn'
    exact jsonEsc_110 s at_ w hs hlt hc
  split at h
  · rename_i hc
    injection h with hu hn'
    subst hu hn'
    exact jsonEsc_114 s at_ w hs hlt hc
  split at h
  · rename_i hc
    injection h with hu hn'
    subst hu hn'
    exact jsonEsc_116 s at_ w hs hlt hc
  split at h
  · rename_i hc
    split at h
    · rename_i v hv
      injection h with hu hn'
      subst hu hn'
      exact jsonEsc_117 s at_ v hv w hs hlt hc
    · injection h with hu hn'
      omega
  · injection h with hu hn'
    omega
end Go.Proofs.Ytobhlppdolekoaa.Wtf
/- The reference's reading of a JSON string that is one. The walk. -/
namespace Go.Proofs.Ytobhlppdolekoaa.Wtf
open Go.RowKit Go.Proofs.Ytobhlppdolekoaa.Aid Go.Proofs.Ytobhlppdolekoaa.Runes Go.Proofs.Ytobhlppdolekoaa.Bytes
attribute [local go_sem ↓] Go.wp_at_zero Go.wp_at_succ
set_option linter.unusedVariables false
theorem slice_mid (u : ByteArray) (a b : Nat) (hab : a ≤ b) (hb : b ≤ u.size) (w : World) : (Instr.slice 9 (.string u) (some (.int .i64 a)) (some (.int .i64 b)) none).run Try.prog w = .ok (.string (u.extract a b)) w := by
  have h1 : (b : Int) ≤ (u.size : Int) := by omega
  have h2 : (0 : Int) ≤ (b : Int) := by omega
  have h3 : (0 : Int) ≤ (a : Int) := by omega
  have h4 : (a : Int) ≤ (b : Int) := by omega
  have ht : (b : Int).toNat = b := by omega
  have ht' : (a : Int).toNat = a := by omega
  simp [Instr.slice, run_underlying Try.underlying9, Instr.sliceBounds, run_sliceBound, *]
/-- The inside of a text from a place on. -/
def ins (q : ByteArray) (a : Nat) : List Nat := ((nats q).take (q.size - 1)).drop a
theorem ins_length (q : ByteArray) (a : Nat) : (ins q a).length = q.size - 1 - a := by rw [ins, List.length_drop, List.length_take, nats_length]; omega
theorem ins_getD (q : ByteArray) (a : Nat) (h : a < q.size - 1) : (ins q a).getD 0 0 = byt q a := by
  rw [← getD_nats, ins, List.getD, List.getD, List.getElem?_drop, List.getElem?_take_of_lt (by omega), Nat.add_zero]
theorem ins_drop (q : ByteArray) (a n : Nat) : (ins q a).drop n = ins q (a + n) := by rw [ins, List.drop_drop]; rfl
theorem nats_ins (q : ByteArray) (a : Nat) : nats (q.extract a (q.size - 1)) = ins q a := by
  rw [nats_extract, cut, ins, List.drop_take]
/-- What the call hands back. -/
def Read (us : List Nat) (w : World) (e : Ending) (w' : World) : Prop :=
  Below w.heap.size w w' ∧ ∃ v, e = .returned (.tuple #[v, .bool true]) ∧ w'.ownsRow w.heap.size 90 1 v us.length (ucells us)
set_option maxRecDepth 100000 in
set_option maxHeartbeats 4000000 in
theorem jsonString (q : ByteArray) (us : List Nat) (w : World) (hs : q.size ≤ 34359738368) (h2 : 2 ≤ q.size) (hq0 : byt q 0 = 34) (hq1 : byt q (q.size - 1) = 34) (hp : parse (ins q 1) = some us) :
    Calls Try.prog 20 #[.string q] w (Read us w) := by
  obtain ⟨i0, hi, hz0, hz1, hz2⟩ := info_parts info90
  obtain ⟨E, hE⟩ : ∃ E, E = q.size - 1 := ⟨_, rfl⟩
  have e1 : (q.size : Int) - 1 = (E : Int) := by omega
  have t0 : ¬ (q.size : Int) < 2 := by omega
  have t1 : (0 : Int) < q.size := by omega
  have t2 : (E : Int) < q.size := by omega
  have g1 : 0 < q.size := by omega
  have g2 : E < q.size := by omega
  have eb0 : (q[0]'g1).toNat = 34 := by rw [← hq0, byt_eq q 0 g1]
  have eb1 : (q[E]'g2).toNat = 34 := by rw [← hq1, ← hE, byt_eq q _ g2]
  have hsl := fun w => slice_to q E (by omega) w
  have hEb : E ≤ 34359738368 := by omega
  have HE := Lib.hid hE
  have HP := Lib.hid hp
  have HS1 := Lib.hid (show (q.extract 0 E).size = E from extract_size0 q 0 E (by omega) (by omega))
  have HN1 := Lib.hid (show ∀ a, (nats (q.extract 0 E)).drop a = ins q a by intro a; rw [hE, nats_ins, ins_drop, Nat.zero_add])
  obtain ⟨D, hD⟩ : ∃ D, D = q.extract 0 E := ⟨_, rfl⟩
  rw [← hD] at hsl HS1 HN1
  have E1 : 1 ≤ E := by omega
  clear hE hp hq0 hq1 h2 hD
  go_enter Try.func20, Try.ntmps20
  go_wp2_with fail
  go_loopw [4, 6] (fun out iv wr => ∃ (a : Nat) (done rest : List Nat), iv = .int .i64 a ∧ 1 ≤ a ∧ a ≤ E ∧ parse (ins q a) = some rest ∧ us = done ++ rest ∧ wr.ownsRow w.heap.size 90 1 out done.length (ucells done) ∧ done.length ≤ a ∧ Below w.heap.size w wr) (fun _ iv _ => E - (intOf iv).toNat)
  case atStart => exact ⟨1, [], us, rfl, by omega, E1, HP.out, rfl, own_nil _ _ _ _, by simp, Below.refl _ _⟩
  case round =>
    obtain ⟨a, done, rest, rfl, ha1, haE, hpar, hus, hown, hlen, hbel⟩ := hrel
    have HUS := Lib.hid hus
    have HOWN := Lib.hid hown
    have HBEL := Lib.hid hbel
    clear hus hown hbel
    by_cases hlt : a < E
    · have d1 : (a : Int) < (E : Int) := by omega
      have d2 : (a : Int) < (q.size : Int) := by omega
      have g3 : a < q.size := by omega
      have hne : ins q a ≠ [] := by
        intro h
        have h' := ins_length q a
        rw [h, List.length_nil] at h'
        have := HE.out
        omega
      have hg0 := ins_getD q a (by have := HE.out; omega)
      obtain ⟨b, hb⟩ : ∃ b : Nat, b = byt q a := ⟨_, rfl⟩
      have eb : (q[a]'g3).toNat = b := by rw [hb, byt_eq q _ g3]
      rw [← hb] at hg0
      by_cases h92 : b = 92
      · have t92 : ((b : Int) == 92) = true := by simp; omega
        obtain ⟨u, n, hj⟩ : ∃ u n, jesc (ins q (a + 1)) = (u, n) := ⟨_, _, rfl⟩
        have hd1 : (ins q a).drop 1 = ins q (a + 1) := ins_drop q a 1
        have hn0 : 0 < n := by
          by_cases hn : n = 0
          · rw [parse_bad hne (by rw [hg0, h92]) (by rw [hd1, hj]; exact hn)] at hpar
            cases hpar
          · omega
        rw [parse_esc hne (by rw [hg0, h92]) (by rw [hd1, hj]; exact hn0), hd1, hj, ins_drop] at hpar
        obtain ⟨r2, hr2, hr3⟩ := Option.map_eq_some_iff.1 hpar
        have hjl := jesc_le (ins q (a + 1))
        rw [hj, ins_length] at hjl
        have hnl := hjl.1
        simp only at hnl
        have HX := Lib.hid (fun w => jsonEscape D (a + 1) u n w (by have := HS1.out; omega) (by rw [HN1.out]; exact hj) hn0)
        have hne0 : ((n : Int) == 0) = false := by simp; omega
        have HR2 := Lib.hid hr2
        have HU2 := Lib.hid (show us = (done ++ [u]) ++ r2 by rw [HUS.out, ← hr3]; simp)
        have hn5 : n ≤ 5 := hjl.2
        have HNL := Lib.hid (show a + 1 + n ≤ E by have := HE.out; omega)
        have HEN2 := Lib.hid (show ucells done ++ [.int .u16 (u : Int)] = ucells (done ++ [u]) by rw [ucells_append]; simp [ucells])
        clear hpar hg0 hb h92 hj hjl hr2 hr3 hne hd1 hnl
        go_wp2_with fail
        refine (HX.out _).mono ?_
        rintro e w' ⟨rfl, rfl⟩
        go_wp2_with (at_builtin; refine wpList_append_list rfl _ _ 68 rfl w.heap.size 90 i0 (.int .u16 0) 2 Try.underlying68 hi hz0 hz1 hz2 rfl _ done.length (ucells done) rfl HOWN.out [.int .u16 (u : Int)] 1 rfl rfl ?c1 ?c2 ?c3 ?c4 ?_)
        case c1 => simp [Value.oneCell']
        case c2 => unfold maxLen; omega
        case c3 => omega
        case c4 => exact HBEL.out.size
        intro v' w' hown' hgrow
        rw [HEN2.out] at hown'
        have hdl : (done ++ [u]).length = done.length + 1 := by simp
        rw [← hdl] at hown'
        have HOW := Lib.hid hown'
        have HGB := Lib.hid (HBEL.out.grown hgrow HBEL.out.size (fun k hk => own_below HOWN.out k hk))
        have HDL := Lib.hid hdl
        clear hown' hgrow hdl
        go_wp2_with fail
        go_roundw
        case rel => exact ⟨a + (1 + n), done ++ [u], r2, val_int (by omega), by omega, by have := HNL.out; omega, HR2.out, HU2.out, HOW.out, by have := HDL.out; omega, HGB.out⟩
        case measure => have := HNL.out; simp [intOf]; omega
      · have t92 : ((b : Int) == 92) = false := by simp; omega
        by_cases hgood : 0 < (lrune (ins q a)).2 ∧ 32 ≤ (lrune (ins q a)).1 ∧ (lrune (ins q a)).1 ≠ 34
        · rw [parse_raw hne (by rw [hg0]; exact h92) hgood] at hpar
          have hsl2 := fun w => slice_mid q a E (by omega) (by omega) w
          have hnx : nats (q.extract a E) = ins q a := by rw [HE.out]; exact nats_ins q a
          have hxs : (q.extract a E).size = E - a := extract_size0 q a E (by omega) (by omega)
          obtain ⟨C, hC⟩ : ∃ C, C = q.extract a E := ⟨_, rfl⟩
          rw [← hC] at hsl2 hnx hxs
          have HR := Lib.hid (fun w => wtfRune C w (by omega))
          rw [hnx] at HR
          obtain ⟨r, n, hrn⟩ : ∃ r n, lrune (ins q a) = (r, n) := ⟨_, _, rfl⟩
          rw [hrn] at HR hpar hgood
          have hn0 : 0 < n := hgood.1
          have hr32 : 32 ≤ r := hgood.2.1
          have hr34 : r ≠ 34 := hgood.2.2
          rw [ins_drop] at hpar
          obtain ⟨r2, hr2, hr3⟩ := Option.map_eq_some_iff.1 hpar
          have ho := lrune_pos hrn hn0
          have hn4 := ho.1
          have HNL := Lib.hid (show a + n ≤ E by have := ho.2.1; rw [ins_length] at this; have := HE.out; omega)
          have hrm := ho.2.2.2.1
          have HO4 := Lib.hid ho.2.2.2.2.2.1
          have hne0 : ((n : Int) == 0) = false := by simp; omega
          have f32 : ¬ (r : Int) < 32 := by omega
          have f34 : ((r : Int) == 34) = false := by simp; omega
          have HR2 := Lib.hid hr2
          have HU2 := Lib.hid (show us = (done ++ enc16 r) ++ r2 by rw [HUS.out, ← hr3]; simp)
          clear hpar hg0 hb h92 hrn ho hr2 hr3 hne hgood hr32 hr34 hnx hC
          go_wp2_with fail
          refine (HR.out _).mono ?_
          rintro e w' ⟨rfl, nd, rfl⟩
          have HDR := Lib.hid (below_drewN HBEL.out nd)
          have HOD := Lib.hid (own_keep HOWN.out (below_drewN (Below.refl _ _) nd))
          go_upto_region 16 with fail
          clear f32 f34 hne0
          by_cases h16 : 65536 ≤ r
          · have t16 : (65536 : Int) ≤ r := by omega
            obtain ⟨x, hx⟩ : ∃ x : Nat, x = r - 65536 := ⟨_, rfl⟩
            have e1 : (r : Int) - 65536 = (x : Int) := by omega
            have hxb : x < 1048576 := by omega
            have hm := and1023 x (by omega)
            obtain ⟨y, hy⟩ : ∃ y : Nat, y = x / 1024 := ⟨_, rfl⟩
            obtain ⟨z, hz⟩ : ∃ z : Nat, z = x % 1024 := ⟨_, rfl⟩
            rw [← hz] at hm
            have e2 : (x : Int) / 1024 = (y : Int) := by omega
            have y1 : y < 1024 := by omega
            have z1 : z < 1024 := by omega
            have HEN := Lib.hid (show enc16 r = [55296 + y, 56320 + z] by rw [enc16, if_pos h16, ← hx, ← hy, ← hz])
            have HEN2 := Lib.hid (show ucells done ++ [.int .u16 (55296 + (y : Int)), .int .u16 (56320 + (z : Int))] = ucells (done ++ enc16 r) by rw [HEN.out, ucells_append]; simp [ucells])
            clear hx hy hz h16
            go_wp2_with (at_builtin; refine wpList_append_list rfl _ _ 68 rfl w.heap.size 90 i0 (.int .u16 0) 2 Try.underlying68 hi hz0 hz1 hz2 rfl _ done.length (ucells done) rfl HOD.out [.int .u16 (55296 + (y : Int)), .int .u16 (56320 + (z : Int))] 2 rfl rfl ?c1 ?c2 ?c3 ?c4 ?_)
            case c1 => simp [Value.oneCell']
            case c2 => unfold maxLen; omega
            case c3 => omega
            case c4 => exact HDR.out.size
            intro v' w' hown' hgrow
            rw [HEN2.out] at hown'
            have hdl : (done ++ enc16 r).length = done.length + 2 := by rw [HEN.out, List.length_append]; rfl
            rw [← hdl] at hown'
            have HOW := Lib.hid hown'
            have HGB := Lib.hid (HDR.out.grown hgrow HDR.out.size (fun k hk => own_below HOD.out k hk))
            have HDL := Lib.hid hdl
            clear hown' hgrow hdl
            go_wp2_with fail
            go_roundw
            case rel => exact ⟨a + n, done ++ enc16 r, r2, val_int (by omega), by omega, HNL.out, HR2.out, HU2.out, HOW.out, by have := HDL.out; have := HO4.out; omega, HGB.out⟩
            case measure => have := HNL.out; simp [intOf]; omega
          · have t16 : ¬ (65536 : Int) ≤ r := by omega
            have HEN := Lib.hid (show enc16 r = [r] from if_neg h16)
            have HEN2 := Lib.hid (show ucells done ++ [.int .u16 (r : Int)] = ucells (done ++ enc16 r) by rw [HEN.out, ucells_append]; simp [ucells])
            have r16 : r < 65536 := by omega
            clear h16
            go_wp2_with (at_builtin; refine wpList_append_list rfl _ _ 68 rfl w.heap.size 90 i0 (.int .u16 0) 2 Try.underlying68 hi hz0 hz1 hz2 rfl _ done.length (ucells done) rfl HOD.out [.int .u16 (r : Int)] 1 rfl rfl ?c1 ?c2 ?c3 ?c4 ?_)
            case c1 => simp [Value.oneCell']
            case c2 => unfold maxLen; omega
            case c3 => omega
            case c4 => exact HDR.out.size
            intro v' w' hown' hgrow
            rw [HEN2.out] at hown'
            have hdl : (done ++ enc16 r).length = done.length + 1 := by rw [HEN.out, List.length_append]; rfl
            rw [← hdl] at hown'
            have HOW := Lib.hid hown'
            have HGB := Lib.hid (HDR.out.grown hgrow HDR.out.size (fun k hk => own_below HOD.out k hk))
            have HDL := Lib.hid hdl
            clear hown' hgrow hdl
            go_wp2_with fail
            go_roundw
            case rel => exact ⟨a + n, done ++ enc16 r, r2, val_int (by omega), by omega, HNL.out, HR2.out, HU2.out, HOW.out, by have := HDL.out; have := HO4.out; omega, HGB.out⟩
            case measure => have := HNL.out; simp [intOf]; omega
        · rw [parse_no hne (by rw [hg0]; exact h92) hgood] at hpar
          cases hpar
    · have hz : a = E := by omega
      have HF := Lib.hid (show us = done by
        have hnil : ins q a = [] := List.eq_nil_of_length_eq_zero (by rw [ins_length]; have := HE.out; omega)
        rw [hnil, parse_nil] at hpar
        injection hpar with hpar
        rw [HUS.out, ← hpar, List.append_nil])
      have d1 : ¬ (a : Int) < (E : Int) := by omega
      clear hlt hz hpar
      go_wp2_with fail
      go_returns
      rw [HF.out]
      exact ⟨HBEL.out, _, rfl, HOWN.out⟩
end Go.Proofs.Ytobhlppdolekoaa.Wtf
