/- Closing tags: where they begin, great and small letters alike. Plain laws, and the walks of the searches. -/
import Derived.Test.YtkhnkemmkedfcaaJsA
import Derived.Deep.CutBlock
namespace Go.Proofs.Ytkhnkemmkedfcaa.Tag
open Go.RowKit Go.Proofs.Ytkhnkemmkedfcaa.Aid Go.Proofs.Ytkhnkemmkedfcaa.Runes Go.Proofs.Ytkhnkemmkedfcaa.Bytes Go.Proofs.Ytkhnkemmkedfcaa.Wtf Go.Proofs.Ytkhnkemmkedfcaa.Esc Go.Proofs.Ytkhnkemmkedfcaa.Js
attribute [local go_sem ↓] Go.wp_at_zero Go.wp_at_succ
set_option linter.unusedVariables false
/-- A small letter in the place of a great one. -/
def low (c : Nat) : Nat := if 65 ≤ c ∧ c ≤ 90 then c + 32 else c
theorem low_lt (c : Nat) (h : c < 256) : low c < 256 := by unfold low; split <;> omega
/-- Two texts are alike. -/
def eqf (a b : List Nat) : Bool := decide (a.map low = b.map low)
/-- A tag stands at the head. -/
def hit (tag rest : List Nat) : Bool := decide (tag.length ≤ rest.length) && eqf (rest.take tag.length) tag
def Hit (s : ByteArray) (k : Nat) : Prop := byt s k = 60 ∧ byt s (k + 1) = 47
instance (s : ByteArray) (k : Nat) : Decidable (Hit s k) := by unfold Hit; infer_instance
theorem hit_in {s : ByteArray} {k : Nat} (h : Hit s k) : k + 2 ≤ s.size := by
  rcases Nat.lt_or_ge (k + 1) s.size with h1 | h1
  · omega
  · have := h.2
    rw [byt_out s _ h1] at this
    cases this
/-- No < with a / behind it: nothing is escaped. -/
theorem et_none (h : List Nat → Bool) (l : List Nat) (hn : ∀ k, ¬ (l.getD k 0 = 60 ∧ l.getD (k + 1) 0 = 47)) : et h l = l := by
  induction l with
  | nil => rfl
  | cons b t ih =>
    have h0 := hn 0
    simp only [List.getD_cons_zero, Nat.zero_add, List.getD_cons_succ] at h0
    rw [et, if_neg (fun c => h0 ⟨c.1, c.2.1⟩), ih (fun k hk => hn (k + 1) (by simpa using hk))]
theorem et_prefix (h : List Nat → Bool) (n : Nat) : ∀ (l : List Nat), n ≤ l.length → (∀ k, k < n → ¬ (l.getD k 0 = 60 ∧ l.getD (k + 1) 0 = 47)) → et h l = l.take n ++ et h (l.drop n) := by
  induction n with
  | zero => intro l _ _; simp
  | succ n ih =>
    intro l hl hn
    match l with
    | [] => simp at hl
    | b :: t =>
      have h0 := hn 0 (by omega)
      simp only [List.getD_cons_zero, Nat.zero_add, List.getD_cons_succ] at h0
      rw [et, if_neg (fun c => h0 ⟨c.1, c.2.1⟩), ih t (by simpa using hl) (fun k hk hc => hn (k + 1) (by omega) (by simpa using hc))]
      simp
theorem et_at (h : List Nat → Bool) (l : List Nat) (i : Nat) (hi : l.getD i 0 = 60) (hi2 : l.getD (i + 1) 0 = 47) (hn : ∀ k, k < i → ¬ (l.getD k 0 = 60 ∧ l.getD (k + 1) 0 = 47)) :
    et h l = l.take (i + 1) ++ ((if h (l.drop (i + 1)) = true then [92] else []) ++ et h (l.drop (i + 1))) := by
  have hl : i < l.length := by
    rcases Nat.lt_or_ge i l.length with h1 | h1
    · exact h1
    · rw [List.getD, List.getElem?_eq_none h1] at hi
      cases hi
  have hd : l.drop i = 60 :: l.drop (i + 1) := by
    rw [List.drop_eq_getElem_cons hl]
    congr 1
    rw [List.getD, List.getElem?_eq_getElem hl] at hi
    exact hi
  have h2 : (l.drop (i + 1)).getD 0 0 = 47 := by
    rw [List.getD, List.getElem?_drop, Nat.add_zero]
    exact hi2
  have ht : l.take (i + 1) = l.take i ++ [60] := by
    rw [List.take_succ_eq_append_getElem hl]
    congr 2
    rw [List.getD, List.getElem?_eq_getElem hl] at hi
    exact hi
  rw [et_prefix h i l (by omega) hn, hd, et, ht]
  by_cases hh : h (l.drop (i + 1)) = true
  · rw [if_pos ⟨rfl, h2, hh⟩, if_pos hh]
    simp
  · rw [if_neg (fun c => hh c.2.2), if_neg hh]
    simp
/-- What the search says. -/
def IdxPost (s : ByteArray) (w : World) (e : Ending) (w' : World) : Prop :=
  w' = w ∧ ((∃ i : Nat, e = .returned (.int .i64 i) ∧ Hit s i ∧ ∀ k, k < i → ¬ Hit s k) ∨ (e = .returned (.int .i64 (-1)) ∧ ∀ k, ¬ Hit s k))
set_option maxRecDepth 100000 in
set_option maxHeartbeats 2000000 in
theorem index (s : ByteArray) (w : World) (hs : s.size ≤ 140737488351232) : Calls Try.prog 31 #[.string s, .string ⟨#[60, 47]⟩] w (IdxPost s w) := by
  go_enter Try.func31, Try.ntmps31
  go_wp2_with fail
  go_loop [5] (fun iv => ∃ i : Nat, iv = .int .i64 i ∧ i ≤ s.size + 1 ∧ ∀ k, k < i → ¬ Hit s k) (fun iv => s.size + 1 - (intOf iv).toNat)
  case atStart => exact ⟨0, rfl, by omega, fun k hk => by omega⟩
  case round =>
    obtain ⟨i, rfl, his, hno⟩ := hrel
    have HNO := Lib.hid hno
    clear hno
    by_cases hlt : i + 2 ≤ s.size
    · have i1 : (i : Int) + 2 ≤ s.size := by omega
      have hsl : ∀ w, (Instr.slice 9 (.string s) (some (.int .i64 (i : Int))) (some (.int .i64 ((i : Int) + 2))) none).run Try.prog w = .ok (.string (s.extract i (i + 2))) w := by
        intro w
        have := slice_mid s i (i + 2) (by omega) hlt w
        rwa [Int.natCast_add] at this
      have heq : ((s.extract i (i + 2)).toList == [60, 47]) = decide (Hit s i) := by
        rw [show ([60, 47] : List UInt8) = (⟨#[60, 47]⟩ : ByteArray).toList by rw [ByteArray.toList_eq], list_is, nats_extract, cut_next s i (i + 1) (by omega) (by omega), cut_next s i i (Nat.le_refl _) (by omega), cut_self]
        rw [show nats ⟨#[60, 47]⟩ = [60, 47] from rfl, Bool.eq_iff_iff]
        constructor
        · intro h
          exact decide_eq_true (by simpa [Hit] using h)
        · intro h
          have := of_decide_eq_true h
          simpa [Hit] using this
      obtain ⟨E, hE⟩ : ∃ E, E = s.extract i (i + 2) := ⟨_, rfl⟩
      rw [← hE] at hsl heq
      by_cases hh : Hit s i
      · have hq : (E.toList == [60, 47]) = true := by rw [heq, decide_eq_true hh]
        have HH := Lib.hid hh
        clear heq hE hh
        go_wp2_with fail
        go_returns
        exact ⟨rfl, .inl ⟨i, rfl, HH.out, HNO.out⟩⟩
      · have hq : (E.toList == [60, 47]) = false := by rw [heq, decide_eq_false hh]
        have HH := Lib.hid hh
        clear heq hE hh
        go_wp2_with fail
        go_round
        case rel =>
          refine ⟨i + 1, val_int (by omega), by omega, fun k hk => ?_⟩
          rcases Nat.lt_or_ge k i with h | h
          · exact HNO.out k h
          · rw [show k = i by omega]
            exact HH.out
        case measure => simp [intOf]; omega
    · have i1 : ¬ (i : Int) + 2 ≤ s.size := by omega
      have HF := Lib.hid (show ∀ k, ¬ Hit s k from fun k hk => by
        have h1 := hit_in hk
        exact HNO.out k (by omega) hk)
      clear hlt
      go_wp2_with fail
      go_returns
      exact ⟨rfl, .inr ⟨rfl, HF.out⟩⟩
theorem map_low (a b : ByteArray) (hz : a.size = b.size) : eqf (nats a) (nats b) = true ↔ ∀ k, k < a.size → low (byt a k) = low (byt b k) := by
  unfold eqf
  rw [decide_eq_true_eq]
  constructor
  · intro h k hk
    have := congrArg (fun l => l[k]?) h
    simp only [List.getElem?_map, nats_get a k hk, nats_get b k (by omega), Option.map_some] at this
    exact Option.some.inj this
  · intro h
    apply List.ext_getElem?
    intro k
    rw [List.getElem?_map, List.getElem?_map]
    rcases Nat.lt_or_ge k a.size with hk | hk
    · rw [nats_get a k hk, nats_get b k (by omega)]
      simp [h k hk]
    · rw [List.getElem?_eq_none (by rw [nats_length]; omega), List.getElem?_eq_none (by rw [nats_length]; omega)]
set_option maxRecDepth 100000 in
set_option maxHeartbeats 4000000 in
theorem fold (a b : ByteArray) (w : World) (hz : a.size = b.size) (hs : a.size ≤ 140737488351232) : Calls Try.prog 33 #[.string a, .string b] w fun e w' => e = .returned (.bool (eqf (nats a) (nats b))) ∧ Drawn w w' := by
  obtain ⟨B, hB⟩ : ∃ B, B = eqf (nats a) (nats b) := ⟨_, rfl⟩
  rw [← hB]
  have HB := Lib.hid hB
  have HM := Lib.hid (map_low a b hz)
  have HZ := Lib.hid hz
  have z1 : ((a.size : Int) != (b.size : Int)) = false := by simp; omega
  have z2 : (a.size != b.size) = false := by simp; omega
  clear hB hz
  go_enter Try.func33, Try.ntmps33
  go_wp2_with fail
  clear z1 z2
  go_loopw [5] (fun iv wr => ∃ i : Nat, iv = .int .i64 i ∧ i ≤ a.size ∧ (∀ k, k < i → low (byt a k) = low (byt b k)) ∧ ∃ m, wr = w.drewN m) (fun iv _ => a.size - (intOf iv).toNat)
  case atStart => exact ⟨0, rfl, by omega, (fun k hk => by omega), 0, rfl⟩
  case round =>
    obtain ⟨i, rfl, his, hall, m, rfl⟩ := hrel
    have HALL := Lib.hid hall
    clear hall
    by_cases hlt : i < a.size
    · have i1 : (i : Int) < a.size := by omega
      have hlb : i < b.size := by have := HZ.out; omega
      have i2 : (i : Int) < b.size := by omega
      obtain ⟨x, hx⟩ : ∃ x : Nat, x = byt a i := ⟨_, rfl⟩
      obtain ⟨y, hy⟩ : ∃ y : Nat, y = byt b i := ⟨_, rfl⟩
      have ex : (a[i]'hlt).toNat = x := by rw [hx, byt_eq a _ hlt]
      have ey : (b[i]'hlb).toNat = y := by rw [hy, byt_eq b _ hlb]
      have x255 := byt_lt a i
      have y255 := byt_lt b i
      rw [← hx] at x255
      rw [← hy] at y255
      have HXY := Lib.hid (show low x = low y → ∀ k, k < i + 1 → low (byt a k) = low (byt b k) from fun h k hk => by
        rcases Nat.lt_or_ge k i with h1 | h1
        · exact HALL.out k h1
        · rw [show k = i by omega, ← hx, ← hy]; exact h)
      have HNE := Lib.hid (show low x ≠ low y → B = false from fun h => by
        rw [HB.out]
        apply Bool.eq_false_iff.2
        intro c
        exact h (by rw [hx, hy]; exact (HM.out.1 c) i hlt))
      clear hx hy
      have key : ∀ (X Y : Nat), low x = X → low y = Y → ((X : Int) != (Y : Int)) = true ∨ (((X : Int) != (Y : Int)) = false ∧ low x = low y) := by
        intro X Y h1 h2
        by_cases h : X = Y
        · exact .inr ⟨by simp; omega, by rw [h1, h2, h]⟩
        · exact .inl (by simp; omega)
      by_cases gx : 65 ≤ x ∧ x ≤ 90
      · have gx1 : (65 : Int) ≤ x := by omega
        have gx1' : decide ((65 : Int) ≤ x) = true := by simp; omega
        have gx2 : (x : Int) ≤ 90 := by omega
        have lx : low x = x + 32 := by simp [low, gx]
        by_cases gy : 65 ≤ y ∧ y ≤ 90
        · have gy1 : (65 : Int) ≤ y := by omega
          have gy2 : (y : Int) ≤ 90 := by omega
          have ly : low y = y + 32 := by simp [low, gy]
          by_cases hq : x = y
          · have tq : ((x : Int) + 32 != (y : Int) + 32) = false := by simp; omega
            have HQ := Lib.hid (HXY.out (by rw [lx, ly, hq]))
            clear gx gy hq key lx ly
            go_wp2_with fail
            go_quiet (fail)
            go_wp2_with fail
            go_roundw
            case rel => exact ⟨i + 1, val_int (by omega), by omega, HQ.out, _, rfl⟩
            case measure => simp [intOf]; omega
          · have tq : ((x : Int) + 32 != (y : Int) + 32) = true := by simp; omega
            have HQ := Lib.hid (HNE.out (by rw [lx, ly]; omega))
            clear gx gy hq key lx ly
            go_wp2_with fail
            go_quiet (fail)
            go_wp2_with fail
            go_returns
            exact ⟨by rw [HQ.out]; rfl, _, rfl⟩
        · have ly : low y = y := by simp [low, gy]
          have gyd : (decide ((65 : Int) ≤ y) = true ∧ ¬ (y : Int) ≤ 90) ∨ decide ((65 : Int) ≤ y) = false := by
            by_cases c : 65 ≤ y
            · exact .inl ⟨by simp; omega, by omega⟩
            · exact .inr (by simp; omega)
          by_cases hq : x + 32 = y
          · have tq : ((x : Int) + 32 != (y : Int)) = false := by simp; omega
            have HQ := Lib.hid (HXY.out (by rw [lx, ly, hq]))
            clear gx gy key lx ly
            rcases gyd with ⟨d1, d2⟩ | d1
            · have d1' : (65 : Int) ≤ y := by simpa using d1
              clear hq
              go_wp2_with fail
              go_quiet (fail)
              go_wp2_with fail
              go_roundw
              case rel => exact ⟨i + 1, val_int (by omega), by omega, HQ.out, _, rfl⟩
              case measure => simp [intOf]; omega
            · have d1' : ¬ (65 : Int) ≤ y := by simpa using d1
              clear hq
              go_wp2_with fail
              go_quiet (fail)
              go_wp2_with fail
              go_roundw
              case rel => exact ⟨i + 1, val_int (by omega), by omega, HQ.out, _, rfl⟩
              case measure => simp [intOf]; omega
          · have tq : ((x : Int) + 32 != (y : Int)) = true := by simp; omega
            have HQ := Lib.hid (HNE.out (by rw [lx, ly]; omega))
            clear gx gy key lx ly
            rcases gyd with ⟨d1, d2⟩ | d1
            · have d1' : (65 : Int) ≤ y := by simpa using d1
              clear hq
              go_wp2_with fail
              go_quiet (fail)
              go_wp2_with fail
              go_returns
              exact ⟨by rw [HQ.out]; rfl, _, rfl⟩
            · have d1' : ¬ (65 : Int) ≤ y := by simpa using d1
              clear hq
              go_wp2_with fail
              go_quiet (fail)
              go_wp2_with fail
              go_returns
              exact ⟨by rw [HQ.out]; rfl, _, rfl⟩
      · have lx : low x = x := by simp [low, gx]
        have gxd : (decide ((65 : Int) ≤ x) = true ∧ ¬ (x : Int) ≤ 90) ∨ decide ((65 : Int) ≤ x) = false := by
          by_cases c : 65 ≤ x
          · exact .inl ⟨by simp; omega, by omega⟩
          · exact .inr (by simp; omega)
        have gx0 : (65 : Int) ≤ x → ¬ (x : Int) ≤ 90 := by omega
        by_cases gy : 65 ≤ y ∧ y ≤ 90
        · have gy1 : (65 : Int) ≤ y := by omega
          have gy2 : (y : Int) ≤ 90 := by omega
          have ly : low y = y + 32 := by simp [low, gy]
          by_cases hq : x = y + 32
          · have tq : ((x : Int) != (y : Int) + 32) = false := by simp; omega
            have HQ := Lib.hid (HXY.out (by rw [lx, ly, hq]))
            clear gx gy key lx ly gx0
            rcases gxd with ⟨d1, d2⟩ | d1
            · have d1' : (65 : Int) ≤ x := by simpa using d1
              clear hq
              go_wp2_with fail
              go_quiet (fail)
              go_wp2_with fail
              go_roundw
              case rel => exact ⟨i + 1, val_int (by omega), by omega, HQ.out, _, rfl⟩
              case measure => simp [intOf]; omega
            · have d1' : ¬ (65 : Int) ≤ x := by simpa using d1
              clear hq
              go_wp2_with fail
              go_quiet (fail)
              go_wp2_with fail
              go_roundw
              case rel => exact ⟨i + 1, val_int (by omega), by omega, HQ.out, _, rfl⟩
              case measure => simp [intOf]; omega
          · have tq : ((x : Int) != (y : Int) + 32) = true := by simp; omega
            have HQ := Lib.hid (HNE.out (by rw [lx, ly]; omega))
            clear gx gy key lx ly gx0
            rcases gxd with ⟨d1, d2⟩ | d1
            · have d1' : (65 : Int) ≤ x := by simpa using d1
              clear hq
              go_wp2_with fail
              go_quiet (fail)
              go_wp2_with fail
              go_returns
              exact ⟨by rw [HQ.out]; rfl, _, rfl⟩
            · have d1' : ¬ (65 : Int) ≤ x := by simpa using d1
              clear hq
              go_wp2_with fail
              go_quiet (fail)
              go_wp2_with fail
              go_returns
              exact ⟨by rw [HQ.out]; rfl, _, rfl⟩
        · have ly : low y = y := by simp [low, gy]
          have gyd : (decide ((65 : Int) ≤ y) = true ∧ ¬ (y : Int) ≤ 90) ∨ decide ((65 : Int) ≤ y) = false := by
            by_cases c : 65 ≤ y
            · exact .inl ⟨by simp; omega, by omega⟩
            · exact .inr (by simp; omega)
          have HQ := Lib.hid (show x = y → ∀ k, k < i + 1 → low (byt a k) = low (byt b k) from fun h => HXY.out (by rw [lx, ly, h]))
          have HQ2 := Lib.hid (show x ≠ y → B = false from fun h => HNE.out (by rw [lx, ly]; exact h))
          clear gx gy key lx ly gx0
          rcases gxd with ⟨d1, d2⟩ | d1 <;> rcases gyd with ⟨f1, f2⟩ | f1
          all_goals
            simp only [decide_eq_true_eq, decide_eq_false_iff_not] at d1 f1
            by_cases hq : x = y
            · have tq : ((x : Int) != (y : Int)) = false := by simp; omega
              have tq' : (x != y) = false := by simp; omega
              have HQ3 := Lib.hid (HQ.out hq)
              clear hq
              go_wp2_with fail
              go_quiet (fail)
              go_wp2_with fail
              go_roundw
              case rel => exact ⟨i + 1, val_int (by omega), by omega, HQ3.out, _, rfl⟩
              case measure => simp [intOf]; omega
            · have tq : ((x : Int) != (y : Int)) = true := by simp; omega
              have tq' : (x != y) = true := by simp; omega
              have HQ3 := Lib.hid (HQ2.out hq)
              clear hq
              go_wp2_with fail
              go_quiet (fail)
              go_wp2_with fail
              go_returns
              exact ⟨by rw [HQ3.out]; rfl, _, rfl⟩
    · have i1 : ¬ (i : Int) < a.size := by omega
      have HT := Lib.hid (show B = true by rw [HB.out]; exact HM.out.2 (fun k hk => HALL.out k (by omega)))
      clear hlt
      go_wp2_with fail
      go_returns
      exact ⟨by rw [HT.out]; rfl, _, rfl⟩
end Go.Proofs.Ytkhnkemmkedfcaa.Tag
