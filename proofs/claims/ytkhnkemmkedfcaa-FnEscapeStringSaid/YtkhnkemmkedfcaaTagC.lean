/- The statement FnEscapeString: in a string literal the escaped text means what the text means. The walk of the law. -/
import Derived.Test.YtkhnkemmkedfcaaTagB
import Derived.Test.YtkhnkemmkedfcaaJsK
namespace Go.Proofs.Ytkhnkemmkedfcaa.Tag
open Go.RowKit Go.Proofs.Ytkhnkemmkedfcaa.Aid Go.Proofs.Ytkhnkemmkedfcaa.Runes Go.Proofs.Ytkhnkemmkedfcaa.Bytes Go.Proofs.Ytkhnkemmkedfcaa.Wtf Go.Proofs.Ytkhnkemmkedfcaa.Esc Go.Proofs.Ytkhnkemmkedfcaa.Js
attribute [local go_sem ↓] Go.wp_at_zero Go.wp_at_succ
set_option linter.unusedVariables false
theorem js_short (k : Nat) : ∀ (l us : List Nat), l.length = k → js l = some us → us.length + 1 ≤ l.length := by
  induction k using Nat.strongRecOn with
  | _ k ih =>
    intro l us hk h
    by_cases h0 : l = []
    · subst h0; rw [js, dif_pos rfl] at h; cases h
    by_cases hq : l.getD 0 0 = 34
    · rw [js_quote h0 hq] at h
      split at h
      · rename_i hl; injection h with h; subst h; simp; omega
      · cases h
    obtain ⟨r, n, hu⟩ : ∃ r n, ur l = (r, n) := ⟨_, _, rfl⟩
    by_cases hbad : n = 0 ∨ r = 10 ∨ r = 13
    · rw [js_bad h0 hq (by rw [hu]; exact hbad)] at h; cases h
    have hn : 0 < n := by omega
    have hl := ur_le hu hn
    by_cases h92 : r = 92
    · obtain ⟨b, t, rfl⟩ := cons_of (l := l) (List.length_pos_iff.2 h0)
      have hbr : b = 92 := (head_of hu hn (by omega)).trans h92
      subst hbr
      cases hj : je t with
      | none => rw [js_esc_none hj] at h; cases h
      | some p =>
        obtain ⟨vs, m⟩ := p
        rw [js_esc hj] at h
        obtain ⟨ws, hw, he⟩ := Option.map_eq_some_iff.1 h
        have hkp := je_keep hj
        have := ih _ (by rw [← hk]; simp; omega) (t.drop m) ws rfl hw
        rw [List.length_drop] at this
        subst he
        simp
        omega
    · rw [js_raw hu hn (by intro e; subst e; rcases ur_bytes hu hn with ⟨_, _, e⟩ | ⟨_, e, _⟩ <;> omega) (by omega) (by omega) h92] at h
      obtain ⟨ws, hw, he⟩ := Option.map_eq_some_iff.1 h
      have := ih _ (by rw [← hk, List.length_drop]; omega) (l.drop n) ws rfl hw
      rw [List.length_drop] at this
      have hel := enc_len r
      subst he
      simp
      omega
set_option maxRecDepth 100000 in
set_option maxHeartbeats 2000000 in
theorem escapeClosing (s t : ByteArray) (w : World) (hs : s.size ≤ 10000000000) (ht : t.size ≤ 10000000000) (h0 : 0 < t.size) :
    Calls Try.prog 9 #[.string s, .string t] w fun e w' => e = .returned (.string (str (et (hit (nats t)) (nats s)))) ∧ Below w.heap.size w w' := by
  have HE := Lib.hid (escapeTag s t w hs ht h0)
  obtain ⟨Z, hZ⟩ : ∃ Z, Z = str (et (hit (nats t)) (nats s)) := ⟨_, rfl⟩
  rw [← hZ] at HE ⊢
  clear hZ
  go_enter Try.func9, Try.ntmps9
  go_wp2_with fail
  refine HE.out.mono ?_
  rintro e w1 ⟨rfl, h1⟩
  have H1 := Lib.hid h1
  clear h1
  go_wp2_with fail
  go_returns
  exact ⟨rfl, H1.out⟩
/-- Some Bool; true for texts of two bytes at least alone. -/
def SlashPost (t : ByteArray) (w : World) (e : Ending) (w' : World) : Prop := (∃ v : Bool, e = .returned (.bool v) ∧ (v = true → 2 ≤ t.size)) ∧ w' = w
set_option maxRecDepth 100000 in
set_option maxHeartbeats 2000000 in
theorem slashTag (t : ByteArray) (w : World) (ht : t.size ≤ 10000000000) : Calls Try.prog 7 #[.string t] w (SlashPost t w) := by
  by_cases h2 : t.size < 2
  · have t2 : (t.size : Int) < 2 := by omega
    clear h2
    go_enter Try.func7, Try.ntmps7
    go_wp2_with fail
    go_returns
    exact ⟨⟨false, rfl, fun h => by cases h⟩, rfl⟩
  have t2 : ¬ (t.size : Int) < 2 := by omega
  have h2' : 2 ≤ t.size := by omega
  have g0 : 0 < t.size := by omega
  have i0 : (0 : Int) < t.size := by omega
  obtain ⟨b, hb⟩ : ∃ b : Nat, b = byt t 0 := ⟨_, rfl⟩
  have eb : (t[0]'g0).toNat = b := by rw [hb, byt_eq t _ g0]
  clear hb h2
  by_cases hq : b = 47
  · have tq : ((b : Int) != 47) = false := by simp; omega
    clear hq
    go_enter Try.func7, Try.ntmps7
    go_wp2_with fail
    clear tq eb
    go_loop [3] (fun iv => ∃ i : Nat, iv = .int .i64 i ∧ i ≤ t.size) (fun iv => t.size - (intOf iv).toNat)
    case atStart => exact ⟨1, rfl, by omega⟩
    case round =>
      obtain ⟨i, rfl, hi⟩ := hrel
      by_cases hlt : i < t.size
      · have i1 : (i : Int) < t.size := by omega
        obtain ⟨x, hx⟩ : ∃ x : Nat, x = byt t i := ⟨_, rfl⟩
        have ex : (t[i]'hlt).toNat = x := by rw [hx, byt_eq t _ hlt]
        clear hx
        by_cases q1 : x < 97
        · have t1 : (x : Int) < 97 := by omega
          clear q1
          go_wp2_with fail
          go_returns
          exact ⟨⟨false, rfl, fun h => by cases h⟩, rfl⟩
        · have t1 : ¬ (x : Int) < 97 := by omega
          by_cases q3 : 122 < x
          · have t3 : (122 : Int) < x := by omega
            clear q1 q3
            go_wp2_with fail
            go_returns
            exact ⟨⟨false, rfl, fun h => by cases h⟩, rfl⟩
          · have t3 : ¬ (122 : Int) < x := by omega
            clear q1 q3
            go_wp2_with fail
            go_round
            case rel => exact ⟨i + 1, val_int (by omega), by omega⟩
            case measure => simp [intOf]; omega
      · have i1 : ¬ (i : Int) < t.size := by omega
        clear hlt
        go_wp2_with fail
        go_returns
        exact ⟨⟨true, rfl, fun _ => h2'⟩, rfl⟩
  · have tq : ((b : Int) != 47) = true := by simp; omega
    clear hq
    go_enter Try.func7, Try.ntmps7
    go_wp2_with fail
    go_returns
    exact ⟨⟨false, rfl, fun h => by cases h⟩, rfl⟩
theorem lower (x : Nat) (w : World) (h : x < 256) : Calls Try.prog 30 #[.int .u8 x] w fun e w' => e = .returned (.int .u8 (low x)) ∧ w' = w := by
  by_cases h1 : 65 ≤ x
  · have t1 : (65 : Int) ≤ x := by omega
    by_cases h2 : x ≤ 90
    · have t2 : (x : Int) ≤ 90 := by omega
      have HE := Lib.hid (show low x = x + 32 by simp [low, h1, h2])
      clear h1 h2
      go_enter Try.func30, Try.ntmps30
      go_wp2_with fail
      go_returns
      exact ⟨by rw [HE.out]; rfl, rfl⟩
    · have t2 : ¬ (x : Int) ≤ 90 := by omega
      have HE := Lib.hid (show low x = x by simp [low, h2])
      clear h1 h2
      go_enter Try.func30, Try.ntmps30
      go_wp2_with fail
      go_returns
      exact ⟨by rw [HE.out]; rfl, rfl⟩
  · have t1 : ¬ (65 : Int) ≤ x := by omega
    have HE := Lib.hid (show low x = x by simp [low, h1])
    clear h1
    go_enter Try.func30, Try.ntmps30
    go_wp2_with fail
    go_returns
    exact ⟨by rw [HE.out]; rfl, rfl⟩
set_option maxRecDepth 100000 in
set_option maxHeartbeats 1000000 in
theorem finds_none (s t : ByteArray) (w : World) (hs : s.size ≤ 10000000000) (ht : t.size ≤ 10000000000) (hno : ∀ a, a + t.size ≤ s.size → ∃ j, j < t.size ∧ low (byt s (a + j)) ≠ low (byt t j)) :
    Calls Try.prog 19 #[.string s, .string t] w fun e w' => e = .returned (.int .i64 (-1)) ∧ Drawn w w' := by
  have HNO := Lib.hid hno
  clear hno
  go_enter Try.func19, Try.ntmps19
  go_wp2_with fail
  go_loopw [5] (fun av wr => ∃ a : Nat, av = .int .i64 a ∧ a ≤ s.size + 1 ∧ ∃ m, wr = w.drewN m) (fun av _ => s.size + 1 - (intOf av).toNat)
  case atStart => exact ⟨0, rfl, by omega, 0, rfl⟩
  case round =>
    obtain ⟨a, rfl, has, m, rfl⟩ := hrel
    by_cases hlt : a + t.size ≤ s.size
    · have i1 : (a : Int) + (t.size : Int) ≤ s.size := by omega
      go_upto_block 2 with fail
      go_cut [6] (fun sv wx => sv = .bool false ∧ ∃ m, wx = w.drewN m)
      case first =>
        go_wp2_with fail
        go_loopw [6, 7] (fun sv iv wr => ∃ (i : Nat) (B : Bool), iv = .int .i64 i ∧ i ≤ t.size ∧ sv = .bool B ∧ (B = true → ∀ k, k < i → low (byt s (a + k)) = low (byt t k)) ∧ ∃ m, wr = w.drewN m) (fun _ iv _ => t.size - (intOf iv).toNat)
        case atStart => exact ⟨0, true, rfl, by omega, rfl, (fun _ k hk => by omega), m, rfl⟩
        case round =>
          obtain ⟨i, B, rfl, hi, rfl, hall, m2, rfl⟩ := hrel
          have HALL := Lib.hid hall
          clear hall
          by_cases hlti : i < t.size
          · have i2 : (i : Int) < t.size := by omega
            cases B with
            | true =>
              have g1 : a + i < s.size := by omega
              have i3 : (a : Int) + (i : Int) < s.size := by omega
              have i4 : ((a : Int) + (i : Int)).toNat = a + i := by omega
              obtain ⟨x, hx⟩ : ∃ x : Nat, x = byt s (a + i) := ⟨_, rfl⟩
              obtain ⟨y, hy⟩ : ∃ y : Nat, y = byt t i := ⟨_, rfl⟩
              have ex : (s[a + i]'g1).toNat = x := by rw [hx, byt_eq s _ g1]
              have ey : (t[i]'hlti).toNat = y := by rw [hy, byt_eq t _ hlti]
              have x255 := byt_lt s (a + i)
              have y255 := byt_lt t i
              rw [← hx] at x255
              rw [← hy] at y255
              have wi : IntKind.i64.wrap ((a : Int) + (i : Int)) = (a : Int) + (i : Int) := IntWalk.i64_in _ (by omega)
              have HL := Lib.hid (fun (z : Nat) (w : World) (hz : z < 256) => lower z w hz)
              have HQ := Lib.hid (show low x = low y → ∀ k, k < i + 1 → low (byt s (a + k)) = low (byt t k) from fun h k hk => by
                rcases Nat.lt_or_ge k i with h1 | h1
                · exact HALL.out rfl k h1
                · rw [show k = i by omega, ← hx, ← hy]; exact h)
              clear hx hy
              obtain ⟨W, hW⟩ : ∃ W, W = w.drewN m2 := ⟨_, rfl⟩
              have HWW := Lib.hid hW
              rw [← hW]
              clear hW
              go_wp2_with fail
              go_quiet ((go_at_call 30; exact Calls.quiet_of_same (HL.out _ _ (by assumption))))
              clear wi
              go_wp2_with fail
              go_roundw
              case rel => exact ⟨i + 1, (((low x : Nat) : Int) == ((low y : Nat) : Int)), val_int (by omega), by omega, rfl, (fun h => HQ.out (by have h1 := eq_of_beq h; omega)), m2 + nq, by rw [HWW.out, World.drewN_drewN]⟩
              case measure => simp [intOf]; omega
            | false =>
              go_wp2_with fail
              go_meet
              exact ⟨rfl, _, rfl⟩
          · have i2 : ¬ (i : Int) < t.size := by omega
            have hB : B = false := by
              cases B with
              | false => rfl
              | true =>
                obtain ⟨j, hj, hne⟩ := HNO.out a hlt
                exact absurd (HALL.out rfl j (by omega)) hne
            subst hB
            clear hlti
            go_wp2_with fail
            go_meet
            exact ⟨rfl, _, rfl⟩
      case rest =>
        obtain ⟨rfl, m3, rfl⟩ := hcut
        go_wp2_with fail
        go_roundw
        case rel => exact ⟨a + 1, val_int (by omega), by omega, _, rfl⟩
        case measure => simp [intOf]; omega
    · have i1 : ¬ (a : Int) + (t.size : Int) ≤ s.size := by omega
      clear hlt
      go_wp2_with fail
      go_returns
      exact ⟨rfl, _, rfl⟩
/-- The text that is escaped wherever the statement is asked, and what it becomes. -/
def T0 : ByteArray := ⟨#[97, 60, 47, 115, 99, 114, 105, 112, 116, 62]⟩
def G0 : ByteArray := ⟨#[47, 115, 99, 114, 105, 112, 116]⟩
def E0 : ByteArray := ⟨#[97, 60, 92, 47, 115, 99, 114, 105, 112, 116, 62]⟩
theorem e0_is : str (et (hit (nats G0)) (nats T0)) = E0 := by
  have h : et (hit (nats G0)) (nats T0) = [97, 60, 92, 47, 115, 99, 114, 105, 112, 116, 62] := by decide
  rw [h]
  rfl
def F0 : ByteArray := ⟨#[60, 47, 115, 99, 114, 105, 112, 116]⟩
theorem f0_none : ∀ a, a + F0.size ≤ E0.size → ∃ j, j < F0.size ∧ low (byt E0 (a + j)) ≠ low (byt F0 j) := by
  intro a ha
  have h : a ≤ 3 := by
    have h1 : F0.size = 8 := rfl
    have h2 : E0.size = 11 := rfl
    omega
  rcases (by omega : a = 0 ∨ a = 1 ∨ a = 2 ∨ a = 3) with rfl | rfl | rfl | rfl
  · exact ⟨0, by decide, by decide⟩
  · exact ⟨1, by decide, by decide⟩
  · exact ⟨0, by decide, by decide⟩
  · exact ⟨0, by decide, by decide⟩
set_option maxRecDepth 100000 in
set_option maxHeartbeats 2000000 in
theorem escaped (w : World) : Calls Try.prog 8 #[] w fun e w' => e = .returned (.bool true) ∧ Below w.heap.size w w' := by
  have HE := Lib.hid (fun w => escapeClosing T0 G0 w (by decide) (by decide) (by decide))
  rw [e0_is] at HE
  have HF := Lib.hid (fun w => finds_none E0 F0 w (by decide) (by decide) f0_none)
  simp only [T0, G0, E0, F0] at HE HF
  go_enter Try.func8, Try.ntmps8
  go_wp2_with fail
  refine (HE.out _).mono ?_
  rintro e w1 ⟨rfl, h1⟩
  have H1 := Lib.hid h1
  clear h1
  go_wp2_with fail
  refine (HF.out _).mono ?_
  rintro e w2 ⟨rfl, nd, rfl⟩
  go_wp2_with fail
  go_returns
  exact ⟨rfl, below_drewN H1.out _⟩
/-- A text between quotes. -/
def lit (s : ByteArray) : ByteArray := ⟨#[34]⟩ ++ s ++ ⟨#[34]⟩
theorem lit_nats (s : ByteArray) : nats (lit s) = 34 :: (nats s ++ [34]) := by
  rw [lit, nats_append, nats_append]
  rfl
theorem lit_size (s : ByteArray) : (lit s).size = s.size + 2 := by
  rw [← nats_length, lit_nats]
  simp [nats_length]
set_option maxRecDepth 100000 in
set_option maxHeartbeats 4000000 in
theorem law (s t : ByteArray) (w : World) (hs : s.size ≤ 140737488351232) (ht : t.size ≤ 140737488351232) :
    Calls Try.prog 3 #[.string s, .string t] w fun e w' => e = .returned (.bool true) ∧ Below w.heap.size w w' := by
  by_cases hb1 : s.size ≤ 2147483647
  · by_cases hb2 : t.size ≤ 2147483647
    · have u1 : ¬ (2147483647 : Int) < s.size := by omega
      have u1' : decide ((2147483647 : Int) < s.size) = false := by simp; omega
      have u2 : ¬ (2147483647 : Int) < t.size := by omega
      have hls := lit_size s
      have hln := lit_nats s
      have hb0 : byt (lit s) 0 = 34 := by rw [← getD_nats, hln]; rfl
      have hd1 : (nats (lit s)).drop 1 = nats s ++ [34] := by rw [hln]; rfl
      have HJ := Lib.hid (fun w => jsString (lit s) w (by omega) (by omega) hb0)
      rw [hd1] at HJ
      have HEQ := Lib.hid (show (⟨#[34]⟩ : ByteArray) ++ s ++ ⟨#[34]⟩ = lit s from rfl)
      have HSL := Lib.hid (fun w => slashTag t w (by omega))
      have HES := Lib.hid escaped
      cases hj : js (nats s ++ [34]) with
      | none =>
        rw [hj] at HJ
        clear hb1 hb2 hls hln hb0 hd1 hj
        go_enter Try.func3, Try.ntmps3
        go_wp2_with fail
        rw [HEQ.out]
        refine (HJ.out _).mono ?_
        rintro e w1 ⟨h1, rfl⟩
        have H1 := Lib.hid h1
        clear h1
        go_wp2_with fail
        refine (HES.out _).mono ?_
        rintro e w2 ⟨rfl, h2⟩
        have H2 := Lib.hid (H1.out.trans (h2.mono H1.out.size))
        clear h2
        go_wp2_with fail
        go_returns
        exact ⟨rfl, H2.out⟩
      | some us =>
        rw [hj] at HJ
        have hsh := js_short _ _ us rfl hj
        rw [List.length_append, nats_length] at hsh
        have hul : us.length ≤ 2147483647 := by simp at hsh; omega
        have hEn : nats (str (et (hit (nats t)) (nats (lit s)))) = et (hit (nats t)) (nats (lit s)) := nats_str _ (et_lt _ _ (nats_lt _))
        have hEl := (et_len (hit (nats t)) (nats (lit s)))
        rw [nats_length] at hEl
        have hE34 : et (hit (nats t)) (nats (lit s)) = 34 :: et (hit (nats t)) (nats s ++ [34]) := by rw [hln, et_other _ _ _ (by omega)]
        have hj2 := js_et (hit (nats t)) _ _ us rfl hj
        have HC := Lib.hid (show 0 < t.size → ∀ w, Calls Try.prog 9 #[.string (lit s), .string t] w fun e w' => e = .returned (.string (str (et (hit (nats t)) (nats (lit s))))) ∧ Below w.heap.size w w' from fun h0 w => escapeClosing (lit s) t w (by omega) (by omega) h0)
        obtain ⟨Z, hZ⟩ : ∃ Z, Z = str (et (hit (nats t)) (nats (lit s))) := ⟨_, rfl⟩
        have hzs : Z.size = (et (hit (nats t)) (nats (lit s))).length := by rw [hZ, str_size]
        rw [← hZ] at hEn HC
        have hz0 : byt Z 0 = 34 := by rw [← getD_nats, hEn, hE34]; rfl
        have HJ2 := Lib.hid (fun w => jsString Z w (by omega) (by omega) hz0)
        rw [hEn, hE34, List.drop_one, List.tail_cons, hj2] at HJ2
        clear hb1 hb2 hls hln hb0 hd1 hj hsh hEn hEl hE34 hj2 hZ hzs hz0
        go_enter Try.func3, Try.ntmps3
        go_wp2_with fail
        rw [HEQ.out]
        refine (HJ.out _).mono ?_
        rintro e w1 ⟨h1, v1, base1, rfl, ho1⟩
        have H1 := Lib.hid h1
        have HO1 := Lib.hid ho1
        clear h1 ho1
        go_wp2_with fail
        refine (HSL.out _).mono ?_
        rintro e w2 ⟨⟨v, rfl, hv⟩, rfl⟩
        cases v with
        | false =>
          clear hv
          go_wp2_with fail
          refine (HES.out _).mono ?_
          rintro e w3 ⟨rfl, h2⟩
          have H2 := Lib.hid (H1.out.trans (h2.mono H1.out.size))
          clear h2
          go_wp2_with fail
          go_returns
          exact ⟨rfl, H2.out⟩
        | true =>
          have HC2 := Lib.hid (HC.out (by have := hv rfl; omega))
          clear hv
          go_wp2_with fail
          refine (HC2.out _).mono ?_
          rintro e w3 ⟨rfl, h3⟩
          have H3 := Lib.hid (H1.out.trans (h3.mono H1.out.size))
          have HO3 := Lib.hid (own_keep HO1.out h3)
          clear h3
          go_wp2_with fail
          refine (HJ2.out _).mono ?_
          rintro e w4 ⟨h4, v4, base4, rfl, ho4⟩
          have H4 := Lib.hid (H3.out.trans (h4.mono H3.out.size))
          have HO4 := Lib.hid (own_keep HO3.out h4)
          have HO5 := Lib.hid ho4
          clear h4 ho4
          go_wp2_with fail
          refine (wtfEqual us _ _ _ _ _ HO5.out HO4.out hul).mono ?_
          rintro e w5 ⟨rfl, nd, rfl⟩
          have H5 := Lib.hid (below_drewN H4.out nd)
          go_wp2_with fail
          refine (HES.out _).mono ?_
          rintro e w6 ⟨rfl, h6⟩
          have H6 := Lib.hid (H5.out.trans (h6.mono H5.out.size))
          clear h6
          go_wp2_with fail
          go_returns
          exact ⟨rfl, H6.out⟩
    · have u1 : ¬ (2147483647 : Int) < s.size := by omega
      have u1' : decide ((2147483647 : Int) < s.size) = false := by simp; omega
      have u2 : (2147483647 : Int) < t.size := by omega
      clear hb1 hb2
      go_enter Try.func3, Try.ntmps3
      go_wp2_with fail
      go_returns
      exact ⟨rfl, Below.refl _ _⟩
  · have u1 : (2147483647 : Int) < s.size := by omega
    have u1' : decide ((2147483647 : Int) < s.size) = true := by simp; omega
    clear hb1
    go_enter Try.func3, Try.ntmps3
    go_wp2_with fail
    go_returns
    exact ⟨rfl, Below.refl _ _⟩
end Go.Proofs.Ytkhnkemmkedfcaa.Tag
