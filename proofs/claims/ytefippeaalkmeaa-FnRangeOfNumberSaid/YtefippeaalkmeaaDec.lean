/- The double nearest to a decimal number. The walk. -/
import Derived.Test.YtefippeaalkmeaaDig
namespace Go.Proofs.Ytefippeaalkmeaa.Nats
open Go.RowKit Go.Proofs.Ytefippeaalkmeaa.Aid Go.Proofs.Ytefippeaalkmeaa.Runes Go.Proofs.Ytefippeaalkmeaa.Bytes
attribute [local go_sem ↓] Go.wp_at_zero Go.wp_at_succ
set_option linter.unusedVariables false
/-- A text of digits. -/
def Dig (t : ByteArray) : Prop := ∀ b ∈ nats t, (hexv b).isSome = true
theorem Dig.extract {t : ByteArray} (h : Dig t) (a b : Nat) : Dig (t.extract a b) := fun x hx => by
  rw [nats_extract] at hx
  exact h x (List.mem_of_mem_drop (List.mem_of_mem_take hx))
theorem Dig.at_ {t : ByteArray} (h : Dig t) (i : Nat) (hi : i < t.size) : (hexv (byt t i)).isSome = true := h _ (List.mem_of_getElem? (nats_get t i hi))
theorem Dig.append {s t : ByteArray} (h : Dig s) (h' : Dig t) : Dig (s ++ t) := fun x hx => by
  rw [nats_append] at hx
  rcases List.mem_append.1 hx with hx | hx
  · exact h x hx
  · exact h' x hx
def WordPost (w : World) (e : Ending) (w' : World) : Prop := Below w.heap.size w w' ∧ ∃ (q : Nat) (b : Bool), e = .returned (.tuple #[.int .u64 q, .bool b])
theorem blen_one : blen 1 = 1 := by decide
theorem pos_pow (q : Nat) : 0 < 1 * 10 ^ q := by
  rw [Nat.one_mul]
  exact Nat.pow_pos (by omega)
set_option maxRecDepth 100000 in
set_option maxHeartbeats 8000000 in
theorem decimal_walk (s : ByteArray) (x : Int) (w : World) (hs : s.size ≤ 140737488351232) (hd : Dig s) (h0 : -200000 ≤ x) (h1 : x ≤ 200000) :
    Calls Try.prog 35 #[.string s, .int .i64 x] w (WordPost w) := by
  by_cases h300 : 300 < s.size
  · have q1 : (300 : Int) < (s.size : Int) := by omega
    clear hd
    go_enter Try.func35, Try.ntmps35
    go_wp2_with fail
    go_returns
    exact ⟨Below.refl _ _, 0, false, rfl⟩
  · have q1 : ¬ (300 : Int) < (s.size : Int) := by omega
    have HD := Lib.hid hd
    have s3 : s.size ≤ 300 := by omega
    clear hd h300
    go_enter Try.func35, Try.ntmps35
    go_upto_block 0 with fail
    go_cut [0] (fun dv wx => (∃ t, dv = .string t ∧ Dig t ∧ t.size ≤ s.size) ∧ wx = w)
    case first =>
      go_wp2_with fail
      go_loopw [0] (fun dv wr => (∃ t, dv = .string t ∧ Dig t ∧ t.size ≤ s.size) ∧ wr = w) (fun dv _ => (match dv with | .string t => t.size | _ => 0))
      case atStart => exact ⟨⟨s, rfl, HD.out, Nat.le_refl _⟩, rfl⟩
      case round =>
        obtain ⟨⟨t, rfl, hd, ht⟩, rfl⟩ := hrel
        have HT := Lib.hid hd
        clear hd
        by_cases ht0 : 0 < t.size
        · have q2 : (0 : Int) < (t.size : Int) := by omega
          have hsl : ∀ w, (Instr.slice 9 (.string t) (some (.int .i64 1)) none none).run Try.prog w = .ok (.string (t.extract 1 t.size)) w := fun w => slice_from t 1 (by omega) w
          have HSL := Lib.hid (HT.out.extract 1 t.size)
          have HSZ := Lib.hid (extract_size0 t 1 t.size (by omega) (Nat.le_refl _))
          by_cases hz : byt t 0 = 48
          · have hz' : (t[0]'ht0).toNat = 48 := by rw [← byt_eq t 0 ht0]; exact hz
            clear hz
            go_wp2_with fail
            go_roundw
            case rel => exact ⟨⟨_, rfl, HSL.out, by rw [HSZ.out]; omega⟩, trivial⟩
            case measure => have := HSZ.out; simp only [this]; omega
          · have hz' : ((((t[0]'ht0).toNat : Nat) : Int) == 48) = false := by rw [← byt_eq t 0 ht0]; simp; omega
            clear hz
            go_wp2_with fail
            go_meet
            exact ⟨⟨t, rfl, HT.out, ht⟩, rfl⟩
        · have q2 : ¬ (0 : Int) < (t.size : Int) := by omega
          clear ht0
          go_wp2_with fail
          go_meet
          exact ⟨⟨t, rfl, HT.out, ht⟩, rfl⟩
    case rest =>
      obtain ⟨⟨t, rfl, hd, ht⟩, rfl⟩ := hcut
      have HT := Lib.hid hd
      clear hd
      go_upto_block 2 with fail
      go_cut [0, 1] (fun dv yv wx => (∃ (t : ByteArray) (y : Int), dv = .string t ∧ yv = .int .i64 y ∧ Dig t ∧ t.size ≤ 300 ∧ -200000 ≤ y ∧ y ≤ 200300) ∧ wx = wc)
      case first =>
        go_wp2_with fail
        go_loopw [0, 1] (fun dv yv wr => (∃ (t : ByteArray) (y : Int), dv = .string t ∧ yv = .int .i64 y ∧ Dig t ∧ t.size ≤ 300 ∧ -200000 ≤ y ∧ y + t.size ≤ 200300) ∧ wr = wc) (fun dv _ _ => (match dv with | .string t => t.size | _ => 0))
        case atStart => exact ⟨⟨t, x, rfl, rfl, HT.out, by omega, h0, by omega⟩, rfl⟩
        case round =>
          obtain ⟨⟨t, y, rfl, rfl, hd, ht, y0, y1⟩, rfl⟩ := hrel
          have HT := Lib.hid hd
          clear hd
          by_cases ht0 : 0 < t.size
          · have q2 : (0 : Int) < (t.size : Int) := by omega
            obtain ⟨m, hm⟩ : ∃ m, t.size = m + 1 := ⟨t.size - 1, by omega⟩
            have q3 : (t.size : Int) - 1 = (m : Int) := by omega
            have hmt : m < t.size := by omega
            have q4 : (m : Int) < (t.size : Int) := by omega
            have hsl : ∀ w, (Instr.slice 9 (.string t) none (some (.int .i64 (m : Int))) none).run Try.prog w = .ok (.string (t.extract 0 m)) w := fun w => slice_to t m (by omega) w
            have HSL := Lib.hid (HT.out.extract 0 m)
            have HSZ := Lib.hid (extract_size0 t 0 m (by omega) (by omega))
            have HM := Lib.hid hm
            clear hm
            by_cases hz : byt t m = 48
            · have hz' : (t[m]'hmt).toNat = 48 := by rw [← byt_eq t m hmt]; exact hz
              clear hz
              go_wp2_with fail
              go_roundw
              case rel => exact ⟨⟨_, y + 1, rfl, rfl, HSL.out, by rw [HSZ.out]; omega, by omega, by rw [HSZ.out]; have := HM.out; omega⟩, trivial⟩
              case measure => have := HSZ.out; have := HM.out; simp only [*]; omega
            · have hz' : ((((t[m]'hmt).toNat : Nat) : Int) == 48) = false := by rw [← byt_eq t m hmt]; simp; omega
              clear hz
              go_wp2_with fail
              go_meet
              exact ⟨⟨t, y, rfl, rfl, HT.out, ht, y0, by omega⟩, rfl⟩
          · have q2 : ¬ (0 : Int) < (t.size : Int) := by omega
            clear ht0
            go_wp2_with fail
            go_meet
            exact ⟨⟨t, y, rfl, rfl, HT.out, ht, y0, by omega⟩, rfl⟩
      case rest =>
        obtain ⟨⟨t, y, rfl, rfl, hd, ht, y0, y1⟩, rfl⟩ := hcut
        have HT := Lib.hid hd
        clear hd
        by_cases h20 : 20 < t.size
        · have q2 : (20 : Int) < (t.size : Int) := by omega
          clear h20
          go_wp2_with fail
          go_returns
          exact ⟨Below.refl _ _, 0, false, rfl⟩
        · have q2 : ¬ (20 : Int) < (t.size : Int) := by omega
          by_cases ht0 : t.size = 0
          · have q3 : ((t.size : Int) == 0) = true := by rw [ht0]; rfl
            clear h20 ht0
            go_wp2_with fail
            go_returns
            exact ⟨Below.refl _ _, 0, true, rfl⟩
          · have q3 : ((t.size : Int) == 0) = false := by rw [beq_eq_false_iff_ne]; omega
            clear h20 ht0
            by_cases hy0 : y < -400
            · go_wp2_with fail
              go_returns
              exact ⟨Below.refl _ _, 0, true, rfl⟩
            · by_cases hy1 : 400 < y
              · go_wp2_with fail
                go_returns
                exact ⟨Below.refl _ _, 9218868437227405312, true, rfl⟩
              · have HNA := Lib.hid (show Calls Try.prog 34 #[.string t, .int .i64 10] wc (Gives (natOf 10 (nats t)) wc) from natural_walk t 10 wc (by omega) (by omega) fun i hi => HT.out.at_ i hi)
                have HNB := Lib.hid (show blen (natOf 10 (nats t)) ≤ 1200 by have := natOf_blen 10 (by omega) (nats t); rw [nats_length] at this; omega)
                obtain ⟨V, hV⟩ : ∃ V, V = natOf 10 (nats t) := ⟨_, rfl⟩
                rw [← hV] at HNA HNB
                have HSM := Lib.hid (fun w => show Calls Try.prog 51 #[.int .i64 1] w (Gives 1 w) from natSmall 1 w (by omega))
                clear hV
                by_cases hyp : 0 ≤ y
                · obtain ⟨m, rfl⟩ : ∃ m : Nat, y = (m : Int) := ⟨y.toNat, by omega⟩
                  go_wp2_with fail
                  refine HNA.out.mono ?_
                  rintro e w2 ⟨hb2, a, rfl, ha⟩
                  have HA := Lib.hid ha
                  have HB2 := Lib.hid hb2
                  clear ha hb2
                  go_wp2_with fail
                  refine (HSM.out _).mono ?_
                  rintro e w3 ⟨hb3, b, rfl, hb⟩
                  have HBN := Lib.hid hb
                  have HA3 := Lib.hid (HA.out.below hb3)
                  have HB3 := Lib.hid (HB2.out.trans (hb3.mono HB2.out.size))
                  have HPW := Lib.hid (show Calls Try.prog 52 #[a, .int .i64 10, .int .i64 m] w3 (Gives (V * 10 ^ m) w3) from natPower a V 10 m w3 HA3.out (by have := HNB.out; omega) (by omega))
                  have HPB := Lib.hid (blen_pow V 10 m 4 (by omega))
                  clear hb hb3
                  go_wp2_with fail
                  refine HPW.out.mono ?_
                  rintro e w4 ⟨hb4, c, rfl, hc⟩
                  have HB4 := Lib.hid (HB3.out.trans (hb4.mono HB3.out.size))
                  have HRW := Lib.hid (round_walk c b (V * 10 ^ m) 1 w4 hc (HBN.out.below hb4) (by omega) (by have := HPB.out; have := HNB.out; omega) (by decide))
                  clear hb4 hc
                  go_wp2_with fail
                  refine HRW.out.mono ?_
                  rintro e w5 ⟨hb5, rfl⟩
                  have HB5 := Lib.hid (HB4.out.trans (hb5.mono HB4.out.size))
                  clear hb5
                  go_wp2_with fail
                  go_returns
                  exact ⟨HB5.out, _, true, rfl⟩
                · obtain ⟨m, hm⟩ : ∃ m : Nat, m = (-y).toNat := ⟨_, rfl⟩
                  have em : -y = (m : Int) := by omega
                  have m4 : m ≤ 400 := by omega
                  clear hm
                  go_wp2_with fail
                  refine HNA.out.mono ?_
                  rintro e w2 ⟨hb2, a, rfl, ha⟩
                  have HA := Lib.hid ha
                  have HB2 := Lib.hid hb2
                  clear ha hb2
                  go_wp2_with fail
                  refine (HSM.out _).mono ?_
                  rintro e w3 ⟨hb3, b, rfl, hb⟩
                  have HBN := Lib.hid hb
                  have HA3 := Lib.hid (HA.out.below hb3)
                  have HB3 := Lib.hid (HB2.out.trans (hb3.mono HB2.out.size))
                  have HPW := Lib.hid (show Calls Try.prog 52 #[b, .int .i64 10, .int .i64 m] w3 (Gives (1 * 10 ^ m) w3) from natPower b 1 10 m w3 HBN.out (by have := blen_one; omega) (by omega))
                  have HPB := Lib.hid (blen_pow 1 10 m 4 (by omega))
                  clear hb hb3
                  go_wp2_with fail
                  refine HPW.out.mono ?_
                  rintro e w4 ⟨hb4, c, rfl, hc⟩
                  have HB4 := Lib.hid (HB3.out.trans (hb4.mono HB3.out.size))
                  have HRW := Lib.hid (round_walk a c V (1 * 10 ^ m) w4 (HA3.out.below hb4) hc (pos_pow m) (by have := HNB.out; omega) (by have := HPB.out; have := blen_one; omega))
                  clear hb4 hc
                  go_wp2_with fail
                  refine HRW.out.mono ?_
                  rintro e w5 ⟨hb5, rfl⟩
                  have HB5 := Lib.hid (HB4.out.trans (hb5.mono HB4.out.size))
                  clear hb5
                  go_wp2_with fail
                  go_returns
                  exact ⟨HB5.out, _, true, rfl⟩
end Go.Proofs.Ytefippeaalkmeaa.Nats
