/- The reference VLQText: a number is written as its digits. The walk. -/
import Derived.Test.YtdcojgkblfobnaaProg
import Derived.Test.YtdcojgkblfobnaaAid
import Derived.Test.YtdcojgkblfobnaaVlqA
import Derived.Handy
import Derived.WalkLawsBesides
import Derived.Deep.DrawnRows
import Derived.Laws.BitsLemmas
import Derived.Lib.EndianBits
namespace Go.Proofs.Ytdcojgkblfobnaa.Vlq
open Go.RowKit Go.Proofs.Ytdcojgkblfobnaa.Aid
attribute [local go_sem ↓] Go.wp_at_zero Go.wp_at_succ
theorem wraps_i64 (n : Int) (h0 : 0 ≤ n) (h1 : n < 2 ^ 63) : IntKind.i64.wrap n = n := by rw [IntKind.wrap_i64]; omega
theorem and31 (x : Nat) (h : x < 2 ^ 63) : bits .and .i64 (x : Int) 31 = ((x % 32 : Nat) : Int) := by
  have := bits_mask .i64 63 (by decide) wraps_i64 5 (by decide) (x : Int) (by omega) (by exact_mod_cast h)
  rw [show ((2 : Int) ^ 5 - 1) = 31 from rfl] at this
  rw [this]
  omega
theorem or32 (d : Nat) (h : d < 32) : bits .or .i64 (d : Int) 32 = ((d + 32 : Nat) : Int) := by
  have := bits_join_low .i64 63 (by decide) wraps_i64 5 (d : Int) 32 (by omega) (by omega) (by omega) (by omega) (by decide) (by decide)
  rw [this]
  omega
theorem or1 (x : Int) (h0 : 0 ≤ x) (h1 : x < 2 ^ 62) : bits .or .i64 (x * 2) 1 = x * 2 + 1 :=
  bits_join .i64 63 (by decide) wraps_i64 1 (x * 2) 1 (by omega) (by omega) (by omega) (by omega) (by omega) (by omega)
/-- One letter out of the alphabet. -/
theorem letter (d : Nat) (h : d < 64) (w : World) : (Instr.slice 9 (.string letters) (some (.int .i64 d)) (some (.int .i64 ((d : Int) + 1))) none).run Try.prog w = .ok (.string ⟨#[alpha d]⟩) w := by
  have h2 : (0 : Int) ≤ (d : Int) + 1 := by omega
  have h3 : (d : Int) ≤ (((d : Int) + 1).toNat : Int) := by omega
  have h4 : ¬ (((d : Int) + 1).toNat : Int) < d := by omega
  have h5 : max (d : Int) 0 ≤ (d : Int) + 1 := by omega
  have h1 : (d : Int) + 1 ≤ (letters.size : Int) := by have : letters.size = 64 := rfl; omega
  have hb := run_sliceBound (P := Try.prog) w .i64 (d : Int) ((d : Int) + 1).toNat BoundsCode.sliceB (by omega) (by omega)
  have hx : letters.extract d (d + 1) = ⟨#[alpha d]⟩ := by
    have : ∀ k : Fin 64, (letters.extract k.val (k.val + 1)).data.toList = [alpha k.val] := by decide +kernel
    have e := this ⟨d, h⟩
    apply ByteArray.ext
    apply Array.toList_inj.1
    exact e
  have ht : ((d : Int) + 1).toNat = d + 1 := by omega
  rw [ht] at hb
  simp [Instr.slice, run_underlying Try.underlying9, Instr.sliceBounds, run_sliceBound, *]
theorem letter_lit (d : Nat) (h : d < 64) (w : World) : (Instr.slice 9 (.string ⟨#[65, 66, 67, 68, 69, 70, 71, 72, 73, 74, 75, 76, 77, 78, 79, 80, 81, 82, 83, 84, 85, 86, 87, 88, 89, 90, 97, 98, 99, 100, 101, 102, 103, 104, 105, 106, 107, 108, 109, 110, 111, 112, 113, 114, 115, 116, 117, 118, 119, 120, 121, 122, 48, 49, 50, 51, 52, 53, 54, 55, 56, 57, 43, 47]⟩) (some (.int .i64 d)) (some (.int .i64 ((d : Int) + 1))) none).run Try.prog w = .ok (.string ⟨#[alpha d]⟩) w := letter d h w
theorem txt_snoc (l : List Nat) (d : Nat) : (⟨(txt l).toArray⟩ : ByteArray) ++ ⟨#[alpha d]⟩ = ⟨(txt (l ++ [d])).toArray⟩ := by
  apply ByteArray.ext
  rw [ByteArray.data_append]
  apply Array.toList_inj.1
  simp [txt]
theorem take_snoc (v j d : Nat) (h : (enc v)[j]? = some d) : (enc v).take j ++ [d] = (enc v).take (j + 1) := by
  rw [List.take_add_one, h]
  rfl
/-- Digit j, by what is left. -/
theorem digit (v j : Nat) (h : j < (enc v).length) : (enc v)[j]? = some (v / 32 ^ j % 32 + if 0 < v / 32 ^ (j + 1) then 32 else 0) := by
  obtain ⟨d, h1, h2, h3, h4⟩ := enc_at v j h
  have h5 := enc_more v j h
  rw [h1]
  congr 1
  split <;> omega
set_option maxRecDepth 100000 in
set_option maxHeartbeats 2000000 in
theorem vlqText (n : Int) (w : World) (h0 : -2147483648 < n) (h1 : n < 2147483648) :
    Calls Try.prog 29 #[.int .i64 n] w fun e w' => e = .returned (.string ⟨(txt (enc (signed n))).toArray⟩) ∧ w' = w := by
  obtain ⟨v, hv⟩ : ∃ v, v = signed n := ⟨_, rfl⟩
  have hlt : v < 4294967296 := by rw [hv]; unfold signed; split <;> omega
  rw [← hv]
  have HV := Lib.hid hv
  clear hv
  by_cases hn : n < 0
  · have ho := or1 (-n) (by omega) (by omega)
    rw [show -n * 2 + 1 = (v : Int) from by rw [HV.out, signed, if_pos hn]; omega] at ho
    go_enter Try.func29, Try.ntmps29
    go_wp2_with fail
    go_loopw [3, 4] (fun x o wr => ∃ j : Nat, j < (enc v).length ∧ x = .int .i64 ((v / 32 ^ j : Nat) : Int) ∧ o = .string ⟨(txt ((enc v).take j)).toArray⟩ ∧ wr = w) (fun x _ _ => (intOf x).toNat)
    case atStart => exact ⟨0, enc_pos v, by simp, rfl, rfl⟩
    case round =>
      obtain ⟨j, hj, rfl, rfl, rfl⟩ := hrel
      have hd := digit v j hj
      have hmo := enc_more v j hj
      have hdiv : v / 32 ^ (j + 1) = v / 32 ^ j / 32 := by rw [Nat.pow_succ, Nat.div_div_eq_div_mul]
      have hxl : v / 32 ^ j ≤ v := Nat.div_le_self _ _
      obtain ⟨x, hx⟩ : ∃ x, x = v / 32 ^ j := ⟨_, rfl⟩
      rw [hdiv] at hd hmo
      rw [← hx] at hd hmo hxl hdiv ⊢
      have ha := and31 x (by omega)
      have htl := Nat.le_of_lt hj
      have HX := Lib.hid hx
      have HD := Lib.hid hd
      have HDIV := Lib.hid hdiv
      have HMO := Lib.hid hmo
      clear hd hmo hdiv hx
      have hlen7 := enc_length 6 v (by omega)
      have hno : ¬ 9223372036854775807 < (txt ((enc v).take j)).length + 1 := by
        have : (txt ((enc v).take j)).length ≤ j := by rw [txt, List.length_map, List.length_take]; omega
        omega
      by_cases hmore : 0 < x / 32
      · have hm1 : (0 : Int) < (x : Int) / 32 := by omega
        have hm2 : ((x : Int) / 32 == 0) = false := by simp; omega
        have ho2 := or32 (x % 32) (by omega)
        have hl := letter_lit (x % 32 + 32) (by omega)
        obtain ⟨z, hz⟩ : ∃ z : Int, z = ((x % 32 : Nat) : Int) := ⟨_, rfl⟩
        obtain ⟨y, hy⟩ : ∃ y : Int, y = ((x % 32 + 32 : Nat) : Int) := ⟨_, rfl⟩
        have y0 : 0 ≤ y := by omega
        have y1 : y ≤ 63 := by omega
        rw [← hy] at ho2 hl
        rw [← hz] at ho2 ha
        clear hy hz
        go_wp2_with fail
        go_roundw
        case rel =>
          refine ⟨j + 1, HMO.out.1 hmore, by rw [HDIV.out]; rfl, ?_, trivial⟩
          rw [txt_snoc, take_snoc v j _ (by rw [HD.out, if_pos hmore])]
        case measure => simp [intOf]; omega
      · have hm1 : (x : Int) / 32 = 0 := by omega
        have hl := letter_lit (x % 32) (by omega)
        obtain ⟨y, hy⟩ : ∃ y : Int, y = ((x % 32 : Nat) : Int) := ⟨_, rfl⟩
        have y0 : 0 ≤ y := by omega
        have y1 : y ≤ 31 := by omega
        rw [← hy] at hl ha
        clear hy
        go_wp2_with fail
        go_returns
        refine ⟨?_, rfl⟩
        have hl1 : j + 1 = (enc v).length := by
          rcases Nat.lt_or_ge (j + 1) (enc v).length with h | h
          · exact absurd (HMO.out.2 h) hmore
          · omega
        have he := txt_snoc ((enc v).take j) (x % 32)
        rw [take_snoc v j _ (by rw [HD.out, if_neg hmore]; rfl), hl1, List.take_length] at he
        rw [← he]
        rfl
  · have he : n * 2 = (v : Int) := by rw [HV.out, signed, if_neg hn]; omega
    go_enter Try.func29, Try.ntmps29
    go_wp2_with fail
    go_loopw [3, 4] (fun x o wr => ∃ j : Nat, j < (enc v).length ∧ x = .int .i64 ((v / 32 ^ j : Nat) : Int) ∧ o = .string ⟨(txt ((enc v).take j)).toArray⟩ ∧ wr = w) (fun x _ _ => (intOf x).toNat)
    case atStart => exact ⟨0, enc_pos v, by simp, rfl, rfl⟩
    case round =>
      obtain ⟨j, hj, rfl, rfl, rfl⟩ := hrel
      have hd := digit v j hj
      have hmo := enc_more v j hj
      have hdiv : v / 32 ^ (j + 1) = v / 32 ^ j / 32 := by rw [Nat.pow_succ, Nat.div_div_eq_div_mul]
      have hxl : v / 32 ^ j ≤ v := Nat.div_le_self _ _
      obtain ⟨x, hx⟩ : ∃ x, x = v / 32 ^ j := ⟨_, rfl⟩
      rw [hdiv] at hd hmo
      rw [← hx] at hd hmo hxl hdiv ⊢
      have ha := and31 x (by omega)
      have htl := Nat.le_of_lt hj
      have HX := Lib.hid hx
      have HD := Lib.hid hd
      have HDIV := Lib.hid hdiv
      have HMO := Lib.hid hmo
      clear hd hmo hdiv hx
      have hlen7 := enc_length 6 v (by omega)
      have hno : ¬ 9223372036854775807 < (txt ((enc v).take j)).length + 1 := by
        have : (txt ((enc v).take j)).length ≤ j := by rw [txt, List.length_map, List.length_take]; omega
        omega
      by_cases hmore : 0 < x / 32
      · have hm1 : (0 : Int) < (x : Int) / 32 := by omega
        have hm2 : ((x : Int) / 32 == 0) = false := by simp; omega
        have ho2 := or32 (x % 32) (by omega)
        have hl := letter_lit (x % 32 + 32) (by omega)
        obtain ⟨z, hz⟩ : ∃ z : Int, z = ((x % 32 : Nat) : Int) := ⟨_, rfl⟩
        obtain ⟨y, hy⟩ : ∃ y : Int, y = ((x % 32 + 32 : Nat) : Int) := ⟨_, rfl⟩
        have y0 : 0 ≤ y := by omega
        have y1 : y ≤ 63 := by omega
        rw [← hy] at ho2 hl
        rw [← hz] at ho2 ha
        clear hy hz
        go_wp2_with fail
        go_roundw
        case rel =>
          refine ⟨j + 1, HMO.out.1 hmore, by rw [HDIV.out]; rfl, ?_, trivial⟩
          rw [txt_snoc, take_snoc v j _ (by rw [HD.out, if_pos hmore])]
        case measure => simp [intOf]; omega
      · have hm1 : (x : Int) / 32 = 0 := by omega
        have hl := letter_lit (x % 32) (by omega)
        obtain ⟨y, hy⟩ : ∃ y : Int, y = ((x % 32 : Nat) : Int) := ⟨_, rfl⟩
        have y0 : 0 ≤ y := by omega
        have y1 : y ≤ 31 := by omega
        rw [← hy] at hl ha
        clear hy
        go_wp2_with fail
        go_returns
        refine ⟨?_, rfl⟩
        have hl1 : j + 1 = (enc v).length := by
          rcases Nat.lt_or_ge (j + 1) (enc v).length with h | h
          · exact absurd (HMO.out.2 h) hmore
          · omega
        have he := txt_snoc ((enc v).take j) (x % 32)
        rw [take_snoc v j _ (by rw [HD.out, if_neg hmore]; rfl), hl1, List.take_length] at he
        rw [← he]
        rfl
end Go.Proofs.Ytdcojgkblfobnaa.Vlq
