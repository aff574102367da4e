/- The digits of a Base64 VLQ, as numbers; buffers of bytes that grow. No program in sight. -/
import Derived.Test.YtobhlppdolekoaaAid
import Derived.Test.YtobhlppdolekoaaBytes
import Derived.Test.YtobhlppdolekoaaProg
import Derived.Test.YtobhlppdolekoaaWtfL
import Derived.Handy
import Derived.WalkLawsBesides
import Derived.Deep.CutRange
import Derived.Deep.DeepCutAuto
import Derived.Deep.CutBlock
import Derived.Deep.DrawnRows
import Derived.Deep.LoopGhost
import Derived.Laws.BitsLemmas
import Derived.Lib.EndianBits
namespace Go.Proofs.Ytobhlppdolekoaa.Ch
open Go.RowKit Go.Proofs.Ytobhlppdolekoaa.Aid Go.Proofs.Ytobhlppdolekoaa.Bytes
/-- The digits of a number, five bits each, the lowest first; all but the last bear 32. -/
def enc (v : Nat) : List Nat := if h : v < 32 then [v] else (v % 32 + 32) :: enc (v / 32)
termination_by v
decreasing_by omega
theorem enc_small {v : Nat} (h : v < 32) : enc v = [v] := by rw [enc, dif_pos h]
theorem enc_big {v : Nat} (h : ¬ v < 32) : enc v = (v % 32 + 32) :: enc (v / 32) := by rw [enc, dif_neg h]
theorem enc_pos (v : Nat) : 0 < (enc v).length := by
  by_cases h : v < 32
  · rw [enc_small h]
    exact Nat.zero_lt_one
  · rw [enc_big h]
    simp
/-- What is said of digit j. -/
theorem enc_at (v : Nat) : ∀ j, j < (enc v).length → ∃ d, (enc v)[j]? = some d ∧ d < 64 ∧ d % 32 = v / 32 ^ j % 32 ∧ (32 ≤ d ↔ j + 1 < (enc v).length) := by
  induction v using Nat.strongRecOn with
  | _ v ih =>
    intro j hj
    by_cases h : v < 32
    · rw [enc_small h] at hj ⊢
      simp only [List.length_cons, List.length_nil] at hj ⊢
      obtain rfl : j = 0 := by omega
      exact ⟨v, rfl, by omega, by simp, by omega⟩
    · rw [enc_big h] at hj ⊢
      cases j with
      | zero =>
        refine ⟨v % 32 + 32, rfl, by omega, by simp, ?_⟩
        have := enc_pos (v / 32)
        simp only [List.length_cons]
        omega
      | succ j =>
        simp only [List.length_cons] at hj
        obtain ⟨d, h1, h2, h3, h4⟩ := ih (v / 32) (by omega) j (by omega)
        refine ⟨d, by simpa using h1, h2, ?_, ?_⟩
        · rw [h3, Nat.div_div_eq_div_mul, Nat.pow_succ, Nat.mul_comm]
        · simp only [List.length_cons]
          omega
theorem enc_length (k : Nat) : ∀ v, v < 32 ^ (k + 1) → (enc v).length ≤ k + 1 := by
  induction k with
  | zero =>
    intro v hv
    rw [enc_small (by omega)]
    simp
  | succ k ih =>
    intro v hv
    by_cases h : v < 32
    · rw [enc_small h]
      simp
    · rw [enc_big h]
      have := ih (v / 32) (by
        rw [Nat.div_lt_iff_lt_mul (by omega)]
        rwa [← Nat.pow_succ])
      simp only [List.length_cons]
      omega
theorem enc_all (v : Nat) : v < 32 ^ (enc v).length := by
  induction v using Nat.strongRecOn with
  | _ v ih =>
    by_cases h : v < 32
    · rw [enc_small h]
      simpa using h
    · rw [enc_big h]
      simp only [List.length_cons]
      have := ih (v / 32) (by omega)
      rw [Nat.pow_succ]
      rw [Nat.div_lt_iff_lt_mul (by omega)] at this
      exact this
/-- There are more digits just if something is left. -/
theorem enc_more (v : Nat) : ∀ j, j < (enc v).length → (0 < v / 32 ^ (j + 1) ↔ j + 1 < (enc v).length) := by
  induction v using Nat.strongRecOn with
  | _ v ih =>
    intro j hj
    by_cases h : v < 32
    · rw [enc_small h] at hj ⊢
      simp only [List.length_cons, List.length_nil] at hj ⊢
      obtain rfl : j = 0 := by omega
      simp only [Nat.zero_add, Nat.pow_one]
      omega
    · rw [enc_big h] at hj ⊢
      simp only [List.length_cons] at hj ⊢
      cases j with
      | zero =>
        have := enc_pos (v / 32)
        simp only [Nat.zero_add, Nat.pow_one]
        omega
      | succ j =>
        have h1 := ih (v / 32) (by omega) j (by omega)
        rw [Nat.div_div_eq_div_mul] at h1
        rw [show 32 ^ (j + 1 + 1) = 32 * 32 ^ (j + 1) from by rw [Nat.pow_succ, Nat.mul_comm]]
        omega
/-- One digit more: the low bits grow by it. -/
theorem low_succ (v j : Nat) : v % 32 ^ (j + 1) = v % 32 ^ j + v / 32 ^ j % 32 * 32 ^ j := by
  rw [Nat.pow_succ, Nat.mod_mul, Nat.mul_comm (32 ^ j)]
/-- The alphabet, as bytes. -/
def letters : List Nat := [65, 66, 67, 68, 69, 70, 71, 72, 73, 74, 75, 76, 77, 78, 79, 80, 81, 82, 83, 84, 85, 86, 87, 88, 89, 90, 97, 98, 99, 100, 101, 102, 103, 104, 105, 106, 107, 108, 109, 110, 111, 112, 113, 114, 115, 116, 117, 118, 119, 120, 121, 122, 48, 49, 50, 51, 52, 53, 54, 55, 56, 57, 43, 47]
def alpha (d : Nat) : Nat := letters.getD d 0
/-- The text of digits. -/
def txt (l : List Nat) : List Nat := l.map alpha
/-- The number that is written: the sign below. -/
def signed (n : Int) : Nat := if n < 0 then (-n).toNat * 2 + 1 else n.toNat * 2
def vlq (n : Int) : List Nat := txt (enc (signed n))
theorem alpha_all : ∀ k : Fin 64, alpha k.val < 128 ∧ 43 ≤ alpha k.val ∧ alpha k.val ≠ 44 ∧ alpha k.val ≠ 59 ∧ alpha k.val ≠ 34 := by decide +kernel
theorem alpha_lt (d : Nat) (h : d < 64) : alpha d < 128 ∧ 43 ≤ alpha d ∧ alpha d ≠ 44 ∧ alpha d ≠ 59 ∧ alpha d ≠ 34 := alpha_all ⟨d, h⟩
theorem signed_lt {n : Int} (h0 : -2147483648 < n) (h1 : n < 2147483648) : signed n < 4294967296 := by unfold signed; split <;> omega
theorem vlq_len {n : Int} (h0 : -2147483648 < n) (h1 : n < 2147483648) : 0 < (vlq n).length ∧ (vlq n).length ≤ 7 := by
  rw [vlq, txt, List.length_map]
  exact ⟨enc_pos _, enc_length 6 _ (by have := signed_lt h0 h1; omega)⟩
theorem enc_mem (v : Nat) : ∀ d ∈ enc v, d < 64 := by
  intro d hd
  obtain ⟨j, hj, rfl⟩ := List.getElem_of_mem hd
  obtain ⟨d', h1, h2, _⟩ := enc_at v j hj
  rw [List.getElem?_eq_getElem hj] at h1
  injection h1 with h1
  omega
theorem vlq_mem (n : Int) : ∀ b ∈ vlq n, b < 128 ∧ 43 ≤ b ∧ b ≠ 44 ∧ b ≠ 59 ∧ b ≠ 34 := by
  intro b hb
  simp only [vlq, txt, List.mem_map] at hb
  obtain ⟨d, hd, rfl⟩ := hb
  exact alpha_lt d (enc_mem _ d hd)
theorem take_snoc (v j d : Nat) (h : (enc v)[j]? = some d) : (enc v).take j ++ [d] = (enc v).take (j + 1) := by
  rw [List.take_add_one, h]
  rfl
/-- Digit j, by what is left. -/
theorem digit (v j : Nat) (h : j < (enc v).length) : (enc v)[j]? = some (v / 32 ^ j % 32 + if 0 < v / 32 ^ (j + 1) then 32 else 0) := by
  obtain ⟨d, h1, h2, h3, h4⟩ := enc_at v j h
  have h5 := enc_more v j h
  rw [h1]
  congr 1
  split <;> omega
theorem txt_snoc (l : List Nat) (d : Nat) : txt (l ++ [d]) = txt l ++ [alpha d] := by simp [txt]
/-- The number back. -/
def unsign (v : Nat) : Int := if v % 2 = 1 then -((v / 2 : Nat) : Int) else ((v / 2 : Nat) : Int)
theorem unsign_signed (n : Int) : unsign (signed n) = n := by
  unfold unsign signed
  split <;> split <;> omega
theorem signed_ne1 (n : Int) : signed n ≠ 1 := by unfold signed; split <;> omega

/-- A row that grew, and no other memory that was there: it lies where it lay, or in a new block. -/
structure Grew (w w' : World) (v v' : Value) : Prop where
  by_ : w.grownBy w' v.ownBlock
  nx : v'.ownBlock = v.ownBlock ∨ ∃ k, v'.ownBlock = some k ∧ w.heap.size ≤ k
theorem Grew.refl (w : World) (v : Value) : Grew w w v v := ⟨World.grownBy.refl _ _, .inl rfl⟩
theorem Grew.trans {a b c : World} {u v x : Value} (h : Grew a b u v) (k : Grew b c v x) : Grew a c u x := by
  refine ⟨⟨k.by_.os.trans h.by_.os, k.by_.tape.trans h.by_.tape, k.by_.output.trans h.by_.output, Nat.le_trans h.by_.size k.by_.size, fun i hi hne => ?_⟩, ?_⟩
  · refine (k.by_.block i (Nat.lt_of_lt_of_le hi h.by_.size) ?_).trans (h.by_.block i hi hne)
    rcases h.nx with e | ⟨j, e, hj⟩
    · rw [e]; exact hne
    · rw [e]; intro e'; injection e' with e'; omega
  · rcases k.nx with e | ⟨j, e, hj⟩
    · rw [e]; exact h.nx
    · exact .inr ⟨j, e, Nat.le_trans h.by_.size hj⟩
/-- The bytes of a row that is owned. -/
def Buf (w : World) (B : Nat) (v : Value) (l : List Nat) : Prop := w.ownsRow B 5 1 v l.length (ncells l)
theorem Buf.more {w : World} {B : Nat} {v : Value} {l x : List Nat} {m : Nat} (h : w.ownsRow B 5 1 v (l.length + m) (ncells l ++ ncells x)) (hm : m = x.length) : Buf w B v (l ++ x) := by
  subst hm
  rw [Buf, List.length_append, ncells_append]
  exact h
theorem own_slice {w : World} {base : Nat} {e : TypeId} {size n : Nat} {v : Value} {xs : List Value} (h : w.ownsRow base e size v n xs) : ∃ A c, v = .slice A n c := by
  obtain ⟨A, c, h, _⟩ := own_form h
  exact ⟨A, c, h⟩
theorem step_grew {W w' : World} {v : Value} {g n c : Nat} (h : W.grownBy w' v.ownBlock) (k : v.ownBlock = some g ∨ W.heap.size ≤ g) : Grew W w' v (.slice (some ⟨g, 0, none⟩) n c) := by
  refine ⟨h, ?_⟩
  rcases k with k | k
  · left; rw [k]; rfl
  · right; exact ⟨g, rfl, k⟩
end Go.Proofs.Ytobhlppdolekoaa.Ch
/- encodeVLQ: a number is written behind bytes. The walk. -/
namespace Go.Proofs.Ytobhlppdolekoaa.Ch
open Go.RowKit Go.Proofs.Ytobhlppdolekoaa.Aid Go.Proofs.Ytobhlppdolekoaa.Bytes
attribute [local go_sem ↓] Go.wp_at_zero Go.wp_at_succ
set_option linter.unusedVariables false
theorem wraps_i64 (n : Int) (h0 : 0 ≤ n) (h1 : n < 2 ^ 63) : IntKind.i64.wrap n = n := by rw [IntKind.wrap_i64]; omega
theorem and31 (x : Nat) (h : x < 2 ^ 63) : bits .and .i64 (x : Int) 31 = ((x % 32 : Nat) : Int) := by
  have := bits_mask .i64 63 (by decide) wraps_i64 5 (by decide) (x : Int) (by omega) (by exact_mod_cast h)
  rw [show ((2 : Int) ^ 5 - 1) = 31 from rfl] at this
  rw [this]
  omega
theorem or32 (d : Nat) (h : d < 32) : bits .or .i64 (d : Int) 32 = ((d + 32 : Nat) : Int) := by
  have := bits_join_low .i64 63 (by decide) wraps_i64 5 (d : Int) 32 (by omega) (by omega) (by omega) (by omega) (by decide) (by decide)
  rw [this]
  omega
theorem or1 (x : Int) (h0 : 0 ≤ x) (h1 : x < 2 ^ 62) : bits .or .i64 (x * 2) 1 = x * 2 + 1 :=
  bits_join .i64 63 (by decide) wraps_i64 1 (x * 2) 1 (by omega) (by omega) (by omega) (by omega) (by omega) (by omega)
theorem one_int (k : IntKind) (x : Int) : ∀ u ∈ [Value.int k x], u.oneCell' = true := by
  intro u hu
  rw [List.mem_singleton.1 hu]
  rfl
def LB : ByteArray := ⟨#[65, 66, 67, 68, 69, 70, 71, 72, 73, 74, 75, 76, 77, 78, 79, 80, 81, 82, 83, 84, 85, 86, 87, 88, 89, 90, 97, 98, 99, 100, 101, 102, 103, 104, 105, 106, 107, 108, 109, 110, 111, 112, 113, 114, 115, 116, 117, 118, 119, 120, 121, 122, 48, 49, 50, 51, 52, 53, 54, 55, 56, 57, 43, 47]⟩
theorem alpha_val : ∀ k : Fin 64, (LB[k.val]'k.isLt).toNat = alpha k.val := by decide +kernel
/-- A digit out of the package's constant. -/
theorem alpha_at (d : Nat) (h : d < 64) (w : World) : (Instr.index 9 (.string ⟨#[65, 66, 67, 68, 69, 70, 71, 72, 73, 74, 75, 76, 77, 78, 79, 80, 81, 82, 83, 84, 85, 86, 87, 88, 89, 90, 97, 98, 99, 100, 101, 102, 103, 104, 105, 106, 107, 108, 109, 110, 111, 112, 113, 114, 115, 116, 117, 118, 119, 120, 121, 122, 48, 49, 50, 51, 52, 53, 54, 55, 56, 57, 43, 47]⟩) (.int .i64 d)).run Try.prog w = .ok (.int .u8 (alpha d)) w := by
  have h1 := alpha_val ⟨d, h⟩
  have hs : LB.size = 64 := rfl
  show (Instr.index 9 (.string LB) (.int .i64 d)).run Try.prog w = _
  rw [run_index_string w 9 LB .i64 d Try.underlying9, dif_pos ⟨by omega, by omega⟩]
  have h1' : (LB[(d : Int).toNat]'(by omega)).toNat = alpha d := h1
  rw [h1']
set_option maxRecDepth 100000 in
set_option maxHeartbeats 4000000 in
theorem encode (B : Nat) (v : Value) (l : List Nat) (n : Int) (w : World) (h : Buf w B v l) (hB : B ≤ w.heap.size) (hl : l.length ≤ 100000000000) (h0 : -2147483648 < n) (h1 : n < 2147483648) :
    Calls Try.prog 53 #[v, .int .i64 n] w fun e w' => ∃ v', e = .returned v' ∧ Buf w' B v' (l ++ vlq n) ∧ Grew w w' v v' := by
  obtain ⟨i0, hi, hz0, hz1, hz2⟩ := info_parts Wtf.info5
  obtain ⟨A, c, rfl⟩ := own_slice h
  obtain ⟨s, hs⟩ : ∃ s, s = signed n := ⟨_, rfl⟩
  have hlt : s < 4294967296 := by rw [hs]; exact signed_lt h0 h1
  have hq : vlq n = txt (enc s) := by rw [vlq, hs]
  rw [hq]
  have HS := Lib.hid hs
  have HBUF := Lib.hid h
  clear hs hq h
  go_enter Try.func53, Try.ntmps53
  go_upto_if 9 with fail
  go_cut [5] (fun x wx => x = .int .i64 s ∧ wx = w)
  case first =>
    by_cases hn : n < 0
    · have ho := or1 (-n) (by omega) (by omega)
      rw [show -n * 2 + 1 = (s : Int) from by rw [HS.out, signed, if_pos hn]; omega] at ho
      go_wp2_with fail
      go_meet
      exact ⟨rfl, rfl⟩
    · have he : n * 2 = (s : Int) := by rw [HS.out, signed, if_neg hn]; omega
      go_wp2_with fail
      go_meet
      exact ⟨rfl, rfl⟩
  case rest =>
    obtain ⟨rfl, rfl⟩ := hcut
    by_cases hsm : s < 32
    · have t1 : (s : Int) / 32 = 0 := by omega
      have ha := and31 s (by omega)
      rw [show s % 32 = s from by omega] at ha
      have hx := alpha_at s (by omega)
      have HE := Lib.hid (enc_small hsm)
      go_wp2_with (at_builtin; refine wpList_append_new rfl _ _ 25 rfl B 5 i0 _ 1 1 Try.underlying25 hi hz0 hz1 hz2 rfl (by omega) (.slice A l.length c) l.length (ncells l) rfl HBUF.out [.int .u8 (alpha s)] rfl rfl (one_int _ _) ?c3 ?c4 ?c5 ?_)
      case c3 => unfold maxLen; omega
      case c4 => omega
      intro g cap w' hown hg hnx
      have HO := Lib.hid hown
      have HG := Lib.hid (step_grew (n := l.length + 1) (c := cap) hg hnx)
      clear hown hg hnx
      go_wp2_with fail
      go_returns
      refine ⟨_, rfl, ?_, HG.out⟩
      rw [HE.out]
      exact Buf.more HO.out rfl
    · have t1 : ((s : Int) / 32 == 0) = false := by simp; omega
      obtain ⟨W, hW⟩ : ∃ W, W = wc := ⟨_, rfl⟩
      subst hW
      go_wp2_with fail
      go_loopw [0, 5] (fun y x wr => ∃ (j : Nat), j < (enc s).length ∧ x = .int .i64 ((s / 32 ^ j : Nat) : Int) ∧ Aside (Buf wr B y (l ++ txt ((enc s).take j)) ∧ Grew W wr (.slice A l.length c) y)) (fun _ x _ => (intOf x).toNat)
      case atStart => exact ⟨0, enc_pos s, by simp, ⟨by simpa [txt] using HBUF.out, Grew.refl _ _⟩⟩
      case round =>
        obtain ⟨j, hj, rfl, HA⟩ := hrel
        have hd := digit s j hj
        have hmo := enc_more s j hj
        have hdiv : s / 32 ^ (j + 1) = s / 32 ^ j / 32 := by rw [Nat.pow_succ, Nat.div_div_eq_div_mul]
        have hxl : s / 32 ^ j ≤ s := Nat.div_le_self _ _
        have hlen7 := enc_length 6 s (by omega)
        obtain ⟨x, hx⟩ : ∃ x, x = s / 32 ^ j := ⟨_, rfl⟩
        rw [hdiv] at hd hmo
        rw [← hx] at hd hmo hxl hdiv ⊢
        have ha := and31 x (by omega)
        obtain ⟨d, hde⟩ : ∃ d, d = x % 32 + if 0 < x / 32 then 32 else 0 := ⟨_, rfl⟩
        rw [← hde] at hd
        have hd64 : d < 64 := by rw [hde]; split <;> omega
        have ho2 := or32 (x % 32) (by omega)
        obtain ⟨m, hm⟩ : ∃ m : Nat, m = x % 32 := ⟨_, rfl⟩
        rw [← hm] at ho2 ha
        have hdm : d = if 0 < x / 32 then m + 32 else m := by rw [hde, hm]; split <;> omega
        have HX := Lib.hid hx
        have HD := Lib.hid hd
        have HDIV := Lib.hid hdiv
        have HMO := Lib.hid hmo
        have HDM := Lib.hid hdm
        obtain ⟨A1, c1, rfl⟩ := own_slice HA.out.1
        have HLEN : (l ++ txt ((enc s).take j)).length ≤ 100000000010 := by simp [txt]; omega
        obtain ⟨L, hL⟩ : ∃ L, L = l ++ txt ((enc s).take j) := ⟨_, rfl⟩
        rw [← hL] at HA HLEN ⊢
        have HL := Lib.hid hL
        clear hd hmo hdiv hx hde hm hdm hL
        go_upto_if 32 with fail
        go_cut [7] (fun t wx => t = .int .i64 d ∧ wx = wr)
        case first =>
          by_cases hmore : 0 < x / 32
          · have hm1 : (0 : Int) < (x : Int) / 32 := by omega
            have hm2 : ((x : Int) / 32 == 0) = false := by simp; omega
            have HE := HDM.out
            rw [if_pos hmore] at HE
            go_wp2_with fail
            go_meet
            exact ⟨val_int (by omega), rfl⟩
          · have hm1 : (x : Int) / 32 = 0 := by omega
            have HE := HDM.out
            rw [if_neg hmore] at HE
            rw [← HE]
            go_wp2_with fail
            go_meet
            exact ⟨rfl, rfl⟩
        case rest =>
          obtain ⟨rfl, rfl⟩ := hcut
          have hx := alpha_at d (by omega)
          have HB := Lib.hid (Nat.le_trans hB HA.out.2.by_.size)
          go_wp2_with (at_builtin; refine wpList_append_new rfl _ _ 25 rfl B 5 i0 _ 1 1 Try.underlying25 hi hz0 hz1 hz2 rfl (by omega) (.slice A1 L.length c1) L.length (ncells L) rfl HA.out.1 [.int .u8 (alpha d)] rfl rfl (one_int _ _) ?c3 ?c4 HB.out ?_)
          case c3 => unfold maxLen; omega
          case c4 => omega
          intro g cap w' hown hg hnx
          have HO := Lib.hid hown
          have HG := Lib.hid (HA.out.2.trans (step_grew (n := L.length + 1) (c := cap) hg hnx))
          clear hown hg hnx
          have HN := Lib.hid (show Buf w' B (.slice (some ⟨g, 0, none⟩) (L.length + 1) cap) (l ++ txt ((enc s).take (j + 1))) by
            rw [← take_snoc s j d HD.out, txt_snoc, ← List.append_assoc, ← HL.out]
            exact Buf.more HO.out rfl)
          by_cases hmore : 0 < x / 32
          · have hm2 : ((x : Int) / 32 == 0) = false := by simp; omega
            go_wp2_with fail
            go_roundw
            case rel => exact ⟨j + 1, HMO.out.1 hmore, by rw [HDIV.out]; rfl, ⟨HN.out, HG.out⟩⟩
            case measure => simp [intOf]; omega
          · have hm1 : (x : Int) / 32 = 0 := by omega
            have HEQ := Lib.hid (show j + 1 = (enc s).length by
              rcases Nat.lt_or_ge (j + 1) (enc s).length with h | h
              · exact absurd (HMO.out.2 h) hmore
              · omega)
            go_wp2_with fail
            go_returns
            refine ⟨_, rfl, ?_, HG.out⟩
            have := HN.out
            rw [HEQ.out, List.take_length] at this
            exact this
end Go.Proofs.Ytobhlppdolekoaa.Ch
