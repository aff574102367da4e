/- The escaped text, by the places of a text. No program in sight. -/
import Derived.Test.YtjhglhckdjnkgaaDoorPlaces
import Derived.Test.YtjhglhckdjnkgaaDoorUrl
import Derived.Lib.Builder
import Derived.Lib.AppendStr
import Derived.Lib.UnsafeStr
namespace Go.Proofs.YtjhglhckdjnkgaaDoor.Url
open Go.Proofs.YtjhglhckdjnkgaaDoor.Runes
set_option linter.unusedVariables false
/-- A text's bytes as numbers; bytes as a text; bytes as cells. -/
def nats (s : ByteArray) : List Nat := s.data.toList.map UInt8.toNat
def str (l : List Nat) : ByteArray := ⟨(l.map UInt8.ofNat).toArray⟩
def ncells (l : List Nat) : List Value := l.map fun (n : Nat) => .int .u8 (n : Int)
theorem nats_length (s : ByteArray) : (nats s).length = s.size := by
  rw [nats, List.length_map, Array.length_toList]
  rfl
theorem nats_get (s : ByteArray) (i : Nat) (h : i < s.size) : (nats s)[i]? = some (byt s i) := by
  rw [byt_eq s i h, nats, List.getElem?_map]
  have : s.data.toList[i]? = some (s[i]'h) := by
    rw [Array.getElem?_toList, Array.getElem?_eq_getElem h]
    rfl
  rw [this]
  rfl
theorem nats_lt (s : ByteArray) : ∀ b ∈ nats s, b < 256 := by
  intro b hb
  simp only [nats, List.mem_map] at hb
  obtain ⟨x, _, rfl⟩ := hb
  exact x.toNat_lt
theorem nats_str (l : List Nat) (h : ∀ b ∈ l, b < 256) : nats (str l) = l := by
  simp only [nats, str, List.map_map]
  conv => rhs; rw [← List.map_id l]
  refine List.map_congr_left fun b hb => ?_
  simp only [Function.comp, UInt8.toNat_ofNat', id]
  exact Nat.mod_eq_of_lt (h b hb)
theorem str_nats (s : ByteArray) : str (nats s) = s := by
  apply ByteArray.ext
  apply Array.toList_inj.1
  simp only [str, nats, List.map_map]
  conv => rhs; rw [← List.map_id s.data.toList]
  exact List.map_congr_left fun b _ => by simp
theorem str_append (a b : List Nat) : str (a ++ b) = str a ++ str b := by
  apply ByteArray.ext
  apply Array.toList_inj.1
  simp [str, ByteArray.data_append]
theorem str_size (l : List Nat) : (str l).size = l.length := by simp [str, ByteArray.size]
theorem nats_append (a b : ByteArray) : nats (a ++ b) = nats a ++ nats b := by simp [nats, ByteArray.data_append]
theorem str_cells (s : ByteArray) : Lib.strCells s = ncells (nats s) := by simp [Lib.strCells, ncells, nats, List.map_map, Function.comp]
theorem byte_cells (l : List Nat) (h : ∀ b ∈ l, b < 256) : ncells l = Lib.byteCells (l.map UInt8.ofNat) := by
  simp only [ncells, Lib.byteCells, List.map_map]
  refine List.map_congr_left fun b hb => ?_
  simp only [Function.comp, UInt8.toNat_ofNat']
  rw [Nat.mod_eq_of_lt (h b hb)]
theorem ncells_append (a b : List Nat) : ncells (a ++ b) = ncells a ++ ncells b := by simp [ncells]
/-- What stands between two places. -/
def cut (s : ByteArray) (a b : Nat) : List Nat := ((nats s).drop a).take (b - a)
theorem nats_extract (s : ByteArray) (a b : Nat) : nats (s.extract a b) = cut s a b := by
  simp [nats, cut, ByteArray.data_extract, Array.toList_extract, List.extract, List.map_take, List.map_drop]
theorem drop_next (s : ByteArray) (i : Nat) (h : i < s.size) : (nats s).drop i = byt s i :: (nats s).drop (i + 1) := by
  have hl := nats_length s
  have hg := nats_get s i h
  rw [List.drop_eq_getElem_cons (by omega)]
  congr 1
  rw [List.getElem?_eq_getElem (by omega)] at hg
  exact Option.some.inj hg
theorem cut_self (s : ByteArray) (a : Nat) : cut s a a = [] := by simp [cut]
theorem cut_next (s : ByteArray) (a b : Nat) (h : a ≤ b) (hb : b < s.size) : cut s a (b + 1) = cut s a b ++ [byt s b] := by
  have hl := nats_length s
  have hg := nats_get s b hb
  unfold cut
  rw [show b + 1 - a = (b - a) + 1 from by omega, List.take_add_one, List.getElem?_drop, show a + (b - a) = b from by omega, hg]
  rfl
theorem cut_drop (s : ByteArray) (a b : Nat) (h : a ≤ b) : cut s a b ++ (nats s).drop b = (nats s).drop a := by
  unfold cut
  have := List.take_append_drop (b - a) ((nats s).drop a)
  rw [List.drop_drop, show a + (b - a) = b from by omega] at this
  exact this
theorem cut_length (s : ByteArray) (a b : Nat) (hb : b ≤ s.size) : (cut s a b).length = b - a := by
  have hl := nats_length s
  unfold cut
  rw [List.length_take, List.length_drop]
  omega
theorem cut_lt (s : ByteArray) (a b : Nat) : ∀ x ∈ cut s a b, x < 256 := fun x hx => nats_lt s x (List.mem_of_mem_drop (List.mem_of_mem_take hx))
theorem enc_esc (s : ByteArray) (i : Nat) (h : i < s.size) (e : escB (byt s i) ((nats s).drop (i + 1)) = true) : encL ((nats s).drop i) = [37, hx (byt s i / 16), hx (byt s i % 16)] ++ encL ((nats s).drop (i + 1)) := by
  rw [drop_next s i h, encL, if_pos e]
theorem enc_raw (s : ByteArray) (i : Nat) (h : i < s.size) (e : escB (byt s i) ((nats s).drop (i + 1)) = false) : encL ((nats s).drop i) = [byt s i] ++ encL ((nats s).drop (i + 1)) := by
  rw [drop_next s i h, encL, e]
  rfl
theorem esc_high (b : Nat) (r : List Nat) (h : 128 ≤ b) : escB b r = false := by
  have h1 : ctl b = false := by simp [ctl]; omega
  have h2 : decide (b = 35) = false := by simp; omega
  have h3 : (b :: r).all trailB = false := by
    have : trailB b = false := by simp [trailB]; omega
    simp [this]
  have h4 : decide (b = 37) = false := by simp; omega
  simp only [escB, h1, h2, h3, h4, Bool.false_and, Bool.or_false]
theorem rune_high {s : ByteArray} {i r n : Nat} (h : rune s i = (r, n)) (hn : 1 < n) : ∀ j, j < n → 128 ≤ byt s (i + j) := by
  have hd := (rune_pos h (by omega)).2.1
  rw [decode_eq] at hd
  intro j hj
  repeat' split at hd
  all_goals
    injection hd with ha hb
    first
      | omega
      | (match j, hj with
         | 0, _ => rw [Nat.add_zero]; omega
         | 1, _ => omega
         | 2, _ => omega
         | 3, _ => omega
         | j + 4, hj => omega)
theorem enc_run (s : ByteArray) (i n : Nat) (h : ∀ j, j < n → i + j < s.size ∧ escB (byt s (i + j)) ((nats s).drop (i + j + 1)) = false) : encL ((nats s).drop i) = cut s i (i + n) ++ encL ((nats s).drop (i + n)) := by
  induction n with
  | zero => rw [Nat.add_zero, cut_self]; rfl
  | succ n ih =>
    rw [ih (fun j hj => h j (by omega))]
    have hn := h n (by omega)
    rw [enc_raw s (i + n) hn.1 hn.2, ← Nat.add_assoc, cut_next s i (i + n) (by omega) hn.1, List.append_assoc]
theorem cut_cat (s : ByteArray) (a b c : Nat) (h : a ≤ b) (h' : b ≤ c) (hc : c ≤ s.size) : cut s a b ++ cut s b c = cut s a c := by
  induction c with
  | zero =>
    obtain rfl : b = 0 := by omega
    rw [cut_self, List.append_nil]
  | succ c ih =>
    rcases Nat.lt_or_ge c b with hlt | hge
    · obtain rfl : b = c + 1 := by omega
      rw [cut_self, List.append_nil]
    · rw [cut_next s b c hge (by omega), cut_next s a c (by omega) (by omega), ← List.append_assoc, ih hge (by omega)]
/-- From a place on only bytes that are escaped at the end. -/
def Tail (s : ByteArray) (t : Nat) : Prop := t ≤ s.size ∧ (∀ j, t ≤ j → j < s.size → trailB (byt s j) = true) ∧ (t = 0 ∨ trailB (byt s (t - 1)) = false)
theorem tail_all (s : ByteArray) (t : Nat) (h : Tail s t) (i : Nat) (hi : i < s.size) : ((nats s).drop i).all trailB = decide (t ≤ i) := by
  have hl := nats_length s
  by_cases hti : t ≤ i
  · rw [decide_eq_true hti, List.all_eq_true]
    intro x hx
    obtain ⟨j, hj, rfl⟩ := List.mem_iff_getElem.1 hx
    rw [List.length_drop] at hj
    rw [List.getElem_drop]
    have hg := nats_get s (i + j) (by omega)
    rw [List.getElem?_eq_getElem (by omega)] at hg
    rw [Option.some.inj hg]
    exact h.2.1 (i + j) (by omega) (by omega)
  · rw [decide_eq_false hti, List.all_eq_false]
    have hlt : t - 1 < s.size := by have := h.1; omega
    refine ⟨byt s (t - 1), ?_, ?_⟩
    · have hg := nats_get s (t - 1) hlt
      have : ((nats s).drop i)[t - 1 - i]? = some (byt s (t - 1)) := by rw [List.getElem?_drop, show i + (t - 1 - i) = t - 1 from by omega, hg]
      exact List.mem_of_getElem? this
    · have := h.2.2
      rcases this with h0 | h0
      · omega
      · rw [h0]
        decide
theorem two_at (s : ByteArray) (i : Nat) : two ((nats s).drop (i + 1)) = (decide (i + 2 < s.size) && isHex (byt s (i + 1)) && isHex (byt s (i + 2))) := by
  by_cases h : i + 2 < s.size
  · rw [drop_next s (i + 1) (by omega), drop_next s (i + 2) h]
    simp [two, h]
  · have hl := nats_length s
    have : ((nats s).drop (i + 1)).length ≤ 1 := by rw [List.length_drop]; omega
    match hd : (nats s).drop (i + 1), this with
    | [], _ => simp [two, h]
    | [x], _ => simp [two, h]
end Go.Proofs.YtjhglhckdjnkgaaDoor.Url
