/- Texts as lists of bytes, and as cells; pieces of them. No program in sight. -/
import Derived.Test.YtifgealimgedpaaDoorPlaces
import Derived.Lib.Builder
import Derived.Lib.AppendStr
import Derived.Lib.UnsafeStr
namespace Go.Proofs.YtifgealimgedpaaDoor.Bytes
open Go.Proofs.YtifgealimgedpaaDoor.Runes
set_option linter.unusedVariables false
/-- A text's bytes as numbers; bytes as a text; bytes as cells. -/
def nats (s : ByteArray) : List Nat := s.data.toList.map UInt8.toNat
def str (l : List Nat) : ByteArray := ⟨(l.map UInt8.ofNat).toArray⟩
def ncells (l : List Nat) : List Value := l.map fun (n : Nat) => .int .u8 (n : Int)
theorem nats_length (s : ByteArray) : (nats s).length = s.size := by
  rw [nats, List.length_map, Array.length_toList]
  rfl
theorem nats_get (s : ByteArray) (i : Nat) (h : i < s.size) : (nats s)[i]? = some (byt s i) := by
  rw [byt_eq s i h, nats, List.getElem?_map]
  have : s.data.toList[i]? = some (s[i]'h) := by
    rw [Array.getElem?_toList, Array.getElem?_eq_getElem h]
    rfl
  rw [this]
  rfl
theorem nats_lt (s : ByteArray) : ∀ b ∈ nats s, b < 256 := by
  intro b hb
  simp only [nats, List.mem_map] at hb
  obtain ⟨x, _, rfl⟩ := hb
  exact x.toNat_lt
theorem nats_str (l : List Nat) (h : ∀ b ∈ l, b < 256) : nats (str l) = l := by
  simp only [nats, str, List.map_map]
  conv => rhs; rw [← List.map_id l]
  refine List.map_congr_left fun b hb => ?_
  simp only [Function.comp, UInt8.toNat_ofNat', id]
  exact Nat.mod_eq_of_lt (h b hb)
theorem str_nats (s : ByteArray) : str (nats s) = s := by
  apply ByteArray.ext
  apply Array.toList_inj.1
  simp only [str, nats, List.map_map]
  conv => rhs; rw [← List.map_id s.data.toList]
  exact List.map_congr_left fun b _ => by simp
theorem str_append (a b : List Nat) : str (a ++ b) = str a ++ str b := by
  apply ByteArray.ext
  apply Array.toList_inj.1
  simp [str, ByteArray.data_append]
theorem str_size (l : List Nat) : (str l).size = l.length := by simp [str, ByteArray.size]
theorem nats_append (a b : ByteArray) : nats (a ++ b) = nats a ++ nats b := by simp [nats, ByteArray.data_append]
theorem str_cells (s : ByteArray) : Lib.strCells s = ncells (nats s) := by simp [Lib.strCells, ncells, nats, List.map_map, Function.comp]
theorem byte_cells (l : List Nat) (h : ∀ b ∈ l, b < 256) : ncells l = Lib.byteCells (l.map UInt8.ofNat) := by
  simp only [ncells, Lib.byteCells, List.map_map]
  refine List.map_congr_left fun b hb => ?_
  simp only [Function.comp, UInt8.toNat_ofNat']
  rw [Nat.mod_eq_of_lt (h b hb)]
theorem ncells_append (a b : List Nat) : ncells (a ++ b) = ncells a ++ ncells b := by simp [ncells]
/-- What stands between two places. -/
def cut (s : ByteArray) (a b : Nat) : List Nat := ((nats s).drop a).take (b - a)
theorem nats_extract (s : ByteArray) (a b : Nat) : nats (s.extract a b) = cut s a b := by
  simp [nats, cut, ByteArray.data_extract, Array.toList_extract, List.extract, List.map_take, List.map_drop]
theorem drop_next (s : ByteArray) (i : Nat) (h : i < s.size) : (nats s).drop i = byt s i :: (nats s).drop (i + 1) := by
  have hl := nats_length s
  have hg := nats_get s i h
  rw [List.drop_eq_getElem_cons (by omega)]
  congr 1
  rw [List.getElem?_eq_getElem (by omega)] at hg
  exact Option.some.inj hg
theorem cut_self (s : ByteArray) (a : Nat) : cut s a a = [] := by simp [cut]
theorem cut_next (s : ByteArray) (a b : Nat) (h : a ≤ b) (hb : b < s.size) : cut s a (b + 1) = cut s a b ++ [byt s b] := by
  have hl := nats_length s
  have hg := nats_get s b hb
  unfold cut
  rw [show b + 1 - a = (b - a) + 1 from by omega, List.take_add_one, List.getElem?_drop, show a + (b - a) = b from by omega, hg]
  rfl
theorem cut_drop (s : ByteArray) (a b : Nat) (h : a ≤ b) : cut s a b ++ (nats s).drop b = (nats s).drop a := by
  unfold cut
  have := List.take_append_drop (b - a) ((nats s).drop a)
  rw [List.drop_drop, show a + (b - a) = b from by omega] at this
  exact this
theorem cut_length (s : ByteArray) (a b : Nat) (hb : b ≤ s.size) : (cut s a b).length = b - a := by
  have hl := nats_length s
  unfold cut
  rw [List.length_take, List.length_drop]
  omega
theorem cut_lt (s : ByteArray) (a b : Nat) : ∀ x ∈ cut s a b, x < 256 := fun x hx => nats_lt s x (List.mem_of_mem_drop (List.mem_of_mem_take hx))
theorem cut_cat (s : ByteArray) (a b c : Nat) (h : a ≤ b) (h' : b ≤ c) (hc : c ≤ s.size) : cut s a b ++ cut s b c = cut s a c := by
  induction c with
  | zero =>
    obtain rfl : b = 0 := by omega
    rw [cut_self, List.append_nil]
  | succ c ih =>
    rcases Nat.lt_or_ge c b with hlt | hge
    · obtain rfl : b = c + 1 := by omega
      rw [cut_self, List.append_nil]
    · rw [cut_next s b c hge (by omega), cut_next s a c (by omega) (by omega), ← List.append_assoc, ih hge (by omega)]
theorem extract_next (u : ByteArray) (k : Nat) (h : k < u.size) : u.extract 0 k ++ u.extract k (k + 1) = u.extract 0 (k + 1) := by
  have e : nats (u.extract 0 k ++ u.extract k (k + 1)) = nats (u.extract 0 (k + 1)) := by
    rw [nats_append, nats_extract, nats_extract, nats_extract, cut_cat u 0 k (k + 1) (by omega) (by omega) (by omega)]
  rw [← str_nats (u.extract 0 k ++ u.extract k (k + 1)), e, str_nats]
theorem extract_size0 (u : ByteArray) (a b : Nat) (h : a ≤ b) (hb : b ≤ u.size) : (u.extract a b).size = b - a := by rw [ByteArray.size_extract]; omega
theorem extract_all (u : ByteArray) : u.extract 0 u.size = u := by
  rw [← str_nats (u.extract 0 u.size), nats_extract, cut, List.drop_zero, List.take_of_length_le (by rw [nats_length]; omega), str_nats]
theorem extract_zero (u : ByteArray) : u.extract 0 0 = ⟨#[]⟩ := by
  rw [← str_nats (u.extract 0 0), nats_extract, cut_self]
  rfl
theorem extract_one (u : ByteArray) (k : Nat) (h : k < u.size) : u.extract k (k + 1) = str [byt u k] := by
  rw [← str_nats (u.extract k (k + 1)), nats_extract, cut_next u k k (by omega) h, cut_self]
  rfl
end Go.Proofs.YtifgealimgedpaaDoor.Bytes
