/- The package's data URL: the builder's state; the writers and the decoder over it. -/
import Derived.Test.YtjhglhckdjnkgaaDoorUrlE
import Derived.Test.YtjhglhckdjnkgaaDoorBuildA
import Derived.Test.YtjhglhckdjnkgaaDoorShelf
import Derived.Shelf.Strings.MapAny
namespace Go.Proofs.YtjhglhckdjnkgaaDoor.Url
open Go.RowKit Go.Proofs.YtjhglhckdjnkgaaDoor.Aid Go.Proofs.YtjhglhckdjnkgaaDoor.Runes
set_option linter.unusedVariables false
/-- The builder of this call holds the bytes l; what was there before the call stands. -/
def St (w : World) (l : List Nat) (wr : World) : Prop := Lib.IsBuilder 87 5 w.heap.size w.heap.size (ncells l) wr ∧ Below w.heap.size w wr
theorem builder_keep {T e : TypeId} {B b : Nat} {bs : List Value} {w w' : World} (h : Lib.IsBuilder T e B b bs w) (hb : Below w.heap.size w w') : Lib.IsBuilder T e B b bs w' := by
  rcases h with h | h
  · obtain ⟨hB, v, hk, hown, hne⟩ := h
    exact .inl ⟨hB, v, (hb.block b (Array.getElem?_eq_some_iff.1 hk).1).trans hk, own_keep hown hb, hne⟩
  · obtain ⟨hB, v, hk, hown, hne⟩ := h
    exact .inr ⟨hB, v, (hb.block b (Array.getElem?_eq_some_iff.1 hk).1).trans hk, own_keep hown hb, hne⟩
theorem St.keep {w wr w' : World} {l : List Nat} (h : St w l wr) (hb : Below wr.heap.size wr w') : St w l w' := ⟨builder_keep h.1 hb, h.2.trans (hb.mono h.2.size)⟩
theorem St.new (w : World) : St w [] (w.alloc (.cells #[.pointer none, .slice none 0 0] 87)) := ⟨Lib.fresh_isBuilder 87 5 w, below_at (Below.refl _ _) _⟩
theorem st_ws {w wr : World} {l : List Nat} (h : St w l wr) (s : ByteArray) (hl : l.length + s.size ≤ 1000000000) :
    Calls Tryd.prog 50 #[.pointer (some ⟨w.heap.size, 0, none⟩), .string s] wr fun e w' => e = .returned (.tuple #[.int .i64 s.size, .nilIface]) ∧ St w (l ++ nats s) w' := by
  refine (Build.writeString w.heap.size w.heap.size (ncells l) s wr h.1 (by simp only [ncells, List.length_map]; omega) h.2.size).mono ?_
  rintro e w' ⟨rfl, h1, h2⟩
  refine ⟨rfl, .inr ?_, h.2.trans h2⟩
  rw [ncells_append, ← str_cells]
  exact h1
theorem st_wb {w wr : World} {l : List Nat} (h : St w l wr) (x : Nat) (hl : l.length + 1 ≤ 1000000000) :
    Calls Tryd.prog 51 #[.pointer (some ⟨w.heap.size, 0, none⟩), .int .u8 x] wr fun e w' => e = .returned .nilIface ∧ St w (l ++ [x]) w' := by
  refine (Build.writeByte w.heap.size w.heap.size (ncells l) x wr h.1 (by simp only [ncells, List.length_map]; omega) h.2.size).mono ?_
  rintro e w' ⟨rfl, h1, h2⟩
  refine ⟨rfl, .inr ?_, h.2.trans h2⟩
  rw [ncells_append]
  exact h1
theorem st_string {w wr : World} {l : List Nat} (h : St w l wr) (hl : ∀ b ∈ l, b < 256) :
    Calls Tryd.prog 54 #[.pointer (some ⟨w.heap.size, 0, none⟩)] wr fun e w' => e = .returned (.string (str l)) ∧ Below w.heap.size w w' := by
  have hb := h.1
  rw [byte_cells l hl] at hb
  refine (Tryd.Builder_String_any w.heap.size w.heap.size (l.map UInt8.ofNat) wr hb h.2.size).mono ?_
  rintro e w' ⟨rfl, h2⟩
  exact ⟨rfl, h.2.trans h2⟩
/-- The package's decoding of what is left of a text. -/
theorem st_dec {w wr : World} {l : List Nat} (h : St w l wr) (hT : Lib.Utf8Tabs 4 5 w) (s : ByteArray) (i : Nat) (hi : i < s.size) :
    Calls Tryd.prog 52 #[.string (s.extract i s.size)] wr fun e w' => e = .returned (.tuple #[.int .i32 (Utf8.decode s i).1, .int .i64 (Utf8.decode s i).2]) ∧ St w l w' := by
  have hT' := Go.Proofs.Utf8Tabs_below hT h.2
  refine (Tryd.utf8_DecodeRuneInString (s.extract i s.size) wr hT').mono ?_
  rintro e w' ⟨rfl, h2⟩
  rw [Lib.decodeGo_extract s i hi]
  exact ⟨rfl, h.keep h2⟩
theorem enc_len (l : List Nat) : (encL l).length ≤ 3 * l.length := by
  induction l with
  | nil => simp [encL]
  | cons b r ih =>
    rw [encL, List.length_append]
    simp only [List.length_cons]
    split
    · simp only [List.length_cons, List.length_nil]
      omega
    · simp only [List.length_cons, List.length_nil]
      omega
theorem enc_lt (l : List Nat) (h : ∀ b ∈ l, b < 256) : ∀ x ∈ encL l, x < 256 := by
  induction l with
  | nil => intro x hx; simp [encL] at hx
  | cons b r ih =>
    intro x hxm
    have hb := h b (by simp)
    rw [encL, List.mem_append] at hxm
    rcases hxm with hxm | hxm
    · split at hxm
      · have h1 := hx_bd (b / 16) (by omega)
        have h2 := hx_bd (b % 16) (by omega)
        simp only [List.mem_cons, List.not_mem_nil, or_false] at hxm
        rcases hxm with rfl | rfl | rfl <;> omega
      · simp only [List.mem_cons, List.not_mem_nil, or_false] at hxm
        subst hxm
        exact hb
    · exact ih (fun y hy => h y (by simp [hy])) x hxm
end Go.Proofs.YtjhglhckdjnkgaaDoor.Url
