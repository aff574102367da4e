/- What a joiner holds: one invariant for all that is done to it, and its contracts over that invariant. -/
import Derived.Test.YtdcojgkblfobnaaPasteD
import Derived.Lib.AtoiErrMem
namespace Go.Proofs.Ytdcojgkblfobnaa.Paste
open Go.RowKit Go.Proofs.Ytdcojgkblfobnaa.Aid
attribute [local go_sem ↓] Go.wp_at_zero Go.wp_at_succ
/-- A row of bytes that holds a text from its head on, whatever else. -/
def Bytes (w : World) (h : Nat) (s : ByteArray) : Prop := ∃ cs fr, w.heap[h]? = some (.cells cs 5 fr) ∧ ∀ j, j < s.size → cs[j]? = some (.int .u8 ((s.data.toList.getD j 0).toNat : Int))
theorem Bytes.lt {w : World} {h : Nat} {s : ByteArray} (hb : Bytes w h s) : h < w.heap.size := by
  obtain ⟨cs, fr, h1, _⟩ := hb
  exact (Array.getElem?_eq_some_iff.1 h1).1
theorem Bytes.cell {w : World} {h : Nat} {s : ByteArray} (hb : Bytes w h s) (j : Nat) (hj : j < s.size) : w.cell? ⟨h, j, none⟩ = some (.int .u8 ((s.data.toList.getD j 0).toNat : Int)) := by
  obtain ⟨cs, fr, h1, h2⟩ := hb
  simp [World.cell?, h1, h2 j hj]
theorem Bytes.kept {w w' : World} {g h : Nat} {r : Option Nat} {s : ByteArray} {t : TypeId} {cs : List Value} {base e size n : Nat} {v : Value} {xs : List Value} (hb : Bytes w h s) (k : Two w w' g r) (hg : Blk w g t cs) (ht : t ≠ 5) (ho : w.ownsRow base e size v n xs) (he : e ≠ 5) (hr : v.ownBlock = r) : Bytes w' h s := by
  have hl := hb.lt
  obtain ⟨ds, fr, h1, h2⟩ := hb
  refine ⟨ds, fr, (k.block h hl ?_ ?_).trans h1, h2⟩
  · rintro rfl
    unfold Blk at hg
    rw [hg] at h1
    injection h1 with h1
    injection h1 with _ e1
    exact ht e1
  · intro hk
    rcases ho.2 with ⟨rfl, _⟩ | ⟨k', cap, cur, rfl, _, hh, _⟩
    · rw [← hr] at hk
      simp [Value.ownBlock] at hk
    · rw [← hr] at hk
      have : h = k' := by simpa [Value.ownBlock] using hk
      subst this
      rw [h1] at hh
      injection hh with hh
      injection hh with _ e1
      exact he e1.symm
theorem Bytes.below {w w' : World} {B h : Nat} {s : ByteArray} (hb : Bytes w h s) (k : Below B w w') (hB : h < B) : Bytes w' h s := by
  obtain ⟨cs, fr, h1, h2⟩ := hb
  exact ⟨cs, fr, (k.block h hB).trans h1, h2⟩
theorem bytes_new (w : World) (s : ByteArray) : Bytes (Lib.bytesWorld w 5 s) w.heap.size s := by
  refine ⟨_, _, Lib.bytesWorld_at_new w 5 s, fun j hj => ?_⟩
  simp [Lib.bytesCells, Array.getElem?_append, List.getD, hj]
/-- The last byte of a text, 0 of none. -/
def lst (T : List UInt8) : Int := ((T.getLast?.map fun b => (b.toNat : Int))).getD 0
theorem getLast_tail (T l : List UInt8) (h : l ≠ []) : (T ++ l).getLast? = l.getLast? := by
  rw [List.getLast?_append]
  cases hl : l.getLast? with
  | none => exact absurd (List.getLast?_eq_none_iff.1 hl) h
  | some b => rfl
theorem size_list (s : ByteArray) : s.size = s.data.toList.length := (Array.length_toList (xs := s.data)).symm
theorem lst_str (T : List UInt8) (s : ByteArray) : lastOf s (lst T) = lst (T ++ s.data.toList) := by
  unfold lastOf
  by_cases h : 0 < s.size
  · rw [dif_pos h]
    have hl : 0 < s.data.toList.length := by rwa [← size_list]
    have hne : s.data.toList ≠ [] := by intro e; rw [e] at hl; simp at hl
    unfold lst
    rw [getLast_tail _ _ hne, List.getLast?_eq_getElem?, List.getElem?_eq_getElem (by omega)]
    simp only [Option.map_some, Option.getD_some, ByteArray.size, Array.length_toList, Array.getElem_toList]
    rfl
  · rw [dif_neg h]
    have : s.data.toList = [] := List.eq_nil_of_length_eq_zero (by rw [← size_list]; omega)
    rw [this, List.append_nil]
theorem lst_bytes (T : List UInt8) (s : ByteArray) : lastB (fun j => ((s.data.toList.getD j 0).toNat : Int)) s.size (lst T) = lst (T ++ s.data.toList) := by
  rw [← lst_str]
  unfold lastB lastOf
  by_cases h : 0 < s.size
  · rw [if_pos h, dif_pos h]
    have hl : 0 < s.data.toList.length := by rwa [← size_list]
    have : s.size - 1 < s.data.toList.length := by rw [← size_list]; omega
    simp only [List.getD, List.getElem?_eq_getElem this, Option.getD_some, Array.getElem_toList]
    rfl
  · rw [if_neg h, dif_neg h]
/-- What a joiner that has taken n pieces holds: the text T. -/
def J (w : World) (g base n : Nat) (T : List UInt8) : Prop := ∃ (sv bv : Value) (ns nb : Nat) (sf bf : Nat → ByteArray) (so bo bh bc : Nat → Nat),
  Blk w g 110 (joiner sv bv (T.length : Int) (lst T)) ∧ w.ownsRow base 131 2 sv ns (row2 ns (fun i => .string (sf i)) fun i => .int .u32 (so i)) ∧ w.ownsRow base 133 2 bv nb (row2 nb (fun i => .slice (some ⟨bh i, 0, none⟩) (bf i).size (bc i)) fun i => .int .u32 (bo i)) ∧
  base ≤ g ∧ ns ≤ n ∧ nb ≤ n ∧ (0 < n → 0 < ns) ∧ (∀ i, i < ns → Fits T (so i) (sf i)) ∧ (∀ i, i < nb → Fits T (bo i) (bf i)) ∧ (∀ i, i < nb → Bytes w (bh i) (bf i)) ∧ ∀ p, p < T.length → Covered ns so sf p ∨ Covered nb bo bf p
/-- One more piece at a function's end. -/
def snoc {α : Type} (f : Nat → α) (n : Nat) (a : α) (i : Nat) : α := if i = n then a else f i
theorem snoc_old {α : Type} (f : Nat → α) (n : Nat) (a : α) (i : Nat) (h : i < n) : snoc f n a i = f i := if_neg (by omega)
theorem snoc_new {α : Type} (f : Nat → α) (n : Nat) (a : α) : snoc f n a n = a := if_pos rfl
theorem row2_congr (n : Nat) (f g f' g' : Nat → Value) (h : ∀ i, i < n → f i = f' i ∧ g i = g' i) : row2 n f g = row2 n f' g' := by
  induction n with
  | zero => rfl
  | succ n ih =>
    rw [row2_succ, row2_succ, ih (fun i hi => h i (by omega)), (h n (by omega)).1, (h n (by omega)).2]
theorem Fits.more {T : List UInt8} {o : Nat} {s : ByteArray} (h : Fits T o s) (l : List UInt8) : Fits (T ++ l) o s := by
  obtain ⟨h1, h2⟩ := h
  refine ⟨by rw [List.length_append]; omega, fun j hj => ?_⟩
  rw [List.getElem?_append_left (by omega)]
  exact h2 j hj
theorem Fits.last (T : List UInt8) (s : ByteArray) : Fits (T ++ s.data.toList) T.length s := by
  refine ⟨by rw [List.length_append, size_list]; exact Nat.le_refl _, fun j hj => ?_⟩
  rw [List.getElem?_append_right (by omega), Nat.add_sub_cancel_left]
theorem fits_snoc {T : List UInt8} {n : Nat} {o : Nat → Nat} {f : Nat → ByteArray} (h : ∀ i, i < n → Fits T (o i) (f i)) (s : ByteArray) : ∀ i, i < n + 1 → Fits (T ++ s.data.toList) (snoc o n T.length i) (snoc f n s i) := by
  intro i hi
  by_cases he : i = n
  · subst he
    rw [snoc_new, snoc_new]
    exact Fits.last T s
  · rw [snoc_old _ _ _ _ (by omega), snoc_old _ _ _ _ (by omega)]
    exact (h i (by omega)).more _
theorem cov_snoc {n : Nat} {o : Nat → Nat} {f : Nat → ByteArray} {p : Nat} (h : Covered n o f p) (a : Nat) (s : ByteArray) : Covered (n + 1) (snoc o n a) (snoc f n s) p := by
  obtain ⟨i, h1, h2, h3⟩ := h
  refine ⟨i, by omega, ?_, ?_⟩
  · rwa [snoc_old _ _ _ _ h1]
  · rwa [snoc_old _ _ _ _ h1, snoc_old _ _ _ _ h1]
theorem cov_last {n : Nat} {o : Nat → Nat} {f : Nat → ByteArray} {p a : Nat} {s : ByteArray} (h1 : a ≤ p) (h2 : p < a + s.size) : Covered (n + 1) (snoc o n a) (snoc f n s) p :=
  ⟨n, by omega, by rwa [snoc_new], by rwa [snoc_new, snoc_new]⟩
set_option maxHeartbeats 1000000 in
theorem j_str (w : World) (g base n : Nat) (T : List UInt8) (s : ByteArray) (h : J w g base n T) (hn : n ≤ 200) (hT : T.length ≤ 500000) (hs : s.size ≤ 1000) :
    Calls Try.prog 58 #[.pointer (some ⟨g, 0, none⟩), .string s] w fun e w' => e = .returned (.tuple #[]) ∧ J w' g base (n + 1) (T ++ s.data.toList) ∧ Below base w w' := by
  obtain ⟨sv, bv, ns, nb, sf, bf, so, bo, bh, bc, hj, hS, hB, hb, h1, h2, h3, h4, h5, h6, h7⟩ := h
  have hgl := Blk.lt hj
  refine (add_string g ns sv bv T.length (lst T) s _ base w hj hS (by omega) (by omega) (by omega) (by omega) hs).mono ?_
  rintro e w' ⟨rfl, sv', k1, k2, k3⟩
  refine ⟨rfl, ⟨sv', bv, ns + 1, nb, snoc sf ns s, bf, snoc so ns T.length, bo, bh, bc, ?_, ?_, ?_, hb, by omega, by omega, fun _ => by omega, fits_snoc h4 s, fun i hi => (h5 i hi).more _, fun i hi => (h6 i hi).kept k3 hj (by decide) hS (by decide) rfl, ?_⟩, ?_⟩
  · rw [List.length_append, ← lst_str, ← size_list]
    exact_mod_cast k1
  · rw [row2_succ, snoc_new, snoc_new]
    rw [row2_congr ns (fun i => .string (sf i)) (fun i => .int .u32 (so i)) (fun i => .string (snoc sf ns s i)) (fun i => .int .u32 ((snoc so ns T.length i : Nat) : Int)) (fun i hi => ⟨by rw [snoc_old _ _ _ _ hi], by rw [snoc_old _ _ _ _ hi]⟩)] at k2
    exact k2
  · exact k3.own hB (own_ne hB hj (by decide)) (own_row_ne hB hS (by decide))
  · intro p hp
    rw [List.length_append, ← size_list] at hp
    by_cases hlt : p < T.length
    · exact (h7 p hlt).imp (fun h => cov_snoc h _ _) id
    · exact .inl (cov_last (by omega) hp)
  · exact k3.below (Below.refl _ _) (by omega) hb (fun k hk => own_below hS k hk)
set_option maxHeartbeats 1000000 in
theorem j_bytes (w : World) (g base n h c : Nat) (T : List UInt8) (s : ByteArray) (hJ : J w g base n T) (hn0 : 0 < n) (hn : n ≤ 200) (hT : T.length ≤ 500000) (hs : s.size ≤ 1000) (hh : Bytes w h s) :
    Calls Try.prog 59 #[.pointer (some ⟨g, 0, none⟩), .slice (some ⟨h, 0, none⟩) s.size c] w fun e w' => e = .returned (.tuple #[]) ∧ J w' g base (n + 1) (T ++ s.data.toList) ∧ Below base w w' := by
  obtain ⟨sv, bv, ns, nb, sf, bf, so, bo, bh, bc, hj, hS, hB, hb, h1, h2, h3, h4, h5, h6, h7⟩ := hJ
  have hgl := Blk.lt hj
  refine (add_bytes g nb h s.size c sv bv T.length (lst T) (fun j => ((s.data.toList.getD j 0).toNat : Int)) _ base w hj hB (by omega) (by omega) (by omega) (by omega) hs (fun i hi => hh.cell i hi)).mono ?_
  rintro e w' ⟨rfl, bv', k1, k2, k3⟩
  refine ⟨rfl, ⟨sv, bv', ns, nb + 1, sf, snoc bf nb s, so, snoc bo nb T.length, snoc bh nb h, snoc bc nb c, ?_, ?_, ?_, hb, by omega, by omega, fun _ => h3 hn0, fun i hi => (h4 i hi).more _, fits_snoc h5 s, ?_, ?_⟩, ?_⟩
  · rw [List.length_append, ← lst_bytes, ← size_list]
    exact_mod_cast k1
  · exact k3.own hS (own_ne hS hj (by decide)) (own_row_ne hS hB (by decide))
  · rw [row2_succ, snoc_new, snoc_new, snoc_new, snoc_new]
    rw [row2_congr nb (fun i => .slice (some ⟨bh i, 0, none⟩) (bf i).size (bc i)) (fun i => .int .u32 (bo i)) (fun i => .slice (some ⟨snoc bh nb h i, 0, none⟩) (snoc bf nb s i).size (snoc bc nb c i)) (fun i => .int .u32 ((snoc bo nb T.length i : Nat) : Int)) (fun i hi => ⟨by rw [snoc_old _ _ _ _ hi, snoc_old _ _ _ _ hi, snoc_old _ _ _ _ hi], by rw [snoc_old _ _ _ _ hi]⟩)] at k2
    exact k2
  · intro i hi
    by_cases he : i = nb
    · subst he
      rw [snoc_new, snoc_new]
      exact hh.kept k3 hj (by decide) hB (by decide) rfl
    · rw [snoc_old _ _ _ _ (by omega), snoc_old _ _ _ _ (by omega)]
      exact (h6 i (by omega)).kept k3 hj (by decide) hB (by decide) rfl
  · intro p hp
    rw [List.length_append, ← size_list] at hp
    by_cases hlt : p < T.length
    · exact (h7 p hlt).imp id (fun h => cov_snoc h _ _)
    · exact .inr (cov_last (by omega) hp)
  · exact k3.below (Below.refl _ _) (by omega) hb (fun k hk => own_below hB k hk)
theorem J.below {w w' : World} {g base n : Nat} {T : List UInt8} (h : J w g base n T) (k : Below w.heap.size w w') : J w' g base n T := by
  obtain ⟨sv, bv, ns, nb, sf, bf, so, bo, bh, bc, hj, hS, hB, hb, h1, h2, h3, h4, h5, h6, h7⟩ := h
  exact ⟨sv, bv, ns, nb, sf, bf, so, bo, bh, bc, hj.below k hj.lt, own_keep hS k, own_keep hB k, hb, h1, h2, h3, h4, h5, fun i hi => (h6 i hi).below k (h6 i hi).lt, h7⟩
theorem J.lt {w : World} {g base n : Nat} {T : List UInt8} (h : J w g base n T) : base ≤ g ∧ g < w.heap.size := by
  obtain ⟨sv, bv, ns, nb, sf, bf, so, bo, bh, bc, hj, hS, hB, hb, _⟩ := h
  exact ⟨hb, Blk.lt hj⟩
theorem J.new (w : World) : J (w.alloc (.cells #[.slice none 0 0, .slice none 0 0, .int .u32 0, .int .u8 0] 110)) w.heap.size w.heap.size 0 [] :=
  ⟨.slice none 0 0, .slice none 0 0, 0, 0, fun _ => ByteArray.empty, fun _ => ByteArray.empty, fun _ => 0, fun _ => 0, fun _ => 0, fun _ => 0, Blk.new w 110 _, own_nil _ _ _ _, own_nil _ _ _ _, Nat.le_refl _, by omega, by omega, fun h => absurd h (by omega), fun i hi => absurd hi (by omega), fun i hi => absurd hi (by omega), fun i hi => absurd hi (by omega), fun p hp => absurd hp (by simp)⟩
theorem j_done (w : World) (g base n : Nat) (T : List UInt8) (h : J w g base n T) (hn : n ≤ 200) (hT : T.length ≤ 500000) :
    Calls Try.prog 63 #[.pointer (some ⟨g, 0, none⟩)] w fun e w' => (∃ r, e = .returned (.slice (some ⟨r, 0, none⟩) T.length T.length) ∧ ∀ i, i < T.length → w'.cell? ⟨r, i, none⟩ = some (.int .u8 (tv T i))) ∧ Below w.heap.size w w' := by
  obtain ⟨sv, bv, ns, nb, sf, bf, so, bo, bh, bc, hj, hS, hB, hb, h1, h2, h3, h4, h5, h6, h7⟩ := h
  exact done g ns nb T.length base sv bv (lst T) T sf bf so bo bh bc w hj hS hB rfl (by omega) (by omega) (by omega) h4 h5 (fun e => by omega) (fun i hi j hj => ⟨(h6 i hi).lt, (h6 i hi).cell j hj⟩) h7
end Go.Proofs.Ytdcojgkblfobnaa.Paste
