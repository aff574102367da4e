/- Sets of bits in rows of bytes; and the package's SetBit, HasBit and NewBitSet: walks; bits up to 1000000. -/
import Derived.Test.YtdcojgkblfobnaaProg
import Derived.Test.YtdcojgkblfobnaaAid
import Derived.Handy
import Derived.WalkLawsBesides
import Derived.Laws.MakeOwn
namespace Go.Proofs.Ytdcojgkblfobnaa.Bits
open Go.RowKit Go.Proofs.Ytdcojgkblfobnaa.Aid
/-- A byte in which a bit is set; whether a bit is there. -/
def setb (x : Int) (t : Nat) : Int := Go.bits .or .u8 x (2 ^ t % 256)
def hasb (x : Int) (t : Nat) : Bool := Go.bits .and .u8 x (2 ^ t % 256) != 0
theorem facts : ∀ x : Fin 256, ∀ t : Fin 8, ∀ s : Fin 8, hasb (setb (x.val : Int) t.val) s.val = (decide (t = s) || hasb (x.val : Int) s.val) := by decide +kernel
theorem ranges : ∀ x : Fin 256, ∀ t : Fin 8, 0 ≤ setb (x.val : Int) t.val ∧ setb (x.val : Int) t.val < 256 := by decide +kernel
theorem zeros : ∀ t : Fin 8, hasb 0 t.val = false := by decide +kernel
theorem has_set (x : Int) (h0 : 0 ≤ x) (h1 : x < 256) (t s : Nat) (ht : t < 8) (hs : s < 8) : hasb (setb x t) s = (decide (t = s) || hasb x s) := by
  have h := facts ⟨x.toNat, by omega⟩ ⟨t, ht⟩ ⟨s, hs⟩
  simp only [Fin.mk.injEq] at h
  rwa [show ((x.toNat : Nat) : Int) = x from by omega] at h
theorem set_range (x : Int) (h0 : 0 ≤ x) (h1 : x < 256) (t : Nat) (ht : t < 8) : 0 ≤ setb x t ∧ setb x t < 256 := by
  have h := ranges ⟨x.toNat, by omega⟩ ⟨t, ht⟩
  rwa [show ((x.toNat : Nat) : Int) = x from by omega] at h
/-- A row of bytes as a set: which numbers are there; and that its bytes are bytes. -/
def isIn (bs : List Int) (n : Nat) : Bool := hasb (bs.getD (n / 8) 0) (n % 8)
def Bytes (bs : List Int) : Prop := ∀ x ∈ bs, 0 ≤ x ∧ x < 256
theorem Bytes.get {bs : List Int} (h : Bytes bs) (i : Nat) : 0 ≤ bs.getD i 0 ∧ bs.getD i 0 < 256 := by
  rw [List.getD_eq_getElem?_getD]
  by_cases hi : i < bs.length
  · rw [List.getElem?_eq_getElem hi]
    exact h _ (List.getElem_mem hi)
  · rw [List.getElem?_eq_none (by omega)]
    simp
def put (bs : List Int) (n : Nat) : List Int := bs.set (n / 8) (setb (bs.getD (n / 8) 0) (n % 8))
theorem put_length (bs : List Int) (n : Nat) : (put bs n).length = bs.length := by simp [put]
theorem put_bytes {bs : List Int} (h : Bytes bs) (n : Nat) : Bytes (put bs n) := by
  intro x hx
  rcases List.mem_or_eq_of_mem_set hx with hx | rfl
  · exact h x hx
  · exact set_range _ (h.get _).1 (h.get _).2 _ (Nat.mod_lt _ (by omega))
theorem isIn_put {bs : List Int} (h : Bytes bs) (n m : Nat) (hn : n / 8 < bs.length) : isIn (put bs n) m = (decide (n = m) || isIn bs m) := by
  unfold isIn put
  by_cases e : n / 8 = m / 8
  · have hg : (bs.set (n / 8) (setb (bs.getD (n / 8) 0) (n % 8))).getD (m / 8) 0 = setb (bs.getD (m / 8) 0) (n % 8) := by
      rw [← e, List.getD_eq_getElem?_getD, List.getElem?_set_self hn]
      rfl
    rw [hg, has_set _ (h.get _).1 (h.get _).2 _ _ (Nat.mod_lt _ (by omega)) (Nat.mod_lt _ (by omega))]
    congr 1
    rw [decide_eq_decide]
    omega
  · have hg : (bs.set (n / 8) (setb (bs.getD (n / 8) 0) (n % 8))).getD (m / 8) 0 = bs.getD (m / 8) 0 := by
      rw [List.getD_eq_getElem?_getD, List.getElem?_set_ne e, ← List.getD_eq_getElem?_getD]
    rw [hg]
    have : decide (n = m) = false := by simp; omega
    rw [this]
    rfl
theorem isIn_zero (k m : Nat) : isIn (List.replicate k 0) m = false := by
  unfold isIn
  have : (List.replicate k (0 : Int)).getD (m / 8) 0 = 0 := by
    rw [List.getD_eq_getElem?_getD, List.getElem?_replicate]
    split <;> rfl
  rw [this]
  exact zeros ⟨m % 8, Nat.mod_lt _ (by omega)⟩
def u8s (bs : List Int) : List Value := bs.map fun x => .int .u8 x
theorem u8s_get (bs : List Int) (i : Nat) (h : i < bs.length) : (u8s bs)[i]? = some (.int .u8 (bs.getD i 0)) := by
  simp [u8s, h]
theorem u8s_set (bs : List Int) (i : Nat) (x : Int) : (u8s bs).set i (.int .u8 x) = u8s (bs.set i x) := by simp [u8s, List.map_set]
theorem and7 (n : Nat) (h : n < 18446744073709551616) : Go.bits .and .u64 (n : Int) 7 = ((n % 8 : Nat) : Int) := by
  have := bits_mask .u64 64 (by decide) (fun n h0 h1 => by rw [IntKind.wrap_u64]; omega) 3 (by decide) (n : Int) (by omega) (by omega)
  simpa using this
theorem set_bit (g n : Nat) (bs : List Int) (cap : Nat) (w : World) (hn : n ≤ 1000000) (hl : n / 8 < bs.length) (hlen : bs.length ≤ 1000000) (hb : Blk w g 5 (u8s bs)) :
    Calls Try.prog 41 #[.agg #[.slice (some ⟨g, 0, none⟩) bs.length cap], .int .u64 (n : Int)] w fun e w' => e = .returned (.tuple #[]) ∧ Blk w' g 5 (u8s (put bs n)) ∧ w.grownBy w' (some g) := by
  have h7 := and7 n (by omega)
  have hc := hb.get (n / 8) (u8s_get bs _ hl)
  have hf := hb.frozen (n / 8)
  have hg := hb.lt
  obtain ⟨x, hx⟩ : ∃ x, bs.getD (n / 8) 0 = x := ⟨_, rfl⟩
  rw [hx] at hc
  have HX := Lib.hid hx
  clear hx
  go_enter Try.func41, Try.ntmps41
  go_wp2
  go_returns
  refine ⟨rfl, ?_, only_alloc (only_setCell (World.grownBy.refl _ _) (.inl rfl) _) _⟩
  have := (hb.set_ (n / 8) (.int .u8 (setb x (n % 8)))).alloc (.cells #[.slice (some ⟨g, 0, none⟩) bs.length cap] 73)
  rw [u8s_set] at this
  unfold put
  rw [HX.out]
  exact this
theorem has_bit (g n : Nat) (bs : List Int) (cap : Nat) (w : World) (hn : n ≤ 1000000) (hl : n / 8 < bs.length) (hlen : bs.length ≤ 1000000) (hb : Blk w g 5 (u8s bs)) :
    Calls Try.prog 42 #[.agg #[.slice (some ⟨g, 0, none⟩) bs.length cap], .int .u64 (n : Int)] w fun e w' => e = .returned (.bool (isIn bs n)) ∧ Below w.heap.size w w' := by
  have h7 := and7 n (by omega)
  have hc := hb.get (n / 8) (u8s_get bs _ hl)
  have hf := hb.frozen (n / 8)
  have hg := hb.lt
  obtain ⟨x, hx⟩ : ∃ x, bs.getD (n / 8) 0 = x := ⟨_, rfl⟩
  rw [hx] at hc
  have HX := Lib.hid hx
  clear hx
  go_enter Try.func42, Try.ntmps42
  go_wp2
  go_ret
  refine ⟨ret_bool ?_, by go_grown⟩
  unfold isIn
  rw [HX.out]
  rfl
theorem info5 : (Try.prog.info? 5).map (fun i => (i.zero, i.size, i.bytes)) = some (some (.int .u8 0), 1, 1) := by kernel_rfl
theorem new_set (c n : Nat) (w : World) (hn : n = (c + 7) / 8) (hc : c ≤ 1000000) :
    Calls Try.prog 40 #[.int .u64 (c : Int)] w fun e w' => ∃ g, e = .returned (.agg #[.slice (some ⟨g, 0, none⟩) n n]) ∧ w.heap.size ≤ g ∧ Blk w' g 5 (u8s (List.replicate n 0)) ∧ Below w.heap.size w w' := by
  obtain ⟨i0, hi, hz0, hz1, hz2⟩ := info_parts info5
  have hN : ((c : Int) + 7) / 8 = (n : Int) := by omega
  have hnl : n ≤ 200000 := by omega
  clear hn
  have hmk := fun W => run_make (P := Try.prog) W 55 5 i0 _ Try.underlying55 hi hz0 .u64 .u64 (n : Int) (n : Int) (by omega) (by omega) (by rw [hz2]; omega) (by omega)
  rw [hz1] at hmk
  go_enter Try.func40, Try.ntmps40
  go_wp2
  refine bodyPost_ret (v := .agg #[.slice (some ⟨w.heap.size + 1, 0, none⟩) n n]) (by simp [results, Try.results40, go_sem]) rfl ⟨w.heap.size + 1, rfl, by omega, ?_, by go_grown⟩
  have hb := Blk.new (w.alloc (.cells #[.slice (some ⟨w.heap.size + 1, 0, none⟩) n n] 73)) 5 (u8s (List.replicate n 0))
  have e : (u8s (List.replicate n 0)).toArray = madeCells #[.int .u8 0] n := by
    rw [← Array.toList_inj, toList_madeCells_one]
    simp [u8s]
  rw [e] at hb
  simpa using hb
end Go.Proofs.Ytdcojgkblfobnaa.Bits
