/- The package's Joiner behind impl.Pasted: what is handed back is the texts one behind the other. The walk. -/
import Derived.Test.YtdcojgkblfobnaaPasteE
import Derived.Deep.RegionWith
namespace Go.Proofs.Ytdcojgkblfobnaa.Paste
open Go.RowKit Go.Proofs.Ytdcojgkblfobnaa.Aid
attribute [local go_sem ↓] Go.wp_at_zero Go.wp_at_succ
theorem J.cells {w : World} {g base n : Nat} {T : List UInt8} (h : J w g base n T) : w.cell? ⟨g, 2, none⟩ = some (.int .u32 T.length) ∧ w.cell? ⟨g, 3, none⟩ = some (.int .u8 (lst T)) := by
  obtain ⟨sv, bv, ns, nb, sf, bf, so, bo, bh, bc, hj, _⟩ := h
  exact ⟨Blk.get hj 2 rfl, Blk.get hj 3 rfl⟩
theorem length_ (g : Nat) (x : Int) (w : World) (h : w.cell? ⟨g, 2, none⟩ = some (.int .u32 x)) : Calls Try.prog 61 #[.pointer (some ⟨g, 0, none⟩)] w fun e w' => e = .returned (.int .u32 x) ∧ w' = w := by
  go_enter Try.func61, Try.ntmps61
  go_wp2_with fail
  go_returns
  exact ⟨rfl, rfl⟩
theorem last_ (g : Nat) (x : Int) (w : World) (h : w.cell? ⟨g, 3, none⟩ = some (.int .u8 x)) : Calls Try.prog 62 #[.pointer (some ⟨g, 0, none⟩)] w fun e w' => e = .returned (.int .u8 x) ∧ w' = w := by
  go_enter Try.func62, Try.ntmps62
  go_wp2_with fail
  go_returns
  exact ⟨rfl, rfl⟩
/-- The text with a line end behind it, if it has none. -/
def withEnd (T : List UInt8) : List UInt8 := if 0 < T.length ∧ lst T ≠ 10 then T ++ [10] else T
theorem ensure (w : World) (g base n : Nat) (T : List UInt8) (h : J w g base n T) (hn : n ≤ 200) (hT : T.length ≤ 500000) :
    Calls Try.prog 60 #[.pointer (some ⟨g, 0, none⟩)] w fun e w' => e = .returned (.tuple #[]) ∧ (∃ n', n' ≤ n + 1 ∧ J w' g base n' (withEnd T)) ∧ Below base w w' := by
  obtain ⟨c2, c3⟩ := h.cells
  obtain ⟨hb, hl⟩ := h.lt
  have H := Lib.hid h
  clear h
  by_cases h1 : 0 < T.length
  · have i1 : (0 : Int) < T.length := by omega
    by_cases h2 : lst T = 10
    · have e : withEnd T = T := if_neg (by simp [h2])
      rw [e]
      rw [h2] at c3
      clear e h2
      go_enter Try.func60, Try.ntmps60
      go_wp2_with fail
      go_returns
      exact ⟨rfl, ⟨n, by omega, H.out⟩, Below.refl _ _⟩
    · have e : withEnd T = T ++ (⟨#[10]⟩ : ByteArray).data.toList := if_pos ⟨h1, h2⟩
      rw [e]
      clear e
      go_enter Try.func60, Try.ntmps60
      go_wp2_with fail
      refine (j_str w g base n T ⟨#[10]⟩ H.out hn hT (by decide)).mono ?_
      rintro e w' ⟨rfl, k1, k2⟩
      go_wp2_with fail
      go_returns
      exact ⟨rfl, ⟨n + 1, Nat.le_refl _, k1⟩, k2⟩
  · have hz : T.length = 0 := by omega
    have e : withEnd T = T := if_neg (by omega)
    rw [e]
    rw [hz] at c2
    clear e hz h1
    have c2' : w.cell? ⟨g, 2, none⟩ = some (.int .u32 0) := c2
    clear c2
    go_enter Try.func60, Try.ntmps60
    go_wp2_with fail
    go_returns
    exact ⟨rfl, ⟨n, by omega, H.out⟩, Below.refl _ _⟩
/-- The first k texts, one behind the other. -/
def cat (z : List ByteArray) (k : Nat) : List UInt8 := (z.take k).flatMap (·.data.toList)
theorem cat_succ (z : List ByteArray) (k : Nat) (h : k < z.length) : cat z (k + 1) = cat z k ++ (z.getD k ByteArray.empty).data.toList := by
  unfold cat
  rw [List.take_succ_eq_append_getElem h, List.flatMap_append]
  simp [List.getD, List.getElem?_eq_getElem h]
theorem cat_length (z : List ByteArray) (k : Nat) (hk : k ≤ z.length) (h : ∀ i, i < z.length → (z.getD i ByteArray.empty).size ≤ 1000) : (cat z k).length ≤ k * 1000 := by
  induction k with
  | zero => simp [cat]
  | succ k ih =>
    rw [cat_succ z k (by omega), List.length_append, ← size_list]
    have := ih (by omega)
    have := h k (by omega)
    omega
/-- What the joiner hands back. -/
def text (z : List ByteArray) (nl : Bool) : List UInt8 := if nl then withEnd (cat z z.length) else cat z z.length
/-- The text back out of its row. -/
theorem conv_back (T : List UInt8) (r : Nat) (w : World) (h : ∀ i, i < T.length → w.cell? ⟨r, i, none⟩ = some (.int .u8 (tv T i))) : (convert 55 9 (.slice (some ⟨r, 0, none⟩) T.length T.length)).run Try.prog w = .ok (.string ⟨T.toArray⟩) w := by
  rw [run_convert_bytes_arg w 55 5 Try.underlying55 Try.underlying5 r 0 T.length T.length (T.map fun b => (b.toNat : Int)) (List.length_map _) (fun i hi => ?_) 9 Try.underlying9]
  · have e : (T.map fun b : UInt8 => (b.toNat : Int)).map (fun n => UInt8.ofNat n.toNat) = T := by
      rw [List.map_map]
      conv => rhs; rw [← List.map_id T]
      exact List.map_congr_left fun b _ => by simp
    simp only [strOfNums, e]
  · rw [Nat.zero_add, h i hi]
    simp [tv, List.getD, hi]
set_option maxRecDepth 100000 in
set_option maxHeartbeats 2000000 in
theorem pasted (A : Option Addr) (n c : Nat) (z : List ByteArray) (nl : Bool) (w : World) (hA : Reads w A n fun i => .string (z.getD i ByteArray.empty)) (hz : z.length = n) (hn : n ≤ 100) (hs : ∀ i, i < z.length → (z.getD i ByteArray.empty).size ≤ 1000) :
    Calls Try.prog 32 #[.slice A n c, .bool nl] w fun e w' => e = .returned (.tuple #[.string ⟨(text z nl).toArray⟩, .int .i64 (text z nl).length, .int .u8 (lst (text z nl))]) ∧ Below w.heap.size w w' := by
  subst hz
  obtain ⟨T, hT⟩ : ∃ T, T = text z nl := ⟨_, rfl⟩
  rw [← hT]
  have HT := Lib.hid hT
  clear hT
  have hcv : ∀ (w : World) (s : ByteArray), (convert 9 55 (.string s)).run Try.prog w = .ok (.slice (some ⟨w.heap.size, 0, none⟩) s.size (grownCap w s.size 0 5)) (Lib.bytesWorld w 5 s) := fun w s => Lib.run_convert_string_bytes w 9 55 5 s (u := .string) Try.underlying9 Try.underlying55 Try.underlying5
  have HA := Lib.hid hA
  clear hA
  go_enter Try.func32, Try.ntmps32
  go_wp2_with fail
  go_loopw [13] (fun v wr => ∃ k : Nat, k ≤ z.length ∧ v = .int .i64 k ∧ J wr w.heap.size w.heap.size k (cat z k) ∧ Below w.heap.size w wr) (fun v _ => z.length - (intOf v).toNat)
  case atStart => exact ⟨0, Nat.zero_le _, rfl, J.new w, below_at (Below.refl _ _) _⟩
  case round =>
    obtain ⟨k, hk, rfl, hj, hb⟩ := hrel
    by_cases hlt : k < z.length
    · obtain ⟨ab, ao, rfl, hab, ce⟩ := HA.out k hlt
      have cr : wr.cell? ⟨ab, ao + k, none⟩ = some (.string (z.getD k ByteArray.empty)) := bcell hb hab ce
      have i0 : (0 : Int) ≤ (k : Int) := by omega
      have i1 : (k : Int) < z.length := by omega
      have hsk := hs k hlt
      obtain ⟨s, es⟩ : ∃ s, s = z.getD k ByteArray.empty := ⟨_, rfl⟩
      rw [← es] at cr hsk
      have HJ := Lib.hid hj
      have hcs := cat_succ z k hlt
      rw [← es] at hcs
      have HCS := Lib.hid hcs
      have hcl := cat_length z k hk hs
      clear hj hcs ce es
      rcases Nat.mod_two_eq_zero_or_one k with hm | hm
      · have hm' : (k : Int) % 2 = 0 := by omega
        go_wp2_with fail
        refine (j_str wr w.heap.size w.heap.size k (cat z k) s HJ.out (by omega) (by omega) hsk).mono ?_
        rintro e w2 ⟨rfl, k1, k2⟩
        go_wp2_with fail
        go_roundw
        case rel => exact ⟨k + 1, by omega, by go_num, HCS.out ▸ k1, hb.trans k2⟩
        case measure => simp [intOf]; omega
      · have hm' : (k : Int) % 2 = 1 := by omega
        have hgl := HJ.out.lt.2
        have hbs := Lib.hid (bytes_new wr s)
        have hbw := Lib.hid (Lib.bytesWorld_below wr 5 s)
        go_wp2_with fail
        refine (j_bytes (Lib.bytesWorld wr 5 s) w.heap.size w.heap.size k wr.heap.size _ (cat z k) s (HJ.out.below hbw.out) (by omega) (by omega) (by omega) hsk hbs.out).mono ?_
        rintro e w2 ⟨rfl, k1, k2⟩
        have hb2 : Below w.heap.size w w2 := (hb.trans (hbw.out.mono hb.size)).trans k2
        go_wp2_with fail
        go_roundw
        case rel => exact ⟨k + 1, by omega, by go_num, HCS.out ▸ k1, hb2⟩
        case measure => simp [intOf]; omega
    · obtain rfl : k = z.length := by omega
      have hcl := cat_length z _ hk hs
      have HJ := Lib.hid hj
      clear hj
      cases nl
      · have eT : T = cat z z.length := HT.out
        rw [← eT] at hcl
        have HC := HJ.out.cells
        rw [← eT] at HC
        have HJ2 : Hid (J wr w.heap.size w.heap.size z.length T) := Lib.hid (eT ▸ HJ.out)
        have hzn : z.length ≤ 200 := by omega
        have HB := Lib.hid hb
        clear eT HJ HT hb
        go_wp2_with fail
        refine (length_ w.heap.size T.length wr HC.1).mono ?_
        rintro e w2 ⟨rfl, rfl⟩
        go_wp2_with fail
        refine (last_ w.heap.size (lst T) _ HC.2).mono ?_
        rintro e w3 ⟨rfl, rfl⟩
        go_wp2_with fail
        refine (j_done _ w.heap.size w.heap.size z.length T HJ2.out hzn (by omega)).mono ?_
        rintro e w4 ⟨⟨r, rfl, hr⟩, hb4⟩
        have hst := conv_back T r w4 hr
        have HB4 := Lib.hid (HB.out.trans (hb4.mono HB.out.size))
        clear hr hb4
        go_wp2_with fail
        go_returns
        exact ⟨rfl, HB4.out⟩
      · have eT : T = withEnd (cat z z.length) := HT.out
        have hTl : T.length ≤ z.length * 1000 + 1 := by
          rw [eT]
          unfold withEnd
          split
          · rw [List.length_append]
            simp only [List.length_cons, List.length_nil]
            omega
          · omega
        have HE := Lib.hid eT
        have HB0 := Lib.hid hb
        clear eT HT hb
        go_wp2_with fail
        refine (ensure wr w.heap.size w.heap.size z.length _ HJ.out (by omega) (by omega)).mono ?_
        rintro e w1 ⟨rfl, ⟨n', hn', hj'⟩, hb1⟩
        rw [← HE.out] at hj'
        have HC := hj'.cells
        have HJ2 := Lib.hid hj'
        have hzn : n' ≤ 200 := by omega
        have HB := Lib.hid (HB0.out.trans hb1)
        clear hj' HJ hb1
        go_wp2_with fail
        refine (length_ w.heap.size T.length _ HC.1).mono ?_
        rintro e w2 ⟨rfl, rfl⟩
        go_wp2_with fail
        refine (last_ w.heap.size (lst T) _ HC.2).mono ?_
        rintro e w3 ⟨rfl, rfl⟩
        go_wp2_with fail
        refine (j_done _ w.heap.size w.heap.size n' T HJ2.out hzn (by omega)).mono ?_
        rintro e w4 ⟨⟨r, rfl, hr⟩, hb4⟩
        have hst := conv_back T r w4 hr
        have HB4 := Lib.hid (HB.out.trans (hb4.mono HB.out.size))
        clear hr hb4
        go_wp2_with fail
        go_returns
        exact ⟨rfl, HB4.out⟩
end Go.Proofs.Ytdcojgkblfobnaa.Paste
