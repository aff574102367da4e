/- The law FnBits returns true, whatever the count and the two lists; no condition. The walk of the law. -/
import Derived.Test.YtdcojgkblfobnaaBitsB
import Derived.Deep.QuietTactic
import Derived.BigQuiet
import Derived.OpenShut
namespace Go.Proofs.Ytdcojgkblfobnaa.Bits
open Go.RowKit Go.Proofs.Ytdcojgkblfobnaa.Aid
theorem reads_blk {w : World} {g : Nat} {t : TypeId} {cs : List Value} {f : Nat → Value} (h : Blk w g t cs) (n : Nat) (hf : ∀ i, i < n → cs[i]? = some (f i)) : Reads w (some ⟨g, 0, none⟩) n f := fun i hi =>
  ⟨g, 0, rfl, h.lt, by rw [Nat.zero_add]; exact h.get i (hf i hi)⟩
def ask (i : Nat) : Nat := if i = 0 then 8 else 7
/-- What is asked first: bit 8 is there, bit 7 is not. -/
theorem awake (w : World) : Calls Try.prog 21 #[.int .u64 9, .slice (some ⟨w.heap.size, 0, none⟩) 1 1, .slice (some ⟨w.heap.size + 1, 0, none⟩) 2 2] ((w.alloc (.cells #[.int .u64 8] 35)).alloc (.cells #[.int .u64 8, .int .u64 7] 35))
    fun e w' => ∃ g c, e = .returned (.slice (some ⟨g, 0, none⟩) 2 c) ∧ w'.cell? ⟨g, 0, none⟩ = some (.bool true) ∧ w'.cell? ⟨g, 1, none⟩ = some (.bool false) ∧ Below w.heap.size w w' := by
  have h1 : Reads ((w.alloc (.cells #[.int .u64 8] 35)).alloc (.cells #[.int .u64 8, .int .u64 7] 35)) (some ⟨w.heap.size, 0, none⟩) 1 fun i => .int .u64 ((fun _ => 8) i : Nat) :=
    reads_blk ((Blk.new w 35 [.int .u64 8]).alloc _) 1 (fun i hi => by
      match i, hi with
      | 0, _ => rfl)
  have h2 : Reads ((w.alloc (.cells #[.int .u64 8] 35)).alloc (.cells #[.int .u64 8, .int .u64 7] 35)) (some ⟨w.heap.size + 1, 0, none⟩) 2 fun i => .int .u64 (ask i : Nat) := by
    have hb := Blk.new (w.alloc (.cells #[.int .u64 8] 35)) 35 [.int .u64 8, .int .u64 7]
    rw [World.size_alloc] at hb
    refine reads_blk hb 2 (fun i hi => ?_)
    match i, hi with
    | 0, _ => rfl
    | 1, _ => rfl
  refine (impl_bits 9 1 1 2 2 _ _ _ _ _ (by omega) (by omega) (by omega) h1 h2).mono ?_
  rintro e w' ⟨v, rfl, hown, hb⟩
  obtain ⟨A, c, rfl, hr⟩ := own_form hown
  obtain ⟨g, rfl, _, _, c0⟩ := hr 0 (by omega)
  obtain ⟨g', hg, _, _, c1⟩ := hr 1 (by omega)
  obtain rfl : g = g' := by simpa using hg
  exact ⟨g, c, rfl, c0, c1, (below_at (below_at (Below.refl _ w) _) _).trans (hb.mono (by simp; omega))⟩
set_option maxRecDepth 100000 in
set_option maxHeartbeats 1000000 in
theorem law_main (c n1 c1 n2 c2 : Nat) (A1 A2 : Option Addr) (xs ys : Nat → Nat) (w : World) (hc : c ≤ 4096) (hn1 : n1 ≤ 2147483647) (hn2 : n2 ≤ 2147483647)
    (hx : Reads w A1 n1 fun i => .int .u64 (xs i : Nat)) (hy : Reads w A2 n2 fun i => .int .u64 (ys i : Nat)) :
    Calls Try.prog 7 #[.int .u64 (c : Int), .slice A1 n1 c1, .slice A2 n2 c2] w fun e w' => e = .returned (.bool true) ∧ Below w.heap.size w w' := by
  have HX := Lib.hid hx
  have HY := Lib.hid hy
  clear hx hy
  go_enter Try.func7, Try.ntmps7
  go_wp2_with fail
  refine (awake w).mono ?_
  rintro e w1 ⟨g, z, rfl, a0, a1, B1⟩
  go_wp2_with fail
  refine (impl_bits c n1 c1 n2 c2 A1 A2 xs ys w1 hc (by omega) (by omega) (HX.out.below B1) (HY.out.below B1)).mono ?_
  rintro e w2 ⟨v, rfl, hown, hb⟩
  obtain ⟨A, z', rfl, hr⟩ := own_form hown
  have B2 : Below w.heap.size w w2 := B1.trans (hb.mono B1.size)
  have HR := Lib.hid hr
  have HX2 := Lib.hid (HX.out.below B2)
  have HY2 := Lib.hid (HY.out.below B2)
  clear hr hown hb HX HY a0 a1
  go_wp2_with fail
  go_loopw [52] (fun i wr => ∃ j : Nat, j ≤ n2 ∧ i = .int .i64 j ∧ ∃ m, wr = w2.drewN m) (fun i _ => n2 - (intOf i).toNat)
  case atStart => exact ⟨0, Nat.zero_le _, rfl, 0, rfl⟩
  case round =>
    obtain ⟨j, hj, rfl, m, rfl⟩ := hrel
    by_cases hlt : j < n2
    · obtain ⟨g', rfl, _, _, hout⟩ := HR.out j (by omega)
      obtain ⟨b2, o2, rfl, _, hask⟩ := HY2.out j hlt
      rw [List.getElem?_map, List.getElem?_range hlt] at hout
      replace hout : w2.cell? ⟨g', j, none⟩ = some (.bool (among xs n1 c (ys j))) := hout
      obtain ⟨q, hq⟩ : ∃ q, among xs n1 c (ys j) = q := ⟨_, rfl⟩
      rw [hq] at hout
      have Hq := Lib.hid hq
      clear hq
      go_wp2_with fail
      go_loopw [11, 57] (fun v i wr => ∃ k : Nat, k ≤ n1 ∧ i = .int .i64 k ∧ v = .bool (among xs k c (ys j)) ∧ ∃ m, wr = w2.drewN m) (fun _ i _ => n1 - (intOf i).toNat)
      case atStart => exact ⟨0, Nat.zero_le _, rfl, by rw [among_zero], m, rfl⟩
      case round =>
        obtain ⟨k, hk, rfl, rfl, m2, rfl⟩ := hrel
        by_cases hlk : k < n1
        · obtain ⟨b1, o1, rfl, _, hset⟩ := HX2.out k hlk
          obtain ⟨p, hp⟩ : ∃ p, among xs k c (ys j) = p := ⟨_, rfl⟩
          rw [hp]
          have Hp := Lib.hid hp
          clear hp
          cases p with
          | true =>
            go_wp2_with fail
            go_quiet (fail)
            go_wp2_with fail
            go_roundw
            case rel => exact ⟨k + 1, by omega, by go_num, by rw [among_succ, Hp.out]; rfl, _, rfl⟩
            case measure => simp [intOf]; omega
          | false =>
            by_cases e : xs k = ys j
            · have he : ((xs k : Int) == (ys j : Int)) = true := by simp [e]
              have E := Lib.hid e
              clear e
              by_cases l : ys j < c
              · go_wp2_with fail
                go_quiet (fail)
                go_wp2_with fail
                go_roundw
                case rel => exact ⟨k + 1, by omega, by go_num, by rw [among_succ, Hp.out, E.out]; simp [l], _, rfl⟩
                case measure => simp [intOf]; omega
              · go_wp2_with fail
                go_quiet (fail)
                go_wp2_with fail
                go_roundw
                case rel => exact ⟨k + 1, by omega, by go_num, by rw [among_succ, Hp.out, E.out]; simp [l], _, rfl⟩
                case measure => simp [intOf]; omega
            · have he : ((xs k : Int) == (ys j : Int)) = false := by simp; omega
              have E := Lib.hid e
              clear e
              go_wp2_with fail
              go_quiet (fail)
              go_wp2_with fail
              go_roundw
              case rel => exact ⟨k + 1, by omega, by go_num, by rw [among_succ, Hp.out]; simp [E.out], _, rfl⟩
              case measure => simp [intOf]; omega
        · have hkk : k = n1 := by omega
          subst hkk
          rw [Hq.out]
          have hqq : (q != q) = false := by simp
          go_wp2_with fail
          go_roundw
          case rel => exact ⟨j + 1, by omega, by go_num, _, rfl⟩
          case measure => simp [intOf]; omega
    · have hjj : j = n2 := by omega
      subst hjj
      go_wp2_with fail
      go_ret
      exact ⟨rfl, below_drewN B2 _⟩
set_option maxRecDepth 100000 in
theorem law_more (c n1 c1 n2 c2 : Nat) (A1 A2 : Option Addr) (w : World) (hc : ¬ c ≤ 4096) (hn1 : n1 ≤ 2147483647) (hn2 : n2 ≤ 2147483647) :
    Calls Try.prog 7 #[.int .u64 (c : Int), .slice A1 n1 c1, .slice A2 n2 c2] w fun e w' => e = .returned (.bool true) ∧ Below w.heap.size w w' := by
  go_enter Try.func7, Try.ntmps7
  go_wp2_with fail
  refine (awake w).mono ?_
  rintro e w1 ⟨g, z, rfl, a0, a1, B1⟩
  go_wp2_with fail
  go_ret
  exact ⟨rfl, B1⟩
theorem law_large (c : Int) (n1 c1 n2 c2 : Nat) (A1 A2 : Option Addr) (w : World) (h : ¬ (n1 ≤ 2147483647 ∧ n2 ≤ 2147483647)) :
    Calls Try.prog 7 #[.int .u64 c, .slice A1 n1 c1, .slice A2 n2 c2] w fun e w' => e = .returned (.bool true) ∧ Below w.heap.size w w' := by
  go_enter Try.func7, Try.ntmps7
  go_wp2_with fail
  all_goals first | (exfalso; omega) | (go_ret; exact ⟨rfl, Below.refl _ _⟩)
abbrev Row64 (w : World) (a : Option Addr) (len cap : Nat) (zs : List Int) : Prop :=
  (a = none ∧ len = 0 ∧ cap = 0 ∧ zs = []) ∨
  ∃ x, a = some x ∧ len ≤ cap ∧ cap ≤ maxLen ∧ zs.length = cap ∧ (∀ i, i < zs.length → w.cell? (x.add i) = some (.int .u64 (zs.getD i 0))) ∧ ∀ n ∈ zs, (Lit.int .u64 n).wf = true
theorem u64_wf {n : Int} (h : (Lit.int .u64 n).wf = true) : 0 ≤ n ∧ n < 18446744073709551616 := by
  have := bounds_u64 h
  omega
theorem reads_row {w : World} {a : Option Addr} {len cap : Nat} {zs : List Int} (h : Row64 w a len cap zs) : Reads w a len fun i => .int .u64 ((fun i => (zs.getD i 0).toNat) i : Nat) := by
  rcases h with ⟨_, h, _⟩ | ⟨x, rfl, hl, _, hz, hc, hw⟩
  · intro i hi
    omega
  · intro i hi
    obtain ⟨b, off, rfl, hc'⟩ := ints_at hc (by omega)
    have h0 := hc' i (by omega)
    have hm := u64_wf (hw (zs.getD i 0) (by
      rw [List.getD_eq_getElem?_getD, List.getElem?_eq_getElem (by omega)]
      exact List.getElem_mem _))
    refine ⟨b, off, rfl, World.block_lt_of_cell? w _ h0, ?_⟩
    rw [h0]
    simp only [Int.toNat_of_nonneg hm.1]
theorem whole (c : Int) (a1 : Option Addr) (len1 cap1 : Nat) (z1 : List Int) (a2 : Option Addr) (len2 cap2 : Nat) (z2 : List Int) (w : World) (hw : (Lit.int .u64 c).wf = true) (w1 : Row64 w a1 len1 cap1 z1) (_ : len1 * 8 ≤ 140737488351232) (w2 : Row64 w a2 len2 cap2 z2) (_ : len2 * 8 ≤ 140737488351232) :
    Calls Try.prog 7 #[.int .u64 c, .slice a1 len1 cap1, .slice a2 len2 cap2] w fun e w' => e = .returned (.bool true) ∧ Below w.heap.size w w' := by
  have hc := (u64_wf hw).1
  obtain ⟨n, rfl⟩ := Int.eq_ofNat_of_zero_le hc
  by_cases hl : len1 ≤ 2147483647 ∧ len2 ≤ 2147483647
  · by_cases h4 : n ≤ 4096
    · exact law_main n len1 cap1 len2 cap2 a1 a2 _ _ w h4 hl.1 hl.2 (reads_row w1) (reads_row w2)
    · exact law_more n len1 cap1 len2 cap2 a1 a2 w h4 hl.1 hl.2
  · exact law_large _ len1 cap1 len2 cap2 a1 a2 w hl
end Go.Proofs.Ytdcojgkblfobnaa.Bits
