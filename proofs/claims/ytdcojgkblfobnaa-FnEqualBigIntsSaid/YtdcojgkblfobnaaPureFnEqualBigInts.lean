/- For every two texts, what the package tells of two BigInt literals is so: two that it tells to be equal have one value, two that it tells to be unequal have two; no condition. -/
import Derived.Test.YtdcojgkblfobnaaQbigx3
import Derived.Test.YtdcojgkblfobnaaNats
namespace Go.Proofs.Ytdcojgkblfobnaa.Pure
open Go.RowKit Go.Proofs.Ytdcojgkblfobnaa.Qbig Go.Proofs.YtdcojgkblfobnaaW.PrintWords Go.Proofs.YtdcojgkblfobnaaW.PrintLast

namespace Eb
open Go.Proofs.Ytdcojgkblfobnaa.Nats

theorem wrap_small (i : Int) (h0 : -4611686018427387904 ≤ i) (h1 : i ≤ 4611686018427387904) : wrap64 i = i := by
  unfold wrap64
  omega

theorem hex_f (c : Int) (h0 : 0 ≤ c) (h1 : c ≤ 255) : spec_Hex.f c = some (hexv c) := by
  unfold spec_Hex.f spec_Digit.f spec_between.f hexv
  by_cases a1 : 48 ≤ c
  · by_cases a2 : c ≤ 57
    · simp only [a1, a2, if_true, Option.bind_some, decide_true, and_self]
      rw [wrap_small _ (by omega) (by omega)]
    · by_cases b1 : 97 ≤ c
      · by_cases b2 : c ≤ 102
        · simp only [a1, a2, b1, b2, if_true, Option.bind_some, decide_true, decide_false, and_self, and_false, if_false, Bool.false_eq_true]
          rw [wrap_small (c - 97) (by omega) (by omega), wrap_small _ (by omega) (by omega)]
          congr 1
          omega
        · have c2 : ¬ c ≤ 70 := by omega
          have c1 : 65 ≤ c := by omega
          simp [a1, a2, b1, b2, c1, c2]
      · by_cases c1 : 65 ≤ c
        · by_cases c2 : c ≤ 70
          · simp only [a1, a2, b1, c1, c2, if_true, Option.bind_some, decide_true, decide_false, and_self, and_false, false_and, if_false, Bool.false_eq_true]
            rw [wrap_small (c - 65) (by omega) (by omega), wrap_small _ (by omega) (by omega)]
            congr 1
            omega
          · simp [a1, a2, b1, c1, c2]
        · simp [a1, a2, b1, c1]
  · have b1 : ¬ 97 ≤ c := by omega
    have c1 : ¬ 65 ≤ c := by omega
    simp [a1, b1, c1]

theorem base_f (s : ByteArray) : ∃ b : Int, (∀ k, 3 ≤ k → spec_numBase.f k s = some b) ∧ (b = 0 ∨ b = 16 ∨ b = 8 ∨ b = 2) ∧ (0 < b → 2 ≤ s.size ∧ bt s 0 = 48) := by
  by_cases h : s.size < 2
  · refine ⟨0, fun k hk => ?_, by omega, fun h0 => by omega⟩
    obtain ⟨k, rfl⟩ : ∃ m, k = m + 1 := ⟨k - 1, by omega⟩
    unfold spec_numBase.f
    rw [if_pos (by omega)]
    rfl
  · by_cases h0 : bt s 0 = 48
    · have key : ∃ b : Int, (b = 0 ∨ b = 16 ∨ b = 8 ∨ b = 2) ∧ ∀ k, spec_numBase.j0 (k + 3) s false = some b := by
        by_cases a1 : bt s 1 = 120
        · refine ⟨16, by omega, fun k => ?_⟩
          simp only [spec_numBase.j0, spec_numBase.j1]
          rw [if_neg (by simp), if_pos (by omega), if_pos a1, if_pos (by simp [a1])]
        · by_cases a2 : bt s 1 = 88
          · refine ⟨16, by omega, fun k => ?_⟩
            simp only [spec_numBase.j0, spec_numBase.j1]
            rw [if_neg (by simp), if_pos (by omega), if_neg a1, if_pos (by simp [a2])]
          · by_cases b1 : bt s 1 = 111
            · refine ⟨8, by omega, fun k => ?_⟩
              simp only [spec_numBase.j0, spec_numBase.j1, spec_numBase.j2]
              rw [if_neg (by simp), if_pos (by omega), if_neg a1, if_neg (by simp [a2]), if_pos b1, if_pos (by simp [b1])]
            · by_cases b2 : bt s 1 = 79
              · refine ⟨8, by omega, fun k => ?_⟩
                simp only [spec_numBase.j0, spec_numBase.j1, spec_numBase.j2]
                rw [if_neg (by simp), if_pos (by omega), if_neg a1, if_neg (by simp [a2]), if_neg b1, if_pos (by simp [b2])]
              · by_cases c1 : bt s 1 = 98
                · refine ⟨2, by omega, fun k => ?_⟩
                  simp only [spec_numBase.j0, spec_numBase.j1, spec_numBase.j2]
                  rw [if_neg (by simp), if_pos (by omega), if_neg a1, if_neg (by simp [a2]), if_neg b1, if_neg (by simp [b2]), if_pos c1]
                · by_cases c2 : bt s 1 = 66
                  · refine ⟨2, by omega, fun k => ?_⟩
                    simp only [spec_numBase.j0, spec_numBase.j1, spec_numBase.j2]
                    rw [if_neg (by simp), if_pos (by omega), if_neg a1, if_neg (by simp [a2]), if_neg b1, if_neg (by simp [b2]), if_neg c1, if_pos c2]
                  · refine ⟨0, by omega, fun k => ?_⟩
                    simp only [spec_numBase.j0, spec_numBase.j1, spec_numBase.j2]
                    rw [if_neg (by simp), if_pos (by omega), if_neg a1, if_neg (by simp [a2]), if_neg b1, if_neg (by simp [b2]), if_neg c1, if_neg c2]
      obtain ⟨b, hb, hk⟩ := key
      refine ⟨b, fun k h3 => ?_, hb, fun _ => ⟨by omega, h0⟩⟩
      obtain ⟨k, rfl⟩ : ∃ m, k = m + 3 := ⟨k - 3, by omega⟩
      unfold spec_numBase.f
      rw [if_neg (by omega), if_pos (by omega), show (bt s 0 != 48) = false from by simp [h0]]
      exact hk k
    · refine ⟨0, fun k hk => ?_, by omega, fun h0 => by omega⟩
      obtain ⟨k, rfl⟩ : ∃ m, k = m + 1 := ⟨k - 1, by omega⟩
      unfold spec_numBase.f
      rw [if_neg (by omega), if_pos (by omega), show (bt s 0 != 48) = true from by simp [h0]]
      rfl

theorem run_l0 (s : ByteArray) (at_ : Nat) (base : Int) (hs : s.size ≤ 140737488351232) (d : Nat) : ∀ i : Nat, at_ + i + d = s.size →
    ∃ r : Nat, i ≤ r ∧ at_ + r ≤ s.size ∧ (∀ p : Nat, i ≤ p → p < r → 0 ≤ hexv (bt s ((at_ : Int) + p)) ∧ hexv (bt s ((at_ : Int) + p)) < base) ∧ ∀ k, d < k → spec_numRun.l0 k s (at_ : Int) base (i : Int) = some (r : Int) := by
  induction d with
  | zero =>
    intro i hi
    refine ⟨i, by omega, by omega, fun p h1 h2 => by omega, fun k hk => ?_⟩
    obtain ⟨k, rfl⟩ : ∃ m, k = m + 1 := ⟨k - 1, by omega⟩
    simp only [spec_numRun.l0]
    rw [wrap_small _ (by omega) (by omega), if_neg (by omega)]
  | succ d ih =>
    intro i hi
    have hb := bt_range s ((at_ : Int) + i)
    by_cases hx : 0 ≤ hexv (bt s ((at_ : Int) + i)) ∧ hexv (bt s ((at_ : Int) + i)) < base
    · obtain ⟨r, h1, h2, h3, h4⟩ := ih (i + 1) (by omega)
      refine ⟨r, by omega, h2, fun p hp hr => ?_, fun k hk => ?_⟩
      · by_cases e : p = i
        · rw [e]
          exact hx
        · exact h3 p (by omega) hr
      · obtain ⟨k, rfl⟩ : ∃ m, k = m + 1 := ⟨k - 1, by omega⟩
        simp only [spec_numRun.l0]
        rw [wrap_small ((at_ : Int) + i) (by omega) (by omega), if_pos (by omega), if_pos (by omega), wrap_small (bt s ((at_ : Int) + i)) (by omega) (by omega), hex_f _ hb.1 hb.2]
        simp only [Option.bind_some]
        rw [if_pos hx.1, if_pos hx.2, wrap_small _ (by omega) (by omega)]
        exact h4 k (by omega)
    · refine ⟨i, by omega, by omega, fun p h1 h2 => by omega, fun k hk => ?_⟩
      obtain ⟨k, rfl⟩ : ∃ m, k = m + 1 := ⟨k - 1, by omega⟩
      simp only [spec_numRun.l0]
      rw [wrap_small ((at_ : Int) + i) (by omega) (by omega), if_pos (by omega), if_pos (by omega), wrap_small (bt s ((at_ : Int) + i)) (by omega) (by omega), hex_f _ hb.1 hb.2]
      simp only [Option.bind_some]
      by_cases h0 : 0 ≤ hexv (bt s ((at_ : Int) + i))
      · rw [if_pos h0, if_neg (by omega)]
      · rw [if_neg h0]

theorem run_f (s : ByteArray) (at_ : Nat) (base : Int) (hs : s.size ≤ 140737488351232) (ha : at_ ≤ s.size) :
    ∃ r : Nat, at_ + r ≤ s.size ∧ (∀ p : Nat, p < r → 0 ≤ hexv (bt s ((at_ : Int) + p)) ∧ hexv (bt s ((at_ : Int) + p)) < base) ∧ ∀ k, s.size < k → spec_numRun.f k s (at_ : Int) base = some (r : Int) := by
  obtain ⟨r, _, h2, h3, h4⟩ := run_l0 s at_ base hs (s.size - at_) 0 (by omega)
  exact ⟨r, h2, fun p hp => h3 p (by omega) hp, fun k hk => h4 k (by omega)⟩

theorem trim_l0 (l : List Int) (hl : l.length ≤ 140737488351232) : ∀ (i k : Nat), i ≤ l.length → i < k → spec_natTrim.l0 k l (i : Int) = some (trimTo l i) := by
  intro i
  induction i with
  | zero =>
    intro k _ hk
    obtain ⟨k, rfl⟩ : ∃ m, k = m + 1 := ⟨k - 1, by omega⟩
    simp only [spec_natTrim.l0]
    rw [if_neg (by omega), if_pos (by omega), if_pos (by omega)]
    simp [trimTo]
  | succ i ih =>
    intro k hi hk
    obtain ⟨k, rfl⟩ : ∃ m, k = m + 1 := ⟨k - 1, by omega⟩
    have e : wrap64 (((i + 1 : Nat) : Int) - 1) = (i : Int) := by rw [wrap_small _ (by omega) (by omega)]; omega
    simp only [spec_natTrim.l0]
    have hr : rd l (i : Int) = l.getD i 0 := rfl
    rw [e, if_pos (by omega), if_pos (by omega), if_pos (by omega), hr, trimTo]
    by_cases h0 : l.getD i 0 = 0
    · rw [if_pos h0, if_pos h0]
      exact ih k (by omega) (by omega)
    · rw [if_neg h0, if_neg h0, if_pos (by omega), if_pos (by omega)]
      rfl

theorem trim_f (l : List Int) (hl : l.length ≤ 140737488351232) (k : Nat) (hk : l.length < k) : spec_natTrim.f k l = some (trim l) := trim_l0 l hl l.length k (Nat.le_refl _) hk

theorem times_l0 (l : List Int) (m : Int) (hl : l.length ≤ 8796093022208) (d : Nat) : ∀ (i k : Nat) (more : Int) (acc : List Int), l.length = i + d → acc.length = i → l.length + 3 + d ≤ k →
    spec_natTimes.l0 k l m more acc (i : Int) = some (trim (acc ++ times (l.drop i) m more)) := by
  induction d with
  | zero =>
    intro i k more acc hi ha hk
    obtain ⟨k, rfl⟩ : ∃ m, k = m + 1 := ⟨k - 1, by omega⟩
    simp only [spec_natTimes.l0]
    rw [if_neg (by omega), if_pos (by omega), List.drop_of_length_le (by omega), trim_f _ (by simp; omega) k (by simp; omega)]
    rfl
  | succ d ih =>
    intro i k more acc hi ha hk
    obtain ⟨k, rfl⟩ : ∃ m, k = m + 1 := ⟨k - 1, by omega⟩
    have hlt : i < l.length := by omega
    have hr : rd l (i : Int) = l[i] := by simp [rd, hlt]
    simp only [spec_natTimes.l0]
    rw [if_pos (by omega), if_pos (by omega), if_pos (by omega), wrap_small ((i : Int) + 1) (by omega) (by omega), hr]
    have h := ih (i + 1) k (sum l[i] m more / 4294967296) (acc ++ [Go.bits .and .u64 (sum l[i] m more) 4294967295]) (by omega) (by simp; omega) (by omega)
    rw [List.drop_eq_getElem_cons hlt, times]
    simp only [List.append_assoc, List.singleton_append] at h
    exact h

theorem times_f (l : List Int) (m more : Int) (hl : l.length ≤ 8796093022208) (k : Nat) (hk : 2 * l.length + 3 ≤ k) : spec_natTimes.f k l m more = some (trim (times l m more)) := by
  have h := times_l0 l m hl l.length 0 k more [] (by omega) rfl (by omega)
  unfold spec_natTimes.f
  simpa using h

theorem bytes_drop (s : ByteArray) (i : Nat) (h : i < s.size) : (bytesOf s).drop i = bt s (i : Int) :: (bytesOf s).drop (i + 1) := by
  have hl : i < (bytesOf s).length := by rw [bytesOf_length]; exact h
  rw [List.drop_eq_getElem_cons hl, ← rd_bytesOf]
  simp [rd, hl]

theorem natural_l0 (s : ByteArray) (base : Int) (d : Nat) : ∀ (i k : Nat) (acc : List Int), s.size = i + d → acc.length + d ≤ 8796093022208 → s.size ≤ 140737488351232 → 3 * d + 2 * acc.length + 10 ≤ k →
    spec_Natural.l0 k s base acc (i : Int) = some (natl (IntKind.u64.wrap base) acc ((bytesOf s).drop i)) := by
  induction d with
  | zero =>
    intro i k acc hi ha hs hk
    obtain ⟨k, rfl⟩ : ∃ m, k = m + 1 := ⟨k - 1, by omega⟩
    simp only [spec_Natural.l0]
    rw [if_neg (by omega), List.drop_of_length_le (by rw [bytesOf_length]; omega)]
    rfl
  | succ d ih =>
    intro i k acc hi ha hs hk
    obtain ⟨k, rfl⟩ : ∃ m, k = m + 1 := ⟨k - 1, by omega⟩
    have hb := bt_range s (i : Int)
    have hn := natl_snoc_length (IntKind.u64.wrap base) acc (bt s (i : Int))
    simp only [spec_Natural.l0]
    rw [if_pos (by omega), if_pos (by omega), wrap_small (bt s (i : Int)) (by omega) (by omega), hex_f _ hb.1 hb.2]
    simp only [Option.bind_some]
    rw [times_f acc _ _ (by omega) k (by omega)]
    simp only [Option.bind_some]
    rw [wrap_small ((i : Int) + 1) (by omega) (by omega), bytes_drop s i (by omega), natl]
    exact ih (i + 1) k _ (by omega) (by omega) hs (by omega)

theorem natural_f (s : ByteArray) (base : Int) (hs : s.size ≤ 4294967296) (k : Nat) (hk : 3 * s.size + 10 ≤ k) : spec_Natural.f k s base = some (natl (IntKind.u64.wrap base) [] (bytesOf s)) := by
  have h := natural_l0 s base s.size 0 k [] (by omega) (by simp; omega) (by omega) (by simp; omega)
  unfold spec_Natural.f
  simpa using h

theorem natl_length (base : Int) : ∀ (cs acc : List Int), (natl base acc cs).length ≤ acc.length + cs.length
  | [], acc => by simp [natl]
  | c :: cs, acc => by
    have h1 := natl_snoc_length base acc c
    have h2 := natl_length base cs (trim (times acc base (IntKind.u64.wrap (hexv c))))
    simp only [natl, List.length_cons]
    omega

/-- No zero ahead of other signs. -/
def Nz (s : ByteArray) : Prop := s.size < 2 ∨ bt s 0 ≠ 48

theorem canon_of (s : ByteArray) (r : Nat) (hr : r = s.size) (h0 : r ≠ 0) (hd : ∀ p : Nat, p < r → 0 ≤ hexv (bt s (p : Int)) ∧ hexv (bt s (p : Int)) < 10) (hz : Nz s) : Canon (bytesOf s) := by
  refine ⟨fun c hc => ?_, fun e => ?_, fun h1 => ?_⟩
  · obtain ⟨i, hi, rfl⟩ := List.getElem_of_mem hc
    have hi' : i < s.size := by rwa [bytesOf_length] at hi
    have h := hd i (by omega)
    rw [← rd_bytesOf] at h
    have e : rd (bytesOf s) (i : Int) = (bytesOf s)[i] := by simp [rd, hi]
    rw [e] at h
    exact digit_of_hexv h.1 h.2
  · have := bytesOf_length s
    rw [e] at this
    simp at this
    omega
  · rw [bytesOf_length] at h1
    have := rd_bytesOf s 0
    have h2 : rd (bytesOf s) 0 = (bytesOf s).getD 0 0 := rfl
    rw [← h2, this]
    rcases hz with hz | hz
    · omega
    · exact hz

theorem big_f (s : ByteArray) (hs : s.size ≤ 2147483647) : ∃ (l : List Int) (b : Bool), (∀ k, 4 * s.size + 20 ≤ k → spec_NumBig.f k s = some (l, b)) ∧ l.length ≤ s.size ∧
    (b = true → Nz s → Canon (bytesOf s) ∧ Norm l ∧ val l = dv 10 0 (bytesOf s)) := by
  obtain ⟨bs, hb, hbs, hb2⟩ := base_f s
  by_cases h : bs > 0
  · obtain ⟨h2, h48⟩ := hb2 h
    obtain ⟨r, h1, h3, h4⟩ := run_f s 2 bs (by omega) h2
    have hx : (s.extract 2 s.size).size ≤ s.size := by rw [ByteArray.size_extract]; omega
    have hnz : ¬ Nz s := fun hz => by
      rcases hz with hz | hz
      · omega
      · exact hz h48
    have hlen : (natl (IntKind.u64.wrap bs) [] (bytesOf (s.extract 2 s.size))).length ≤ s.size := by
      have := natl_length (IntKind.u64.wrap bs) (bytesOf (s.extract 2 s.size)) []
      rw [bytesOf_length] at this
      simp at this
      omega
    by_cases hr : (r : Int) > 0
    · refine ⟨natl (IntKind.u64.wrap bs) [] (bytesOf (s.extract 2 s.size)), ((wrap64 (2 + (r : Int))) == (s.size : Int)), fun k hk => ?_, hlen, fun _ hz => absurd hz hnz⟩
      unfold spec_NumBig.f
      rw [hb k (by omega)]
      simp only [Option.bind_some]
      have h4' := h4 k (by omega)
      rw [if_pos h, show spec_numRun.f k s 2 bs = some (r : Int) from h4']
      simp only [Option.bind_some]
      rw [if_pos (by omega), natural_f _ bs (by omega) k (by omega)]
      simp only [Option.bind_some]
      rw [if_pos hr]
    · refine ⟨natl (IntKind.u64.wrap bs) [] (bytesOf (s.extract 2 s.size)), false, fun k hk => ?_, hlen, fun h => by cases h⟩
      unfold spec_NumBig.f
      rw [hb k (by omega)]
      simp only [Option.bind_some]
      have h4' := h4 k (by omega)
      rw [if_pos h, show spec_numRun.f k s 2 bs = some (r : Int) from h4']
      simp only [Option.bind_some]
      rw [if_pos (by omega), natural_f _ bs (by omega) k (by omega)]
      simp only [Option.bind_some]
      rw [if_neg hr]
  · obtain ⟨r, h1, h3, h4⟩ := run_f s 0 10 (by omega) (by omega)
    have h3' : ∀ p : Nat, p < r → 0 ≤ hexv (bt s (p : Int)) ∧ hexv (bt s (p : Int)) < 10 := fun p hp => by simpa using h3 p hp
    by_cases h0 : r = 0
    · refine ⟨[], false, fun k hk => ?_, by simp, fun h => by cases h⟩
      unfold spec_NumBig.f
      rw [hb k (by omega)]
      simp only [Option.bind_some]
      have h4' := h4 k (by omega)
      rw [if_neg h, show spec_numRun.f k s 0 10 = some (r : Int) from h4']
      simp only [Option.bind_some]
      rw [if_pos (by omega)]
    · by_cases hw : r = s.size
      · by_cases hz : Nz s
        · have hc := canon_of s r hw h0 h3' hz
          obtain ⟨n1, n2⟩ := natl_val 10 (by omega) (by omega) (bytesOf s) [] trivial (fun c hc' => hc.hex c hc')
          have e10 : IntKind.u64.wrap 10 = 10 := by rw [IntKind.wrap_u64]; rfl
          refine ⟨natl (IntKind.u64.wrap 10) [] (bytesOf s), true, fun k hk => ?_, ?_, fun _ _ => ⟨hc, by rw [e10]; exact n1, by rw [e10]; exact n2⟩⟩
          · unfold spec_NumBig.f
            rw [hb k (by omega)]
            simp only [Option.bind_some]
            have h4' := h4 k (by omega)
            rw [if_neg h, show spec_numRun.f k s 0 10 = some (r : Int) from h4']
            simp only [Option.bind_some]
            rw [if_neg (by omega), if_pos (by omega)]
            by_cases hr : (r : Int) > 1
            · rw [if_pos hr, if_pos (by omega)]
              have : ¬ bt s 0 = 48 := by
                rcases hz with hz | hz
                · omega
                · exact hz
              rw [if_neg this, natural_f s 10 (by omega) k (by omega)]
              rfl
            · rw [if_neg hr, natural_f s 10 (by omega) k (by omega)]
              rfl
          · have := natl_length (IntKind.u64.wrap 10) (bytesOf s) []
            rw [bytesOf_length] at this
            simpa using this
        · have hz' : 2 ≤ s.size ∧ bt s 0 = 48 := by
            refine ⟨?_, ?_⟩
            · rcases Nat.lt_or_ge s.size 2 with h | h
              · exact absurd (.inl h) hz
              · exact h
            · by_cases h : bt s 0 = 48
              · exact h
              · exact absurd (.inr h) hz
          refine ⟨[], false, fun k hk => ?_, by simp, fun h => by cases h⟩
          unfold spec_NumBig.f
          rw [hb k (by omega)]
          simp only [Option.bind_some]
          have h4' := h4 k (by omega)
          rw [if_neg h, show spec_numRun.f k s 0 10 = some (r : Int) from h4']
          simp only [Option.bind_some]
          rw [if_neg (by omega), if_pos (by omega), if_pos (by omega), if_pos (by omega), if_pos hz'.2]
      · refine ⟨[], false, fun k hk => ?_, by simp, fun h => by cases h⟩
        unfold spec_NumBig.f
        rw [hb k (by omega)]
        simp only [Option.bind_some]
        have h4' := h4 k (by omega)
        rw [if_neg h, show spec_numRun.f k s 0 10 = some (r : Int) from h4']
        simp only [Option.bind_some]
        rw [if_neg (by omega), if_neg (by omega)]

theorem cmp_l0 (x y : List Int) (hl : x.length = y.length) (hx : x.length ≤ 140737488351232) : ∀ n : Nat, n ≤ x.length → ∃ r : Int, (∀ k, n < k → spec_natCmp.l0 k x y ((n : Int) - 1) = some r) ∧ (r = 0 ↔ x.take n = y.take n) := by
  intro n
  induction n with
  | zero =>
    intro _
    refine ⟨0, fun k hk => ?_, by simp⟩
    obtain ⟨k, rfl⟩ : ∃ m, k = m + 1 := ⟨k - 1, by omega⟩
    simp only [spec_natCmp.l0]
    rw [if_neg (by omega)]
  | succ n ih =>
    intro hn
    obtain ⟨r, h1, h2⟩ := ih (by omega)
    have hrx : rd x (n : Int) = x.getD n 0 := rfl
    have hry : rd y (n : Int) = y.getD n 0 := rfl
    have e1 : (((n + 1 : Nat) : Int) - 1) = (n : Int) := by omega
    have e2 : x.take (n + 1) = y.take (n + 1) ↔ x.take n = y.take n ∧ x.getD n 0 = y.getD n 0 := by
      rw [take_snoc x n (by omega), take_snoc y n (by omega)]
      constructor
      · intro h
        have := List.append_inj h (by simp; omega)
        exact ⟨this.1, by simpa using this.2⟩
      · rintro ⟨a, b⟩
        rw [a, b]
    rw [e1, e2]
    by_cases e : x.getD n 0 = y.getD n 0
    · refine ⟨r, fun k hk => ?_, by rw [h2]; simp only [e, and_true]⟩
      obtain ⟨k, rfl⟩ : ∃ m, k = m + 1 := ⟨k - 1, by omega⟩
      simp only [spec_natCmp.l0]
      rw [if_pos (by omega), if_pos (by omega), if_pos (by omega), if_pos (by omega), hrx, hry, if_pos e, wrap_small _ (by omega) (by omega)]
      exact h1 k (by omega)
    · by_cases lt : x.getD n 0 < y.getD n 0
      · refine ⟨-1, fun k hk => ?_, ⟨fun h => by omega, fun h => absurd h.2 e⟩⟩
        obtain ⟨k, rfl⟩ : ∃ m, k = m + 1 := ⟨k - 1, by omega⟩
        simp only [spec_natCmp.l0]
        rw [if_pos (by omega), if_pos (by omega), if_pos (by omega), if_pos (by omega), hrx, hry, if_neg e, if_pos lt]
      · refine ⟨1, fun k hk => ?_, ⟨fun h => by omega, fun h => absurd h.2 e⟩⟩
        obtain ⟨k, rfl⟩ : ∃ m, k = m + 1 := ⟨k - 1, by omega⟩
        simp only [spec_natCmp.l0]
        rw [if_pos (by omega), if_pos (by omega), if_pos (by omega), if_pos (by omega), hrx, hry, if_neg e, if_neg lt]

theorem cmp_f (x y : List Int) (hx : x.length ≤ 2147483647) : ∃ r : Int, (∀ k, x.length < k → spec_natCmp.f k x y = some r) ∧ (r = 0 ↔ x = y) := by
  by_cases hl : x.length = y.length
  · obtain ⟨r, h1, h2⟩ := cmp_l0 x y hl (by omega) x.length (Nat.le_refl _)
    rw [List.take_length, hl, List.take_length] at h2
    refine ⟨r, fun k hk => ?_, h2⟩
    unfold spec_natCmp.f
    rw [if_pos (by omega), wrap_small _ (by omega) (by omega)]
    exact h1 k hk
  · have hne : x ≠ y := fun e => hl (by rw [e])
    by_cases lt : (x.length : Int) < (y.length : Int)
    · refine ⟨-1, fun k hk => ?_, by simp [hne]⟩
      unfold spec_natCmp.f
      rw [if_neg (by omega), if_pos lt]
    · refine ⟨1, fun k hk => ?_, by simp [hne]⟩
      unfold spec_natCmp.f
      rw [if_neg (by omega), if_neg lt]

/-- The reference: an answer at every text; where it tells both are literals, and neither has a zero ahead, they are equal just if the texts are. -/
theorem equal_f (a b : ByteArray) (ha : a.size ≤ 2147483647) (hb : b.size ≤ 2147483647) : ∃ e i : Bool, (∀ k, 4 * a.size + 4 * b.size + 20 ≤ k → spec_NumBigEqual.f k a b = some (e, i)) ∧
    (i = true → (a = b → e = true) ∧ (a ≠ b → Nz a → Nz b → e = false)) := by
  obtain ⟨x, p, ax, al, av⟩ := big_f a ha
  obtain ⟨y, q, bx, bl, bv⟩ := big_f b hb
  by_cases hp : p = true
  · by_cases hq : q = true
    · obtain ⟨r, hc, hr⟩ := cmp_f x y (by omega)
      refine ⟨r == 0, true, fun k hk => ?_, fun _ => ⟨fun e => ?_, fun ne za zb => ?_⟩⟩
      · unfold spec_NumBigEqual.f
        rw [ax k (by omega), bx k (by omega)]
        simp only [Option.bind_some]
        rw [if_pos hp, if_pos hq, hc k (by omega)]
        rfl
      · have h1 := ax (4 * a.size + 20) (by omega)
        have h2 := bx (4 * a.size + 20) (by rw [e]; omega)
        rw [e] at h1
        rw [e, h1] at h2
        have : x = y := by injection h2 with h2; exact (Prod.mk.inj h2).1
        simpa using hr.2 this
      · obtain ⟨c1, n1, v1⟩ := av hp za
        obtain ⟨c2, n2, v2⟩ := bv hq zb
        have : r ≠ 0 := fun h0 => by
          have hxy := hr.1 h0
          rw [hxy] at v1
          have hbytes := canon_inj c1 c2 (by rw [← v1, ← v2])
          refine ne (Go.WideShapes.bytes_inj (List.map_inj_right (f := fun b : UInt8 => (b.toNat : Int)) ?_ |>.1 hbytes))
          intro u v huv
          exact UInt8.toNat_inj.1 (by omega)
        simpa using this
    · refine ⟨false, false, fun k hk => ?_, fun h => by cases h⟩
      unfold spec_NumBigEqual.f
      rw [ax k (by omega), bx k (by omega)]
      simp only [Option.bind_some]
      rw [if_pos hp, if_neg hq]
  · refine ⟨false, false, fun k hk => ?_, fun h => by cases h⟩
    unfold spec_NumBigEqual.f
    rw [ax k (by omega), bx k (by omega)]
    simp only [Option.bind_some]
    rw [if_neg hp]

/-- The package. -/
theorem check_f (a b : ByteArray) : ∃ e t : Bool, impl_EqualBigInts.f a b = some (e, t) ∧ (t = true → (e = true ∧ a = b) ∨ (e = false ∧ a ≠ b ∧ Nz a ∧ Nz b)) := by
  unfold impl_EqualBigInts.f js_ast_CheckEqualityBigInt.f
  rw [ByteArray.toList_eq, ByteArray.toList_eq]
  by_cases e : a.data.toList = b.data.toList
  · rw [if_pos e]
    exact ⟨true, true, rfl, fun _ => .inl ⟨rfl, Go.WideShapes.bytes_inj e⟩⟩
  · have ne : a ≠ b := fun h => e (by rw [h])
    rw [if_neg e]
    by_cases a2 : (a.size : Int) < 2
    · rw [if_pos a2]
      by_cases b2 : (b.size : Int) < 2
      · rw [if_pos b2]
        exact ⟨false, true, rfl, fun _ => .inr ⟨rfl, ne, .inl (by omega), .inl (by omega)⟩⟩
      · rw [if_neg b2, if_pos (by omega)]
        by_cases b0 : bt b 0 = 48
        · rw [if_pos b0]
          exact ⟨false, false, rfl, fun h => by cases h⟩
        · rw [if_neg b0]
          exact ⟨false, true, rfl, fun _ => .inr ⟨rfl, ne, .inl (by omega), .inr b0⟩⟩
    · rw [if_neg a2, if_pos (by omega)]
      by_cases a0 : bt a 0 = 48
      · rw [if_pos a0]
        exact ⟨false, false, rfl, fun h => by cases h⟩
      · rw [if_neg a0]
        by_cases b2 : (b.size : Int) < 2
        · rw [if_pos b2]
          exact ⟨false, true, rfl, fun _ => .inr ⟨rfl, ne, .inr a0, .inl (by omega)⟩⟩
        · rw [if_neg b2, if_pos (by omega)]
          by_cases b0 : bt b 0 = 48
          · rw [if_pos b0]
            exact ⟨false, false, rfl, fun h => by cases h⟩
          · rw [if_neg b0]
            exact ⟨false, true, rfl, fun _ => .inr ⟨rfl, ne, .inr a0, .inr b0⟩⟩

theorem awake1 : impl_EqualBigInts.f (⟨#[49, 50]⟩ : ByteArray) (⟨#[49, 50]⟩ : ByteArray) = some (true, true) := by
  unfold impl_EqualBigInts.f js_ast_CheckEqualityBigInt.f
  rw [if_pos rfl]
  rfl
theorem awake2 : impl_EqualBigInts.f (⟨#[49, 50]⟩ : ByteArray) (⟨#[49, 51]⟩ : ByteArray) = some (false, true) := by
  unfold impl_EqualBigInts.f js_ast_CheckEqualityBigInt.f
  rw [ByteArray.toList_eq, ByteArray.toList_eq, if_neg (by decide)]
  decide +kernel

end Eb

theorem FnEqualBigInts : laws_FnEqualBigInts.Pure := by
  intro a b ha hb
  by_cases h : a.size ≤ 2147483647 ∧ b.size ≤ 2147483647
  · obtain ⟨ha', hb'⟩ := h
    obtain ⟨e, i, h1, h2⟩ := Eb.equal_f a b ha' hb'
    obtain ⟨g, t, h3, h4⟩ := Eb.check_f a b
    refine ⟨4 * a.size + 4 * b.size + 20 + 2, ?_⟩
    unfold laws_FnEqualBigInts.f
    rw [if_neg (by omega), show decide ((b.size : Int) > 2147483647) = false from by simp; omega]
    simp only [laws_FnEqualBigInts.j0, laws_FnEqualBigInts.j1]
    rw [if_neg (by simp), Eb.awake1, Eb.awake2]
    simp only [Option.bind_some]
    rw [if_pos trivial, if_pos trivial, if_neg (by simp), h1 _ (by omega)]
    simp only [Option.bind_some]
    by_cases hi : i = true
    · rw [if_pos hi]
      split
      · rfl
      · split
        · rfl
        · rw [h3]
          simp only [Option.bind_some]
          by_cases ht : t = true
          · rw [if_pos ht]
            obtain ⟨k1, k2⟩ := h2 hi
            rcases h4 ht with ⟨rfl, hab⟩ | ⟨rfl, hab, za, zb⟩
            · rw [k1 hab]
              rfl
            · rw [k2 hab za zb]
              rfl
          · rw [if_neg ht]
    · rw [if_neg hi]
  · refine ⟨1, ?_⟩
    unfold laws_FnEqualBigInts.f
    by_cases h1 : (a.size : Int) > 2147483647
    · rw [if_pos h1]
      rfl
    · rw [if_neg h1, show decide ((b.size : Int) > 2147483647) = true from by simp; omega]
      rfl

end Go.Proofs.Ytdcojgkblfobnaa.Pure
