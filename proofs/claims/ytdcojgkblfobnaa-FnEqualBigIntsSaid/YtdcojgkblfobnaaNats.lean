/- Whole numbers as lists of limbs of 32 bits, the lowest first: what a list is worth, trimming, times a digit and one more, and that a trimmed list is known by its worth. Plain mathematics: no program in sight. -/
import Derived.Laws.Bits64
import Derived.Laws.BitsLemmas
import Derived.RowKit
namespace Go.Proofs.Ytdcojgkblfobnaa.Nats
open Go.RowKit

/-- What a list of limbs is worth. -/
def val : List Int → Int
  | [] => 0
  | x :: t => x + 4294967296 * val t
/-- Limbs from 0 to 2^32 - 1. -/
def Limbs (l : List Int) : Prop := ∀ x ∈ l, 0 ≤ x ∧ x < 4294967296
/-- Limbs, the last of which is not 0. -/
def Norm : List Int → Prop
  | [] => True
  | x :: t => 0 ≤ x ∧ x < 4294967296 ∧ Norm t ∧ (t = [] → x ≠ 0)

theorem Limbs.nil : Limbs [] := fun _ h => by simp at h
theorem Limbs.cons {x : Int} {t : List Int} (h0 : 0 ≤ x) (h1 : x < 4294967296) (h : Limbs t) : Limbs (x :: t) := by
  intro y hy
  rcases List.mem_cons.1 hy with rfl | hy
  · exact ⟨h0, h1⟩
  · exact h y hy
theorem Limbs.head {x : Int} {t : List Int} (h : Limbs (x :: t)) : 0 ≤ x ∧ x < 4294967296 := h x (by simp)
theorem Limbs.tail {x : Int} {t : List Int} (h : Limbs (x :: t)) : Limbs t := fun y hy => h y (List.mem_cons_of_mem _ hy)
theorem Norm.limbs : ∀ {l : List Int}, Norm l → Limbs l
  | [], _ => Limbs.nil
  | _ :: _, ⟨h0, h1, h2, _⟩ => Limbs.cons h0 h1 (Norm.limbs h2)
theorem val_nonneg : ∀ {l : List Int}, Limbs l → 0 ≤ val l
  | [], _ => by simp [val]
  | x :: t, h => by
    have h1 := h.head
    have h2 := val_nonneg h.tail
    simp only [val]
    omega
theorem val_pos : ∀ {l : List Int}, Norm l → l ≠ [] → 0 < val l
  | [], _, h => absurd rfl h
  | [x], ⟨h0, _, _, h3⟩, _ => by
    have := h3 rfl
    simp only [val]
    omega
  | x :: y :: t, ⟨h0, _, h2, _⟩, _ => by
    have := val_pos h2 (by simp)
    simp only [val] at this ⊢
    omega
theorem val_inj : ∀ {a b : List Int}, Norm a → Norm b → val a = val b → a = b
  | [], [], _, _, _ => rfl
  | [], y :: t, _, hb, h => by
    have := val_pos hb (by simp)
    simp only [val] at h this
    omega
  | x :: s, [], ha, _, h => by
    have := val_pos ha (by simp)
    simp only [val] at h this
    omega
  | x :: s, y :: t, ⟨a0, a1, a2, _⟩, ⟨b0, b1, b2, _⟩, h => by
    simp only [val] at h
    have e : x = y := by omega
    have e2 : val s = val t := by omega
    rw [e, val_inj a2 b2 e2]

theorem val_snoc_zero : ∀ (l : List Int), val (l ++ [0]) = val l
  | [] => by simp [val]
  | x :: t => by simp only [List.cons_append, val, val_snoc_zero t]
theorem Norm.snoc : ∀ {l : List Int} {x : Int}, Limbs l → 0 ≤ x → x < 4294967296 → x ≠ 0 → Norm (l ++ [x])
  | [], x, _, h0, h1, hx => ⟨h0, h1, trivial, fun _ => hx⟩
  | y :: t, x, hl, h0, h1, hx => ⟨hl.head.1, hl.head.2, Norm.snoc hl.tail h0 h1 hx, fun e => by simp at e⟩

/-- The limbs below i, without those that are 0 at their end. -/
def trimTo (l : List Int) : Nat → List Int
  | 0 => []
  | i + 1 => if l.getD i 0 = 0 then trimTo l i else l.take (i + 1)
def trim (l : List Int) : List Int := trimTo l l.length
theorem trimTo_length (l : List Int) : ∀ i, (trimTo l i).length ≤ i
  | 0 => by simp [trimTo]
  | i + 1 => by
    have := trimTo_length l i
    simp only [trimTo]
    split
    · omega
    · simp only [List.length_take]
      omega
theorem trim_length (l : List Int) : (trim l).length ≤ l.length := trimTo_length l _
theorem take_snoc (l : List Int) (i : Nat) (h : i < l.length) : l.take (i + 1) = l.take i ++ [l.getD i 0] := by
  rw [List.take_succ_eq_append_getElem h, List.getD_eq_getElem?_getD, List.getElem?_eq_getElem h]
  rfl
theorem Limbs.take {l : List Int} (h : Limbs l) (i : Nat) : Limbs (l.take i) := fun x hx => h x (List.mem_of_mem_take hx)
theorem getD_mem (l : List Int) (i : Nat) (h : i < l.length) : l.getD i 0 ∈ l := by
  rw [List.getD_eq_getElem?_getD, List.getElem?_eq_getElem h]
  exact List.getElem_mem h
theorem trimTo_norm (l : List Int) (hl : Limbs l) : ∀ i, i ≤ l.length → Norm (trimTo l i) ∧ val (trimTo l i) = val (l.take i)
  | 0, _ => by simp [trimTo, Norm]
  | i + 1, hi => by
    have ih := trimTo_norm l hl i (by omega)
    simp only [trimTo]
    split
    · rename_i h0
      refine ⟨ih.1, ?_⟩
      rw [ih.2, take_snoc l i (by omega), h0, val_snoc_zero]
    · rename_i h0
      have hm := hl _ (getD_mem l i (by omega))
      refine ⟨?_, rfl⟩
      rw [take_snoc l i (by omega)]
      exact Norm.snoc (hl.take i) hm.1 hm.2 h0
theorem trim_norm {l : List Int} (hl : Limbs l) : Norm (trim l) ∧ val (trim l) = val l := by
  have h := trimTo_norm l hl l.length (Nat.le_refl _)
  rwa [List.take_length] at h

/-- One step of the multiplication, as the machine does it. -/
def sum (a m more : Int) : Int := IntKind.u64.wrap (more + IntKind.u64.wrap (a * m))
/-- Times m, and one more: as the machine does it. -/
def times : List Int → Int → Int → List Int
  | [], _, more => [more]
  | a :: t, m, more => Go.bits .and .u64 (sum a m more) 4294967295 :: times t m (sum a m more / 4294967296)
theorem times_length : ∀ (l : List Int) (m more : Int), (times l m more).length = l.length + 1
  | [], _, _ => rfl
  | _ :: t, m, more => by simp [times, times_length t]

theorem and_low (x : Int) (h0 : 0 ≤ x) (h1 : x < 18446744073709551616) : Go.bits .and .u64 x 4294967295 = x % 4294967296 :=
  bits_mask .u64 64 (by decide) (fun n h0 h1 => by rw [IntKind.wrap_u64]; omega) 32 (by decide) x h0 h1

theorem mul_below {a m : Int} (ha0 : 0 ≤ a) (ha : a < 4294967296) (hm0 : 0 ≤ m) (hm : m < 4294967296) : 0 ≤ a * m ∧ a * m ≤ 18446744065119617025 := by
  refine ⟨Int.mul_nonneg ha0 hm0, ?_⟩
  have h := Int.mul_le_mul (show a ≤ 4294967295 by omega) (show m ≤ 4294967295 by omega) hm0 (by omega)
  omega

theorem sum_plain {a m more : Int} (ha0 : 0 ≤ a) (ha : a < 4294967296) (hm0 : 0 ≤ m) (hm : m < 4294967296) (h0 : 0 ≤ more) (h1 : more < 4294967296) :
    sum a m more = more + a * m ∧ 0 ≤ more + a * m ∧ more + a * m < 18446744073709551616 ∧ (more + a * m) / 4294967296 < 4294967296 := by
  have h := mul_below ha0 ha hm0 hm
  refine ⟨?_, by omega, by omega, by omega⟩
  unfold sum
  rw [IntKind.wrap_u64, IntKind.wrap_u64]
  omega

theorem times_val : ∀ (l : List Int) (m more : Int), Limbs l → 0 ≤ m → m < 4294967296 → 0 ≤ more → more < 4294967296 → Limbs (times l m more) ∧ val (times l m more) = more + m * val l
  | [], m, more, _, _, _, h0, h1 => ⟨Limbs.cons h0 h1 Limbs.nil, by simp [times, val]⟩
  | a :: t, m, more, hl, hm0, hm, h0, h1 => by
    obtain ⟨e, k0, k1, k2⟩ := sum_plain hl.head.1 hl.head.2 hm0 hm h0 h1
    obtain ⟨i1, i2⟩ := times_val t m ((more + a * m) / 4294967296) hl.tail hm0 hm (by omega) k2
    simp only [times]
    rw [e, and_low _ k0 k1]
    refine ⟨Limbs.cons (by omega) (by omega) i1, ?_⟩
    simp only [val]
    rw [i2, Int.mul_add, Int.mul_add, Int.mul_comm m a, Int.mul_left_comm m 4294967296 (val t)]
    omega

/-- The number of the digits of a base. -/
def hexv (c : Int) : Int := if 48 ≤ c ∧ c ≤ 57 then c - 48 else if 97 ≤ c ∧ c ≤ 102 then c - 87 else if 65 ≤ c ∧ c ≤ 70 then c - 55 else -1
def natl (base : Int) : List Int → List Int → List Int
  | acc, [] => acc
  | acc, c :: cs => natl base (trim (times acc base (IntKind.u64.wrap (hexv c)))) cs
theorem natl_snoc_length (base : Int) (acc : List Int) (c : Int) : (trim (times acc base (IntKind.u64.wrap (hexv c)))).length ≤ acc.length + 1 := by
  have := trim_length (times acc base (IntKind.u64.wrap (hexv c)))
  rwa [times_length] at this
/-- The value of digits of a base. -/
def dv (base : Int) : Int → List Int → Int
  | acc, [] => acc
  | acc, c :: cs => dv base (hexv c + base * acc) cs
theorem natl_val (base : Int) (hb0 : 0 ≤ base) (hb : base ≤ 16) : ∀ (cs : List Int) (acc : List Int), Norm acc → (∀ c ∈ cs, 0 ≤ hexv c ∧ hexv c < base) → Norm (natl base acc cs) ∧ val (natl base acc cs) = dv base (val acc) cs
  | [], acc, ha, _ => ⟨ha, rfl⟩
  | c :: cs, acc, ha, hc => by
    have h1 := hc c (by simp)
    have e : IntKind.u64.wrap (hexv c) = hexv c := by rw [IntKind.wrap_u64]; omega
    obtain ⟨t1, t2⟩ := times_val acc base (hexv c) ha.limbs hb0 (by omega) h1.1 (by omega)
    obtain ⟨n1, n2⟩ := trim_norm t1
    have ih := natl_val base hb0 hb cs _ n1 (fun x hx => hc x (List.mem_cons_of_mem _ hx))
    simp only [natl, dv]
    rw [e]
    rw [n2, t2] at ih
    exact ih

/-- Digits of one base, as many of them, of one value: the same. -/
theorem dv_inj (base : Int) (hb0 : 0 < base) : ∀ (a b : List Int) (x y : Int), a.length = b.length → (∀ c ∈ a, 0 ≤ hexv c ∧ hexv c < base) → (∀ c ∈ b, 0 ≤ hexv c ∧ hexv c < base) → dv base x a = dv base y b → x = y ∧ a.map hexv = b.map hexv
  | [], [], _, _, _, _, _, h => ⟨h, rfl⟩
  | [], _ :: _, _, _, hl, _, _, _ => by simp at hl
  | _ :: _, [], _, _, hl, _, _, _ => by simp at hl
  | c :: a, d :: b, x, y, hl, ha, hb, h => by
    have hc := ha c (by simp)
    have hd := hb d (by simp)
    obtain ⟨e, em⟩ := dv_inj base hb0 a b _ _ (by simpa using hl) (fun z hz => ha z (List.mem_cons_of_mem _ hz)) (fun z hz => hb z (List.mem_cons_of_mem _ hz)) h
    have e1 : (hexv c + base * x) % base = (hexv d + base * y) % base := by rw [e]
    rw [Int.add_mul_emod_self_left, Int.add_mul_emod_self_left, Int.emod_eq_of_lt hc.1 hc.2, Int.emod_eq_of_lt hd.1 hd.2] at e1
    have e2 : base * x = base * y := by omega
    exact ⟨Int.eq_of_mul_eq_mul_left (by omega) e2, by simp [e1, em]⟩

/-- 10 to the power of n. -/
def ten : Nat → Int
  | 0 => 1
  | n + 1 => 10 * ten n
theorem ten_pos : ∀ n, 1 ≤ ten n
  | 0 => by simp [ten]
  | n + 1 => by
    have := ten_pos n
    simp only [ten]
    omega
theorem ten_mono (n : Nat) : ∀ d, ten n ≤ ten (n + d)
  | 0 => Int.le_refl _
  | d + 1 => by
    have h1 := ten_mono n d
    have h2 := ten_pos (n + d)
    rw [← Nat.add_assoc]
    simp only [ten]
    omega
theorem dv_bounds : ∀ (cs : List Int) (acc : Int), 0 ≤ acc → (∀ c ∈ cs, 0 ≤ hexv c ∧ hexv c < 10) → acc * ten cs.length ≤ dv 10 acc cs ∧ dv 10 acc cs < (acc + 1) * ten cs.length
  | [], acc, _, _ => by simp [dv, ten]; omega
  | c :: cs, acc, h0, hc => by
    have h1 := hc c (by simp)
    have ih := dv_bounds cs (hexv c + 10 * acc) (by omega) (fun z hz => hc z (List.mem_cons_of_mem _ hz))
    have hp := ten_pos cs.length
    simp only [dv, List.length_cons, ten]
    refine ⟨Int.le_trans ?_ ih.1, Int.lt_of_lt_of_le ih.2 ?_⟩
    · rw [← Int.mul_assoc, Int.mul_comm acc 10]
      exact Int.mul_le_mul_of_nonneg_right (by omega) (by omega)
    · rw [← Int.mul_assoc, Int.mul_comm (acc + 1) 10]
      exact Int.mul_le_mul_of_nonneg_right (by omega) (by omega)

/-- A decimal number in its canonical form: digits, at least one, the first not 0 if there are others. -/
def Canon (l : List Int) : Prop := (∀ c ∈ l, 48 ≤ c ∧ c ≤ 57) ∧ l ≠ [] ∧ (1 < l.length → l.getD 0 0 ≠ 48)
theorem hexv_digit {c : Int} (h : 48 ≤ c ∧ c ≤ 57) : hexv c = c - 48 := by unfold hexv; rw [if_pos h]
theorem digit_of_hexv {c : Int} (h0 : 0 ≤ hexv c) (h1 : hexv c < 10) : 48 ≤ c ∧ c ≤ 57 := by
  unfold hexv at h0 h1
  split at h0
  · assumption
  · rename_i n
    rw [if_neg n] at h1
    split at h0
    · rename_i p
      rw [if_pos p] at h1
      omega
    · rename_i n2
      rw [if_neg n2] at h1
      split at h0
      · rename_i p
        rw [if_pos p] at h1
        omega
      · omega
theorem Canon.hex {l : List Int} (h : Canon l) : ∀ c ∈ l, 0 ≤ hexv c ∧ hexv c < 10 := fun c hc => by
  have := h.1 c hc
  rw [hexv_digit this]
  omega
theorem canon_lt {a b : List Int} (ha : Canon a) (hb : Canon b) (hl : a.length < b.length) : dv 10 0 a < dv 10 0 b := by
  have h1 := (dv_bounds a 0 (Int.le_refl _) ha.hex).2
  obtain ⟨hd, hne, hz⟩ := id hb
  match b, hne with
  | c :: t, _ =>
    have hp : 0 < a.length := List.length_pos_iff.2 ha.2.1
    have hz' : c ≠ 48 := by simpa using hz (by omega)
    have hc := hd c (by simp)
    have h2 := (dv_bounds t (hexv c + 10 * 0) (by rw [hexv_digit hc]; omega) (fun z hz => hb.hex z (List.mem_cons_of_mem _ hz))).1
    have h3 := ten_mono a.length (t.length - a.length)
    rw [Nat.add_sub_cancel' (by simp at hl; omega)] at h3
    have h4 : 1 * ten t.length ≤ (hexv c + 10 * 0) * ten t.length := Int.mul_le_mul_of_nonneg_right (by rw [hexv_digit hc]; omega) (by have := ten_pos t.length; omega)
    simp only [dv]
    omega
theorem canon_inj {a b : List Int} (ha : Canon a) (hb : Canon b) (h : dv 10 0 a = dv 10 0 b) : a = b := by
  have hl : a.length = b.length := by
    rcases Nat.lt_trichotomy a.length b.length with h1 | h1 | h1
    · have := canon_lt ha hb h1
      omega
    · exact h1
    · have := canon_lt hb ha h1
      omega
  have hm := (dv_inj 10 (by omega) a b 0 0 hl ha.hex hb.hex h).2
  refine List.ext_getElem hl fun i h1 h2 => ?_
  have h3 : (a.map hexv)[i]'(by simpa using h1) = (b.map hexv)[i]'(by simpa using h2) := by simp only [hm]
  rw [List.getElem_map, List.getElem_map, hexv_digit (ha.1 _ (List.getElem_mem h1)), hexv_digit (hb.1 _ (List.getElem_mem h2))] at h3
  omega

end Go.Proofs.Ytdcojgkblfobnaa.Nats
