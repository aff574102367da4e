/- From what came in to what the law speaks of. No walk in sight. -/
import Derived.Test.YtobhlppdolekoaaClB
import Derived.Test.YtobhlppdolekoaaClG
import Derived.Test.YtobhlppdolekoaaCjD
import Derived.Test.YtobhlppdolekoaaClF
namespace Go.Proofs.Ytobhlppdolekoaa.Ch
open Go.RowKit Go.Proofs.Ytobhlppdolekoaa.Aid Go.Proofs.Ytobhlppdolekoaa.Bytes Go.Proofs.Ytobhlppdolekoaa.Runes Go.Proofs.Ytobhlppdolekoaa.Wtf
set_option linter.unusedVariables false
/-- The marks as numbers. -/
def mkOf (n : Nat) (Y : Nat → Mr) : List Mk := (List.range n).map fun i => ⟨(Y i).at.toNat, (Y i).loc.toNat, (Y i).name⟩
theorem mkOf_len (n : Nat) (Y : Nat → Mr) : (mkOf n Y).length = n := by simp [mkOf]
theorem mkOf_get {n : Nat} {Y : Nat → Mr} {i : Nat} {k : Mk} (h : (mkOf n Y)[i]? = some k) : i < n ∧ k = ⟨(Y i).at.toNat, (Y i).loc.toNat, (Y i).name⟩ := by
  have hi : i < n := by
    rcases Nat.lt_or_ge i n with h' | h'
    · exact h'
    · rw [List.getElem?_eq_none (by rw [mkOf_len]; exact h')] at h; cases h
  refine ⟨hi, ?_⟩
  rw [mkOf, List.getElem?_map, List.getElem?_range hi] at h
  simpa using h.symm
theorem rnd_of {s : ByteArray} {i : Int} (h : rnd s i = true) : 0 ≤ i ∧ i.toNat ≤ s.size ∧ rounded s i.toNat = true := by
  unfold rnd at h
  rw [Bool.and_eq_true, Bool.and_eq_true] at h
  have h1 := of_decide_eq_true h.1
  have h2 := of_decide_eq_true h.2.1
  exact ⟨h1, by omega, h.2.2⟩
theorem RFit.fit {src out : ByteArray} {n : Nat} {Y : Nat → Mr} (h : RFit src out n Y) : MFit src out (mkOf n Y) := by
  refine ⟨h.wsrc, h.wout, h.srcs, h.outs, by rw [mkOf_len]; exact h.len, fun k hk => ?_, fun i a b ha hb => ?_⟩
  · obtain ⟨i, hi⟩ := List.mem_iff_getElem?.1 hk
    obtain ⟨h1, rfl⟩ := mkOf_get hi
    obtain ⟨_, g2, g3, g4, g5⟩ := h.each i h1
    obtain ⟨a1, a2, a3⟩ := rnd_of g2
    obtain ⟨b1, b2, b3⟩ := rnd_of g3
    exact ⟨a2, a3, b2, b3, g4, g5⟩
  · obtain ⟨h1, rfl⟩ := mkOf_get ha
    obtain ⟨h2, rfl⟩ := mkOf_get hb
    obtain ⟨g1, g2, _⟩ := h.each (i + 1) h2
    obtain ⟨_, g3, _⟩ := h.each i h1
    have := g1 (by omega)
    rw [show i + 1 - 1 = i by omega] at this
    obtain ⟨a1, _⟩ := rnd_of g2
    obtain ⟨b1, _⟩ := rnd_of g3
    show (Y i).at.toNat < (Y (i + 1)).at.toNat
    omega
theorem RFit.marks {src out : ByteArray} {n : Nat} {Y : Nat → Mr} (h : RFit src out n Y) {w : World} {A : Option Addr} (hm : RMk w A n Y) : Marks w A (mkOf n Y) := by
  intro i k hi
  obtain ⟨h1, rfl⟩ := mkOf_get hi
  obtain ⟨b, o, hA, hb, _, m0, m1, m2⟩ := hm i h1
  obtain ⟨_, g2, g3, _, _⟩ := h.each i h1
  obtain ⟨a1, _⟩ := rnd_of g2
  obtain ⟨b1, _⟩ := rnd_of g3
  refine ⟨b, o, hA, hb, ?_, ?_, m2⟩
  · rw [m0]; show some (Value.int .i64 (Y i).at) = some (.int .i64 (((Y i).at.toNat : Nat) : Int)); rw [Int.toNat_of_nonneg a1]
  · rw [m1]; show some (Value.int .i64 (Y i).loc) = some (.int .i64 (((Y i).loc.toNat : Nat) : Int)); rw [Int.toNat_of_nonneg b1]
theorem conv_nil (w : World) : (convert 25 9 (.slice none 0 0)).run Try.prog w = .ok (.string (str [])) w := by kernel_rfl
theorem conv_bytes {w : World} {base : Nat} {v : Value} {R : List Nat} (ho : w.ownsRow base 5 1 v R.length (ncells R)) : (convert 25 9 v).run Try.prog w = .ok (.string (str R)) w := by
  rcases Nat.eq_zero_or_pos R.length with h0 | h0
  · have hR : R = [] := List.length_eq_zero_iff.1 h0
    subst hR
    rcases ho.2 with ⟨rfl, _⟩ | ⟨g, cap, cur, rfl, _⟩
    · exact conv_nil w
    · show (convert 25 9 (.slice (some ⟨g, 0, none⟩) 0 cap)).run Try.prog w = _
      rw [run_convert_bytes_arg w 25 5 Try.underlying25 Try.underlying5 g 0 0 cap [] rfl (fun i hi => absurd hi (Nat.not_lt_zero _)) 9 Try.underlying9]
      rfl
  · exact conv w base v R h0 ho
theorem NAt.of {w : World} {base : Nat} {A : Option Addr} {c : Nat} {ns : List ByteArray} (h : w.ownsRow base 9 1 (.slice A ns.length c) ns.length (ntexts ns)) : NAt w A ns := fun i s hi => by
  have hil : i < ns.length := by
    rcases Nat.lt_or_ge i ns.length with h' | h'
    · exact h'
    · rw [List.getElem?_eq_none h'] at hi; cases hi
  obtain ⟨A', c', e, hr⟩ := own_form h
  obtain ⟨g, e', _, hlt, hc⟩ := hr i (by omega)
  injection e with e1
  refine ⟨g, e1.trans e', hlt, ?_⟩
  rw [hc, ntexts, List.getElem?_map, hi]
  rfl
/-- Mappings in memory. -/
def LAt (w : World) (A : Option Addr) (E : List Mp) : Prop := ∀ (i : Nat) m, E[i]? = some m → ∃ g, A = some ⟨g, 0, none⟩ ∧ g < w.heap.size ∧ w.cell? ⟨g, i * 6, none⟩ = some (.int .i64 m.line) ∧ w.cell? ⟨g, i * 6 + 1, none⟩ = some (.int .i64 m.col) ∧ w.cell? ⟨g, i * 6 + 2, none⟩ = some (.int .i64 m.src) ∧ w.cell? ⟨g, i * 6 + 3, none⟩ = some (.int .i64 m.ol) ∧ w.cell? ⟨g, i * 6 + 4, none⟩ = some (.int .i64 m.oc) ∧ w.cell? ⟨g, i * 6 + 5, none⟩ = some (.int .i64 m.name)
theorem LAt.of {w : World} {base : Nat} {A : Option Addr} {c : Nat} {E : List Mp} (h : w.ownsRow base 42 6 (.slice A E.length c) E.length (mcells E)) : LAt w A E := fun i m hi => by
  have hil : i < E.length := by
    rcases Nat.lt_or_ge i E.length with h' | h'
    · exact h'
    · rw [List.getElem?_eq_none h'] at hi; cases hi
  obtain ⟨A', c', e, hr⟩ := own_form h
  injection e with e1
  obtain ⟨g, e', _, hlt, _⟩ := hr (i * 6) (by omega)
  have hc : ∀ r, r < 6 → w.cell? ⟨g, i * 6 + r, none⟩ = m.cells[r]? := fun r hr6 => by
    obtain ⟨g', e2, _, _, hc⟩ := hr (i * 6 + r) (by omega)
    rw [e'] at e2
    injection e2 with e2
    injection e2 with e2
    subst e2
    rw [hc]
    exact mcells_get E i m r hr6 hi
  exact ⟨g, e1.trans e', hlt, hc 0 (by omega), hc 1 (by omega), hc 2 (by omega), hc 3 (by omega), hc 4 (by omega), hc 5 (by omega)⟩
theorem LAt.below {w w' : World} {A : Option Addr} {E : List Mp} (h : LAt w A E) (hb : Below w.heap.size w w') : LAt w' A E := fun i m hi => by
  obtain ⟨g, h1, h2, a0, a1, a2, a3, a4, a5⟩ := h i m hi
  exact ⟨g, h1, Nat.lt_of_lt_of_le h2 hb.size, bcell hb h2 a0, bcell hb h2 a1, bcell hb h2 a2, bcell hb h2 a3, bcell hb h2 a4, bcell hb h2 a5⟩
/-- The line of the last mark that counts. -/
def lineOf (out : ByteArray) (ms : List Mk) (i : Nat) : Int := match upTo ms i with
  | none => -1
  | some u => ((placeOf out u.at).1 : Int)
end Go.Proofs.Ytobhlppdolekoaa.Ch
