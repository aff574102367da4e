/- Lists of symbols and scopes, as they lie in memory; their sizes. The walks. -/
import Derived.Test.YtofdoaollanbpaaDoorReF
import Derived.Deep.MidRow
namespace Go.Proofs.YtofdoaollanbpaaDoor.Res
open Go.RowKit Go.Proofs.YtofdoaollanbpaaDoor.Aid
attribute [local go_sem ↓] Go.wp_at_zero Go.wp_at_succ
set_option linter.unusedVariables false
structure Sy where
  name : ByteArray
  u : Int
  fl : Int
  k : Int
def Sy.val (s : Sy) : Value := symV s.name s.u s.fl s.k
/-- What a list of symbols reads as. -/
def RSy (w : World) (A : Option Addr) (n : Nat) (Y : Nat → Sy) : Prop := ∀ i, i < n → ∃ b o, A = some ⟨b, o, none⟩ ∧ b < w.heap.size ∧ (Y i).name.size ≤ 9223372036854775807 ∧
  w.cell? ⟨b, o + i * 4, none⟩ = some (.string (Y i).name) ∧ w.cell? ⟨b, o + i * 4 + 1, none⟩ = some (.int .u32 (Y i).u) ∧ w.cell? ⟨b, o + i * 4 + 2, none⟩ = some (.int .i64 (Y i).fl) ∧ w.cell? ⟨b, o + i * 4 + 3, none⟩ = some (.int .i64 (Y i).k)
theorem RSy.below {w w' : World} {A : Option Addr} {n : Nat} {Y : Nat → Sy} (h : RSy w A n Y) (hb : Below w.heap.size w w') : RSy w' A n Y := fun i hi => by
  obtain ⟨b, o, hA, hlt, hs, h0, h1, h2, h3⟩ := h i hi
  exact ⟨b, o, hA, Nat.lt_of_lt_of_le hlt hb.size, hs, bcell hb hlt h0, bcell hb hlt h1, bcell hb hlt h2, bcell hb hlt h3⟩
theorem Below.mono_ {a b : Nat} {w W : World} (h : Below a w W) (hb : b ≤ a) : Below b w W := ⟨h.os, h.tape, h.output, h.size, fun i hi => h.block i (by omega)⟩
theorem up {w W V : World} (h : Below w.heap.size w W) (k : Below W.heap.size W V) : Below w.heap.size w V := h.trans (Below.mono_ k h.size)
set_option maxRecDepth 100000 in
theorem zzFits1 (A : Option Addr) (n c : Nat) (Y : Nat → Sy) (w : World) (h : RSy w A n Y) (hn : n ≤ 9223372036854775807) :
    Calls Tryd.prog 5 #[.slice A n c] w fun e w' => Below w.heap.size w w' ∧ ∃ z, e = .returned (.bool z) ∧ (z = true → n ≤ 2147483647 ∧ ∀ i, i < n → (Y i).name.size ≤ 2147483647) := by
  have HH := Lib.hid (fun W (hb : Below w.heap.size w W) => h.below hb)
  have HZ := Lib.hid zzFits2
  clear h
  by_cases hbig : (2147483647 : Int) < (n : Int)
  · go_enter Tryd.func5, Tryd.ntmps5
    go_wp2_with fail
    go_returns
    exact ⟨Below.refl _ _, false, rfl, fun h => by cases h⟩
  · go_enter Tryd.func5, Tryd.ntmps5
    go_wp2_with fail
    go_loopw [10] (fun iv wr => ∃ i : Nat, iv = .int .i64 i ∧ i ≤ n ∧ Below w.heap.size w wr ∧ Hid (∀ j, j < i → (Y j).name.size ≤ 2147483647)) (fun iv _ => ((n : Int) - intOf iv).toNat)
    case atStart => exact ⟨0, rfl, by omega, Below.refl _ _, Lib.hid (fun j hj => by omega)⟩
    case round =>
      obtain ⟨i, rfl, hi, hw, HN⟩ := hrel
      by_cases hlt : i < n
      · obtain ⟨b, o, rfl, hb, hs, h0, h1, h2, h3⟩ := HH.out _ hw i hlt
        have hlt' : (i : Int) < n := by omega
        go_wp2_with fail
        refine (HZ.out (Y i).name _ _ _ _ hs).mono ?_
        rintro e w' ⟨hb', z, rfl, hz⟩
        have HX := Lib.hid hz
        have hw' : Below w.heap.size w w' := up (below_at hw _) hb'
        clear hz
        cases z
        · go_wp2_with fail
          go_returns
          exact ⟨hw', false, rfl, fun h => by cases h⟩
        · go_wp2_with fail
          go_roundw
          case rel =>
            refine ⟨i + 1, val_int (by omega), by omega, hw', Lib.hid fun j hj => ?_⟩
            rcases Nat.lt_or_ge j i with q | q
            · exact HN.out j q
            · have : j = i := by omega
              subst this
              exact HX.out trivial
          case measure => simp [intOf]; omega
      · go_wp2_with fail
        go_returns
        exact ⟨hw, true, rfl, fun _ => ⟨by omega, fun j hj => HN.out j (by omega)⟩⟩
/-- A scope, with what its three lists read as. -/
structure Sc where
  p : Int
  k : Int
  A : Option Addr
  n : Nat
  c : Nat
  R : Option Addr
  rn : Nat
  rc : Nat
  G : Option Addr
  gn : Nat
  gc : Nat
  l : Int
  ev : Bool
  names : Nat → ByteArray
  refs : Nat → Int
  gens : Nat → Int
def Sc.val (s : Sc) : Value := scV s.p s.k s.A s.n s.c s.R s.rn s.rc s.G s.gn s.gc s.l s.ev
/-- The lists of a scope lie in a world. -/
structure Sc.In (s : Sc) (w : World) : Prop where
  n1 : s.n ≤ 9223372036854775807
  n2 : s.rn ≤ 9223372036854775807
  n3 : s.gn ≤ 9223372036854775807
  r1 : Reads w s.A s.n fun i => .string (s.names i)
  r2 : Reads w s.R s.rn fun i => .int .i64 (s.refs i)
  r3 : Reads w s.G s.gn fun i => .int .i64 (s.gens i)
  z1 : s.n ≤ s.c
  z2 : s.R = none → s.rc = 0
  z3 : s.G = none → s.gc = 0
theorem Sc.In.below {s : Sc} {w w' : World} (h : s.In w) (hb : Below w.heap.size w w') : s.In w' := ⟨h.n1, h.n2, h.n3, h.r1.below hb, h.r2.below hb, h.r3.below hb, h.z1, h.z2, h.z3⟩
/-- What a list of scopes reads as. -/
def RSc (w : World) (A : Option Addr) (n : Nat) (S : Nat → Sc) : Prop := ∀ i, i < n → (S i).In w ∧ ∃ b o, A = some ⟨b, o, none⟩ ∧ b < w.heap.size ∧
  w.cell? ⟨b, o + i * 7, none⟩ = some (.int .i64 (S i).p) ∧ w.cell? ⟨b, o + i * 7 + 1, none⟩ = some (.int .i64 (S i).k) ∧ w.cell? ⟨b, o + i * 7 + 2, none⟩ = some (.slice (S i).A (S i).n (S i).c) ∧
  w.cell? ⟨b, o + i * 7 + 3, none⟩ = some (.slice (S i).R (S i).rn (S i).rc) ∧ w.cell? ⟨b, o + i * 7 + 4, none⟩ = some (.slice (S i).G (S i).gn (S i).gc) ∧ w.cell? ⟨b, o + i * 7 + 5, none⟩ = some (.int .i64 (S i).l) ∧ w.cell? ⟨b, o + i * 7 + 6, none⟩ = some (.bool (S i).ev)
theorem RSc.below {w w' : World} {A : Option Addr} {n : Nat} {S : Nat → Sc} (h : RSc w A n S) (hb : Below w.heap.size w w') : RSc w' A n S := fun i hi => by
  obtain ⟨hs, b, o, hA, hlt, h0, h1, h2, h3, h4, h5, h6⟩ := h i hi
  exact ⟨hs.below hb, b, o, hA, Nat.lt_of_lt_of_le hlt hb.size, bcell hb hlt h0, bcell hb hlt h1, bcell hb hlt h2, bcell hb hlt h3, bcell hb hlt h4, bcell hb hlt h5, bcell hb hlt h6⟩
/-- A scope is small. -/
def Sc.Small (s : Sc) : Prop := s.n ≤ 2147483647 ∧ (∀ i, i < s.n → (s.names i).size ≤ 2147483647) ∧ s.rn ≤ 2147483647 ∧ s.gn ≤ 2147483647
set_option maxRecDepth 100000 in
theorem zzFits6 (A : Option Addr) (n c : Nat) (S : Nat → Sc) (w : World) (h : RSc w A n S) (hn : n ≤ 9223372036854775807) :
    Calls Tryd.prog 4 #[.slice A n c] w fun e w' => Below w.heap.size w w' ∧ ∃ z, e = .returned (.bool z) ∧ (z = true → n ≤ 2147483647 ∧ ∀ i, i < n → (S i).Small) := by
  have HH := Lib.hid (fun W (hb : Below w.heap.size w W) => h.below hb)
  have HZ := Lib.hid zzFits7
  clear h
  by_cases hbig : (2147483647 : Int) < (n : Int)
  · go_enter Tryd.func4, Tryd.ntmps4
    go_wp2_with fail
    go_returns
    exact ⟨Below.refl _ _, false, rfl, fun h => by cases h⟩
  · go_enter Tryd.func4, Tryd.ntmps4
    go_wp2_with fail
    go_loopw [10] (fun iv wr => ∃ i : Nat, iv = .int .i64 i ∧ i ≤ n ∧ Below w.heap.size w wr ∧ Hid (∀ j, j < i → (S j).Small)) (fun iv _ => ((n : Int) - intOf iv).toNat)
    case atStart => exact ⟨0, rfl, by omega, Below.refl _ _, Lib.hid (fun j hj => by omega)⟩
    case round =>
      obtain ⟨i, rfl, hi, hw, HN⟩ := hrel
      by_cases hlt : i < n
      · obtain ⟨hs, b, o, rfl, hb, h0, h1, h2, h3, h4, h5, h6⟩ := HH.out _ hw i hlt
        have hlt' : (i : Int) < n := by omega
        go_wp2_with fail
        refine (HZ.out (S i).p (S i).k (S i).A (S i).n (S i).c (S i).R (S i).rn (S i).rc (S i).G (S i).gn (S i).gc (S i).l (S i).ev (S i).names _ (hs.r1.below (below_at (Below.refl _ _) _)) hs.n1 hs.n2 hs.n3).mono ?_
        rintro e w' ⟨hb', z, rfl, hz⟩
        have HX := Lib.hid hz
        have hw' : Below w.heap.size w w' := up (below_at hw _) hb'
        clear hz
        cases z
        · go_wp2_with fail
          go_returns
          exact ⟨hw', false, rfl, fun h => by cases h⟩
        · go_wp2_with fail
          go_roundw
          case rel =>
            refine ⟨i + 1, val_int (by omega), by omega, hw', Lib.hid fun j hj => ?_⟩
            rcases Nat.lt_or_ge j i with q | q
            · exact HN.out j q
            · have : j = i := by omega
              subst this
              exact HX.out trivial
          case measure => simp [intOf]; omega
      · go_wp2_with fail
        go_returns
        exact ⟨hw, true, rfl, fun _ => ⟨by omega, fun j hj => HN.out j (by omega)⟩⟩
end Go.Proofs.YtofdoaollanbpaaDoor.Res
