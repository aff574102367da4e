/- The statement FnMinifiedOrder, walked: the name of a greater number is not shorter. -/
import Derived.Test.YtdcojgkblfobnaaDoorMiniB
namespace Go.Proofs.YtdcojgkblfobnaaDoor.Mini
open Go.RowKit Go.Proofs.YtdcojgkblfobnaaDoor.Aid
set_option linter.unusedVariables false
/-- What the walk knows of the package's variable. -/
def Vars (H T : ByteArray) (w : World) : Prop := w.cell? ⟨0, 0, none⟩ = some (.string H) ∧ w.cell? ⟨0, 1, none⟩ = some (.string T)
theorem Vars.below {H T : ByteArray} {w w' : World} (h : Vars H T w) (hb : Below w.heap.size w w') : Vars H T w' :=
  ⟨bcell hb (World.block_lt_of_cell? w _ h.1) h.1, bcell hb (World.block_lt_of_cell? w _ h.2) h.2⟩
/-- A call came back with a text of so many bytes. -/
def IsS (e : Ending) (n : Nat) : Prop := ∃ s : ByteArray, e = .returned (.string s) ∧ s.size = n
theorem implMini (H T : ByteArray) (i : Nat) (w : World) (hv : Vars H T w) (hH : H.size = 54) (hT : T.size = 64) (hi : i ≤ 1073741824) :
    Calls Tryd.prog 7 #[.int .i64 i] w fun e w' => IsS e (miniLen i) ∧ Below w.heap.size w w' := by
  obtain ⟨v0, v1⟩ := hv
  have HH := Lib.hid hH
  have HT := Lib.hid hT
  clear hH hT
  go_enter Tryd.func7, Tryd.ntmps7
  go_wp2_with fail
  refine (minified H T i w HH.out HT.out hi).mono ?_
  rintro e w1 ⟨⟨s, rfl, hs⟩, hb⟩
  have HS := Lib.hid hs
  clear hs
  go_wp2_with fail
  go_returns
  exact ⟨⟨s, rfl, HS.out⟩, hb⟩
theorem short_ (n : Int) (w : World) : Calls Tryd.prog 8 #[.int .i64 n] w fun e w' => e = .returned (.bool (decide (0 ≤ n ∧ n ≤ 1073741824))) ∧ w' = w := by
  by_cases h0 : 0 ≤ n
  · by_cases h1 : n ≤ 1073741824
    · go_enter Tryd.func8, Tryd.ntmps8
      go_wp2_with fail
      go_returns
      simp [h0, h1]
    · have h1' : 1073741824 < n := by omega
      go_enter Tryd.func8, Tryd.ntmps8
      go_wp2_with fail
      go_returns
      simp; omega
  · have h0' : n < 0 := by omega
    go_enter Tryd.func8, Tryd.ntmps8
    go_wp2_with fail
    go_returns
    simp; omega
theorem not_empty (s : ByteArray) (h : 0 < s.size) : s.toList.isEmpty = false := by
  rw [ByteArray.toList_eq]
  rcases hs : s.data.toList with _ | ⟨x, xs⟩
  · have : s.data.toList.length = s.size := Array.length_toList
    rw [hs] at this
    simp at this
    omega
  · rfl
set_option maxHeartbeats 2000000 in
theorem law (H T : ByteArray) (i k : Int) (w : World) (hv : Vars H T w) (hH : H.size = 54) (hT : T.size = 64) :
    Calls Tryd.prog 4 #[.int .i64 i, .int .i64 k] w fun e w' => e = .returned (.bool true) ∧ Below w.heap.size w w' := by
  have HV := Lib.hid hv
  have HH := Lib.hid hH
  have HT := Lib.hid hT
  clear hv hH hT
  by_cases hi : 0 ≤ i ∧ i ≤ 1073741824
  · by_cases hk : 0 ≤ k ∧ k ≤ 1073741824
    · have SI := short_ i
      have SK := short_ k
      rw [show decide (0 ≤ i ∧ i ≤ 1073741824) = true from by simp [hi]] at SI
      rw [show decide (0 ≤ k ∧ k ≤ 1073741824) = true from by simp [hk]] at SK
      go_enter Tryd.func4, Tryd.ntmps4
      go_wp2_with fail
      refine (implMini H T 0 w HV.out HH.out HT.out (by omega)).mono ?_
      rintro e w1 ⟨⟨s, rfl, hs⟩, hb1⟩
      have hne := not_empty s (by rw [hs]; unfold miniLen; omega)
      clear hs
      go_wp2_with fail
      refine (SI _).mono ?_
      rintro e w2 ⟨rfl, rfl⟩
      go_wp2_with fail
      refine (SK _).mono ?_
      rintro e w3 ⟨rfl, rfl⟩
      obtain ⟨m, hm⟩ := Int.eq_ofNat_of_zero_le hi.1
      obtain ⟨n, hn⟩ := Int.eq_ofNat_of_zero_le hk.1
      subst hm hn
      have hmin : min (m : Int) (n : Int) = ((min m n : Nat) : Int) := by omega
      have hmax : max (m : Int) (n : Int) = ((max m n : Nat) : Int) := by omega
      have HMIN := Lib.hid hmin
      have HMAX := Lib.hid hmax
      have hmn : min m n ≤ 1073741824 := by omega
      have hmx : max m n ≤ 1073741824 := by omega
      have HLE := Lib.hid (miniLen_mono (show min m n ≤ max m n by omega))
      clear hmin hmax
      go_wp2_with fail
      rw [HMIN.out]
      refine (implMini H T (min m n) _ ((HV.out).below hb1) HH.out HT.out hmn).mono ?_
      rintro e w4 ⟨⟨s2, rfl, hs2⟩, hb2⟩
      have HS2 := Lib.hid hs2
      have HB2 := Lib.hid (hb1.trans (hb2.mono hb1.size))
      clear hs2 hb2
      go_wp2_with fail
      rw [HMAX.out]
      refine (implMini H T (max m n) _ ((HV.out).below HB2.out) HH.out HT.out hmx).mono ?_
      rintro e w5 ⟨⟨s3, rfl, hs3⟩, hb3⟩
      have HB3 := Lib.hid (HB2.out.trans (hb3.mono HB2.out.size))
      have hle : (s2.size : Int) ≤ s3.size := by
        have h2 := HS2.out
        have h := HLE.out
        omega
      clear hs3 hb3
      go_wp2_with fail
      go_returns
      exact ⟨rfl, HB3.out⟩
    · have SI := short_ i
      have SK := short_ k
      rw [show decide (0 ≤ i ∧ i ≤ 1073741824) = true from by simp [hi]] at SI
      rw [show decide (0 ≤ k ∧ k ≤ 1073741824) = false from by simpa using hk] at SK
      go_enter Tryd.func4, Tryd.ntmps4
      go_wp2_with fail
      refine (implMini H T 0 w HV.out HH.out HT.out (by omega)).mono ?_
      rintro e w1 ⟨⟨s, rfl, hs⟩, hb1⟩
      have hne := not_empty s (by rw [hs]; unfold miniLen; omega)
      clear hs
      go_wp2_with fail
      refine (SI _).mono ?_
      rintro e w2 ⟨rfl, rfl⟩
      go_wp2_with fail
      refine (SK _).mono ?_
      rintro e w3 ⟨rfl, rfl⟩
      go_wp2_with fail
      go_returns
      exact ⟨rfl, hb1⟩
  · have SI := short_ i
    rw [show decide (0 ≤ i ∧ i ≤ 1073741824) = false from by simpa using hi] at SI
    go_enter Tryd.func4, Tryd.ntmps4
    go_wp2_with fail
    refine (implMini H T 0 w HV.out HH.out HT.out (by omega)).mono ?_
    rintro e w1 ⟨⟨s, rfl, hs⟩, hb1⟩
    have hne := not_empty s (by rw [hs]; unfold miniLen; omega)
    clear hs
    go_wp2_with fail
    refine (SI _).mono ?_
    rintro e w2 ⟨rfl, rfl⟩
    go_wp2_with fail
    go_returns
    exact ⟨rfl, hb1⟩
end Go.Proofs.YtdcojgkblfobnaaDoor.Mini
