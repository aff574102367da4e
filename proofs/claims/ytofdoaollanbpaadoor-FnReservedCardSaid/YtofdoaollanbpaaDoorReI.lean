/- No symbol twice; names of members. The walks. -/
import Derived.Test.YtofdoaollanbpaaDoorReH
import Derived.BigQuiet
namespace Go.Proofs.YtofdoaollanbpaaDoor.Res
open Go.RowKit Go.Proofs.YtofdoaollanbpaaDoor.Aid
attribute [local go_sem ↓] Go.wp_at_zero Go.wp_at_succ
set_option linter.unusedVariables false
set_option linter.unusedSimpArgs false
set_option maxRecDepth 100000 in
theorem scopeOnce (A : Option Addr) (n c : Nat) (f : Nat → Int) (g m : Nat) (fb : Nat → Bool) (w : World) (h : Reads w A n fun i => .int .i64 (f i)) (hn : n ≤ 9223372036854775807) (hm : m ≤ 9223372036854775807)
    (hK : Blk w g 4 (row m fun i => .bool (fb i))) (hg : ∀ b o, A = some ⟨b, o, none⟩ → b ≠ g) :
    Calls Tryd.prog 25 #[.slice A n c, .slice (some ⟨g, 0, none⟩) m m] w fun e w' => w.grownBy w' (some g) ∧ (∃ fb' : Nat → Bool, Blk w' g 4 (row m fun i => .bool (fb' i))) ∧ ∃ z, e = .returned (.bool z) ∧ (z = true → ∀ i, i < n → 0 ≤ f i ∧ f i < m) := by
  have HH := Lib.hid h
  have HG := Lib.hid hg
  clear h hg
  go_enter Tryd.func25, Tryd.ntmps25
  go_wp2_with fail
  go_loopw [9] (fun iv wr => ∃ i : Nat, iv = .int .i64 i ∧ i ≤ n ∧ w.grownBy wr (some g) ∧ (∃ fb' : Nat → Bool, Blk wr g 4 (row m fun i => .bool (fb' i))) ∧ Hid (∀ j, j < i → 0 ≤ f j ∧ f j < m)) (fun iv _ => ((n : Int) - intOf iv).toNat)
  case atStart => exact ⟨0, rfl, by omega, World.grownBy.refl _ _, ⟨_, hK⟩, Lib.hid (fun j hj => by omega)⟩
  case round =>
    obtain ⟨i, rfl, hi, hw, ⟨fb', hK'⟩, HN⟩ := hrel
    have HK := Lib.hid hK'
    clear hK hK'
    have HW := Lib.hid hw
    clear hw
    by_cases hlt : i < n
    · obtain ⟨b, o, rfl, hb, hc0⟩ := HH.out i hlt
      have hbg := HG.out b o rfl
      have hc : wr.cell? ⟨b, o + i, none⟩ = some (.int .i64 (f i)) := (HW.out.cell_far _ hb (by simpa using hbg)).trans hc0
      clear hc0
      have hlt' : (i : Int) < n := by omega
      have hEnd : ∀ z : Bool, z = true → False → False := fun _ _ h => h
      by_cases h0 : f i < 0
      · go_wp2_with fail
        go_returns
        exact ⟨HW.out, ⟨_, HK.out⟩, false, rfl, fun h => by cases h⟩
      · by_cases h1 : (m : Int) ≤ f i
        · go_wp2_with fail
          go_returns
          exact ⟨HW.out, ⟨_, HK.out⟩, .inl rfl⟩
        · obtain ⟨k, hk⟩ : ∃ k : Nat, f i = k := ⟨(f i).toNat, by omega⟩
          have HX := Lib.hid (show 0 ≤ f i ∧ f i < m by omega)
          rw [hk] at hc h0 h1
          have hkm : k < m := by omega
          have hcell := HK.out.get k (row_get m _ k hkm)
          have hfr := HK.out.frozen k
          clear hk
          obtain ⟨z, hz⟩ : ∃ z, fb' k = z := ⟨_, rfl⟩
          rw [hz] at hcell
          clear hz
          cases z
          · go_wp2_with fail
            go_roundw
            case rel =>
              refine ⟨i + 1, val_int (by omega), by omega, only_setCell HW.out (.inl rfl) _, ⟨fun j => if j = k then true else fb' j, ?_⟩, Lib.hid fun j hj => ?_⟩
              · have := HK.out.set_ k (.bool true)
                rw [row_set] at this
                rw [show (row m fun i => Value.bool (if i = k then true else fb' i)) = row m fun j => if j = k then Value.bool true else Value.bool (fb' j) from row_congr _ _ _ fun j _ => by by_cases q : j = k <;> simp [q]]
                exact this
              · rcases Nat.lt_or_ge j i with q | q
                · exact HN.out j q
                · have : j = i := by omega
                  subst this
                  exact HX.out
            case measure => simp [intOf]; omega
          · go_wp2_with fail
            go_returns
            exact ⟨HW.out, ⟨_, HK.out⟩, .inl rfl⟩
    · go_wp2_with fail
      go_returns
      exact ⟨HW.out, ⟨_, HK.out⟩, true, rfl, fun _ j hj => HN.out j (by omega)⟩
open Classical in
/-- A name stands among the first ones. -/
noncomputable def hasB (f : Nat → ByteArray) (n : Nat) (x : ByteArray) : Bool := decide (∃ i, i < n ∧ f i = x)
theorem hasD (A : Option Addr) (n c : Nat) (f : Nat → ByteArray) (x : ByteArray) (w : World) (h : Reads w A n fun i => .string (f i)) (hn : n ≤ 9223372036854775807) :
    Calls Tryd.prog 54 #[.slice A n c, .string x] w fun e w' => e = .returned (.bool (hasB f n x)) ∧ w' = w := by
  refine (has A n c f x w h hn).mono ?_
  rintro e w' ⟨z, rfl, rfl, hz⟩
  refine ⟨?_, rfl⟩
  congr 2
  unfold hasB
  cases z
  · exact (decide_eq_false (fun h => by have := hz.2 h; cases this)).symm
  · exact (decide_eq_true (hz.1 rfl)).symm
theorem Reads.take {w : World} {A : Option Addr} {n m : Nat} {f : Nat → Value} (h : Reads w A n f) (hm : m ≤ n) : Reads w A m f := fun i hi => h i (by omega)
theorem drewN_below (w : World) (n : Nat) : Below w.heap.size w (w.drewN n) := below_drewN (Below.refl _ _) n
set_option maxRecDepth 100000 in
theorem namesTwice (A : Option Addr) (n c : Nat) (f : Nat → ByteArray) (w : World) (h : Reads w A n fun i => .string (f i)) (hn : n ≤ 9223372036854775807) (hnc : n ≤ c) :
    Calls Tryd.prog 37 #[.slice A n c] w fun e w' => Below w.heap.size w w' ∧ ∃ z, e = .returned (.bool z) ∧ (z = false → ∀ i j, i < j → j < n → f i ≠ f j) := by
  have HH := Lib.hid h
  have HD := Lib.hid (fun m (hm : m ≤ n) c x W (hb : Below w.heap.size w W) => hasD A m c f x W ((Reads.take h hm).below hb) (by omega))
  clear h
  go_enter Tryd.func37, Tryd.ntmps37
  go_wp2_with fail
  go_loopw [3] (fun iv wr => ∃ i : Nat, iv = .int .i64 i ∧ i ≤ n ∧ Below w.heap.size w wr ∧ Hid (∀ i' j, i' < j → j < i → f i' ≠ f j)) (fun iv _ => ((n : Int) - intOf iv).toNat)
  case atStart => exact ⟨0, rfl, by omega, Below.refl _ _, Lib.hid (fun i j _ hj => by omega)⟩
  case round =>
    obtain ⟨i, rfl, hi, hw, HN⟩ := hrel
    by_cases hlt : i < n
    · obtain ⟨b, o, rfl, hb, hc0⟩ := HH.out i hlt
      have hc := bcell hw hb hc0
      clear hc0
      have hlt' : (i : Int) < n := by omega
      simp only at hc
      have hic : i ≤ c := by omega
      go_wp2_with fail
      go_quiet ((go_at_call 54; exact Calls.quiet_of_same (HD.out i (by omega) c _ _ (below_drewN hw _))))
      have hw2 := below_drewN hw nq
      obtain ⟨W2, hW2⟩ : ∃ W2, W2 = wr.drewN nq := ⟨_, rfl⟩
      rw [← hW2] at hw2 ⊢
      clear hW2 hc hw
      obtain ⟨z, hz⟩ : ∃ z, hasB f i (f i) = z := ⟨_, rfl⟩
      rw [hz]
      cases z
      · have HX := Lib.hid (show ∀ i', i' < i → f i' ≠ f i from fun i' h1 h2 => of_decide_eq_false hz ⟨i', h1, h2⟩)
        clear hz
        go_wp2_with fail
        go_roundw
        case rel =>
          refine ⟨i + 1, val_int (by omega), by omega, hw2, Lib.hid fun i' j h1 h2 => ?_⟩
          rcases Nat.lt_or_ge j i with q | q
          · exact HN.out i' j h1 q
          · have : j = i := by omega
            subst this
            exact HX.out i' h1
        case measure => simp [intOf]; omega
      · clear hz
        go_wp2_with fail
        go_returns
        exact ⟨hw2, true, rfl, fun h => by cases h⟩
    · go_wp2_with fail
      go_returns
      exact ⟨hw, false, rfl, fun _ i j h1 h2 => HN.out i j h1 (by omega)⟩
end Go.Proofs.YtofdoaollanbpaaDoor.Res
