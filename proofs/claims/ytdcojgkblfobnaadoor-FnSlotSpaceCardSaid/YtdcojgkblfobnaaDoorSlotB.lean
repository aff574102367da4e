/- The namespaces of the package and of the reference: of a symbol of kind k with the flags 0 or 1 both say the same. The walks. -/
import Derived.Test.YtdcojgkblfobnaaDoorSlotA
namespace Go.Proofs.YtdcojgkblfobnaaDoor.Slot
open Go.RowKit Go.Proofs.YtdcojgkblfobnaaDoor.Aid
attribute [local go_sem ↓] Go.wp_at_zero Go.wp_at_succ
set_option linter.unusedSimpArgs false
set_option linter.unusedVariables false
/-- The namespace of a symbol of kind k with the flags f. -/
def slot (k f : Int) : Int := if k = 0 ∨ f = 1 then 4 else if 8 ≤ k ∧ k ≤ 17 then 2 else if k = 18 then 1 else if k = 24 then 3 else 0
theorem has0 (w : World) : Calls Tryd.prog 14 #[.int .u16 0, .int .u16 1] w fun e w' => e = .returned (.bool false) ∧ w' = w := by
  go_enter Tryd.func14, Tryd.ntmps14
  go_wp2_with fail
  go_returns
  exact ⟨rfl, rfl⟩
theorem has1 (w : World) : Calls Tryd.prog 14 #[.int .u16 1, .int .u16 1] w fun e w' => e = .returned (.bool true) ∧ w' = w := by
  go_enter Tryd.func14, Tryd.ntmps14
  go_wp2_with fail
  go_returns
  exact ⟨rfl, rfl⟩
set_option maxHeartbeats 2000000 in
theorem namespace_ (g : Nat) (k f : Int) (w : World) (hk : w.cell? ⟨g, 8, none⟩ = some (.int .u8 k)) (hf : w.cell? ⟨g, 7, none⟩ = some (.int .u16 f)) (f0 : 0 ≤ f) (f1 : f ≤ 1) :
    Calls Tryd.prog 10 #[.pointer (some ⟨g, 0, none⟩)] w fun e w' => e = .returned (.int .u8 (slot k f)) ∧ Below w.heap.size w w' := by
  by_cases h0 : k = 0
  · have e : slot k f = 4 := by simp [slot, h0]
    rw [e]
    subst h0
    go_enter Tryd.func10, Tryd.ntmps10
    go_wp2_with fail
    go_returns
    exact ⟨rfl, Below.refl _ _⟩
  · have h0' : (k == 0) = false := by simp [h0]
    rcases (by omega : f = 0 ∨ f = 1) with rfl | rfl
    · by_cases hp : 8 ≤ k ∧ k ≤ 17
      · have e : slot k 0 = 2 := by simp [slot, h0, hp]
        have hd : decide (8 ≤ k ∧ k ≤ 17) = true := by simp [hp]
        have HP := private_ k
        rw [hd] at HP
        rw [e]
        clear e hd
        go_enter Tryd.func10, Tryd.ntmps10
        go_wp2_with fail
        refine (has0 _).mono ?_
        rintro e w1 ⟨rfl, rfl⟩
        go_wp2_with fail
        refine (HP _).mono ?_
        rintro e w2 ⟨rfl, rfl⟩
        go_wp2_with fail
        go_returns
        exact ⟨rfl, Below.refl _ _⟩
      · have hd : decide (8 ≤ k ∧ k ≤ 17) = false := by simpa using hp
        have HP := private_ k
        rw [hd] at HP
        clear hd
        by_cases h18 : k = 18
        · have e : slot k 0 = 1 := by simp [slot, h18]
          rw [e]
          clear e
          subst h18
          go_enter Tryd.func10, Tryd.ntmps10
          go_wp2_with fail
          refine (has0 _).mono ?_
          rintro e w1 ⟨rfl, rfl⟩
          go_wp2_with fail
          refine (HP _).mono ?_
          rintro e w2 ⟨rfl, rfl⟩
          go_wp2_with fail
          go_returns
          exact ⟨rfl, Below.refl _ _⟩
        · have h18' : (k == 18) = false := by simp [h18]
          by_cases h24 : k = 24
          · have e : slot k 0 = 3 := by simp [slot, h24]
            rw [e]
            clear e
            subst h24
            go_enter Tryd.func10, Tryd.ntmps10
            go_wp2_with fail
            refine (has0 _).mono ?_
            rintro e w1 ⟨rfl, rfl⟩
            go_wp2_with fail
            refine (HP _).mono ?_
            rintro e w2 ⟨rfl, rfl⟩
            go_wp2_with fail
            go_returns
            exact ⟨rfl, Below.refl _ _⟩
          · have h24' : (k == 24) = false := by simp [h24]
            have e : slot k 0 = 0 := by simp only [slot, h0, hp, h18, h24, if_false]; simp
            rw [e]
            clear e
            go_enter Tryd.func10, Tryd.ntmps10
            go_wp2_with fail
            refine (has0 _).mono ?_
            rintro e w1 ⟨rfl, rfl⟩
            go_wp2_with fail
            refine (HP _).mono ?_
            rintro e w2 ⟨rfl, rfl⟩
            go_wp2_with fail
            go_returns
            exact ⟨rfl, Below.refl _ _⟩
    · have e : slot k 1 = 4 := by simp [slot]
      rw [e]
      clear e
      go_enter Tryd.func10, Tryd.ntmps10
      go_wp2_with fail
      refine (has1 _).mono ?_
      rintro e w1 ⟨rfl, rfl⟩
      go_wp2_with fail
      go_returns
      exact ⟨rfl, Below.refl _ _⟩
set_option maxHeartbeats 2000000 in
theorem scope_ (nm : ByteArray) (x k f : Int) (w : World) (f0 : 0 ≤ f) (f1 : f ≤ 1) :
    Calls Tryd.prog 6 #[.agg #[.string nm, .int .u32 x, .int .i64 f, .int .i64 k]] w fun e w' => e = .returned (.int .i64 (slot k f)) ∧ Below w.heap.size w w' := by
  by_cases h0 : k = 0
  · have e : slot k f = 4 := by simp [slot, h0]
    rw [e]
    subst h0
    go_enter Tryd.func6, Tryd.ntmps6
    go_wp2_with fail
    go_returns
    exact ⟨rfl, below_at (Below.refl _ _) _⟩
  · have h0' : (k == 0) = false := by simp [h0]
    rcases (by omega : f = 0 ∨ f = 1) with rfl | rfl
    · by_cases hp : 8 ≤ k ∧ k ≤ 17
      · have e : slot k 0 = 2 := by simp [slot, h0, hp]
        have hd : decide (8 ≤ k ∧ k ≤ 17) = true := by simp [hp]
        have HP := between_ k
        rw [hd] at HP
        rw [e]
        clear e hd
        go_enter Tryd.func6, Tryd.ntmps6
        go_wp2_with fail
        refine (HP _).mono ?_
        rintro e w2 ⟨rfl, rfl⟩
        go_wp2_with fail
        go_returns
        exact ⟨rfl, below_at (Below.refl _ _) _⟩
      · have hd : decide (8 ≤ k ∧ k ≤ 17) = false := by simpa using hp
        have HP := between_ k
        rw [hd] at HP
        clear hd
        by_cases h18 : k = 18
        · have e : slot k 0 = 1 := by simp [slot, h18]
          rw [e]
          clear e
          subst h18
          go_enter Tryd.func6, Tryd.ntmps6
          go_wp2_with fail
          refine (HP _).mono ?_
          rintro e w2 ⟨rfl, rfl⟩
          go_wp2_with fail
          go_returns
          exact ⟨rfl, below_at (Below.refl _ _) _⟩
        · have h18' : (k == 18) = false := by simp [h18]
          by_cases h24 : k = 24
          · have e : slot k 0 = 3 := by simp [slot, h24]
            rw [e]
            clear e
            subst h24
            go_enter Tryd.func6, Tryd.ntmps6
            go_wp2_with fail
            refine (HP _).mono ?_
            rintro e w2 ⟨rfl, rfl⟩
            go_wp2_with fail
            go_returns
            exact ⟨rfl, below_at (Below.refl _ _) _⟩
          · have h24' : (k == 24) = false := by simp [h24]
            have e : slot k 0 = 0 := by simp only [slot, h0, hp, h18, h24, if_false]; simp
            rw [e]
            clear e
            go_enter Tryd.func6, Tryd.ntmps6
            go_wp2_with fail
            refine (HP _).mono ?_
            rintro e w2 ⟨rfl, rfl⟩
            go_wp2_with fail
            go_returns
            exact ⟨rfl, below_at (Below.refl _ _) _⟩
    · have e : slot k 1 = 4 := by simp [slot]
      rw [e]
      clear e
      go_enter Tryd.func6, Tryd.ntmps6
      go_wp2_with fail
      go_returns
      exact ⟨rfl, below_at (Below.refl _ _) _⟩
end Go.Proofs.YtdcojgkblfobnaaDoor.Slot
