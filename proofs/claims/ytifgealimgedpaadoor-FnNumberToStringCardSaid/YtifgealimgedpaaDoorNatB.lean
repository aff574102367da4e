/- Whole numbers of any size: comparing. The walk. -/
import Derived.Test.YtifgealimgedpaaDoorNatV
import Derived.Deep.QuietTactic
import Derived.BigQuiet
namespace Go.Proofs.YtifgealimgedpaaDoor.Nats
open Go.RowKit Go.Proofs.YtifgealimgedpaaDoor.Aid
attribute [local go_sem ↓] Go.wp_at_zero Go.wp_at_succ
set_option linter.unusedVariables false
theorem NatAt.drewN {w : World} {A : Option Addr} {n c : Nat} {f : Nat → Nat} (h : NatAt w A n c f) (k : Nat) : NatAt (w.drewN k) A n c f := ⟨h.1, h.2.1, fun i hi => h.2.2 i hi⟩
/-- How two numbers compare. -/
def cmpN (a b : Nat) : Int := if a < b then -1 else if a = b then 0 else 1
theorem cmp_lt {a b : Nat} (h : a < b) : cmpN a b = -1 := if_pos h
theorem cmp_eq {a b : Nat} (h : a = b) : cmpN a b = 0 := by rw [cmpN, if_neg (by omega), if_pos h]
theorem cmp_gt {a b : Nat} (h : b < a) : cmpN a b = 1 := by rw [cmpN, if_neg (by omega), if_neg (by omega)]
def CmpPost (a b : Nat) (w : World) (e : Ending) (w' : World) : Prop := (∃ k, w' = w.drewN k) ∧ e = .returned (.int .i64 (cmpN a b))
set_option maxRecDepth 100000 in
set_option maxHeartbeats 4000000 in
theorem natCmp (A B : Option Addr) (n c m d : Nat) (f g : Nat → Nat) (w : World) (h : NatAt w A n c f) (h' : NatAt w B m d g) (hf : ∀ i, i < n → f i < 4294967296) (hg : ∀ i, i < m → g i < 4294967296) (hz : 0 < n → f (n - 1) ≠ 0) (hz' : 0 < m → g (m - 1) ≠ 0) :
    Calls Tryd.prog 28 #[.slice A n c, .slice B m d] w (CmpPost (val f n) (val g m) w) := by
  have HF := Lib.hid hf
  have HG := Lib.hid hg
  have HZ := Lib.hid hz
  have HZ' := Lib.hid hz'
  have a1 := h.1
  have a2 := h.2.1
  have b1 := h'.1
  have b2 := h'.2.1
  have HA := Lib.hid h
  have HB := Lib.hid h'
  clear h h' hf hg hz hz'
  by_cases hnm : n = m
  · subst hnm
    go_enter Tryd.func28, Tryd.ntmps28
    go_wp2_with fail
    go_loopw [5] (fun v wr => ((v = .int .i64 (-1) ∧ val f n = val g n) ∨ ∃ k : Nat, v = .int .i64 k ∧ k < n ∧ ∀ i, k < i → i < n → f i = g i) ∧ ∃ m, wr = w.drewN m) (fun v _ => (intOf v + 1).toNat)
    case atStart =>
      refine ⟨?_, 0, rfl⟩
      cases n with
      | zero => exact .inl ⟨rfl, rfl⟩
      | succ n => exact .inr ⟨n, by simp, by omega, fun i h1 h2 => by omega⟩
    case round =>
      obtain ⟨hv, q, hwr⟩ := hrel
      have HW := Lib.hid hwr
      clear hwr
      rcases hv with ⟨rfl, hv⟩ | ⟨k, rfl, hk, hup⟩
      · have HV := Lib.hid hv
        clear hv
        go_wp2_with fail
        go_returns
        exact ⟨⟨q, HW.out⟩, ret_int (cmp_eq HV.out).symm⟩
      · obtain ⟨ab, ao, rfl, alt, ac⟩ := (HA.out.drewN q).2.2 k hk
        obtain ⟨bb, bo, rfl, blt, bc⟩ := (HB.out.drewN q).2.2 k hk
        replace ac : wr.cell? ⟨ab, ao + k, none⟩ = some (.int .u64 (f k : Int)) := by rw [HW.out]; exact ac
        replace bc : wr.cell? ⟨bb, bo + k, none⟩ = some (.int .u64 (g k : Int)) := by rw [HW.out]; exact bc
        obtain ⟨x, hx⟩ : ∃ x, x = f k := ⟨_, rfl⟩
        obtain ⟨y, hy⟩ : ∃ y, y = g k := ⟨_, rfl⟩
        rw [← hx] at ac
        rw [← hy] at bc
        have q1 : (k : Int) < (n : Int) := by omega
        have HX := Lib.hid hx
        have HY := Lib.hid hy
        have HU := Lib.hid hup
        have HK := Lib.hid hk
        clear hx hy alt blt hup
        by_cases he : x = y
        · have t0 : ((x : Int) != (y : Int)) = false := by simp [he]
          have HE := Lib.hid (show f k = g k by rw [← HX.out, ← HY.out, he])
          clear he
          go_wp2_with fail
          go_quiet (fail)
          clear t0
          go_wp2_with fail
          go_roundw
          case rel =>
            refine ⟨?_, q + nq, by rw [HW.out]; simp⟩
            have hall : ∀ i, k ≤ i → i < n → f i = g i := fun i h1 h2 => by
              by_cases e : i = k
              · rw [e]
                exact HE.out
              · exact HU.out i (by omega) h2
            cases k with
            | zero => exact .inl ⟨rfl, val_congr f g n fun i hi => hall i (by omega) hi⟩
            | succ k => exact .inr ⟨k, by simp, by omega, fun i h1 h2 => hall i (by omega) h2⟩
          case measure => simp [intOf]
        · have t0 : ((x : Int) != (y : Int)) = true := by simp; omega
          have HNE := Lib.hid he
          clear he
          go_wp2_with fail
          go_quiet (fail)
          go_wp2_with fail
          have HW2 := Lib.hid (show wr.drewN nq = w.drewN (q + nq) by rw [HW.out]; simp)
          obtain ⟨w2, hw2⟩ : ∃ w2, w2 = wr.drewN nq := ⟨_, rfl⟩
          replace ac : w2.cell? ⟨ab, ao + k, none⟩ = some (.int .u64 (x : Int)) := by rw [hw2]; exact ac
          replace bc : w2.cell? ⟨bb, bo + k, none⟩ = some (.int .u64 (y : Int)) := by rw [hw2]; exact bc
          rw [← hw2] at HW2 ⊢
          clear hw2 t0 HW
          by_cases hl : x < y
          · have t1 : decide ((x : Int) < (y : Int)) = true := by simp; omega
            have t2 : (x : Int) < (y : Int) := by omega
            have HL := Lib.hid (show val f n < val g n from val_lex f g n k HK.out HF.out HU.out (by rw [← HX.out, ← HY.out]; exact hl))
            clear hl
            go_quiet (fail)
            go_wp2_with fail
            go_returns
            exact ⟨⟨_, by rw [HW2.out, World.drewN_drewN]⟩, ret_int (cmp_lt HL.out).symm⟩
          · have t1 : decide ((x : Int) < (y : Int)) = false := by simp; omega
            have t2 : ¬ (x : Int) < (y : Int) := by omega
            have HL := Lib.hid (show val g n < val f n from val_lex g f n k HK.out HG.out (fun i h1 h2 => (HU.out i h1 h2).symm) (by rw [← HX.out, ← HY.out]; have := HNE.out; omega))
            clear hl
            go_quiet (fail)
            go_wp2_with fail
            go_returns
            exact ⟨⟨_, by rw [HW2.out, World.drewN_drewN]⟩, ret_int (cmp_gt HL.out).symm⟩
  · have t0 : ((n : Int) != (m : Int)) = true := by simp; omega
    by_cases hl : n < m
    · have t1 : (n : Int) < (m : Int) := by omega
      have HL := Lib.hid (val_len f g n m HF.out hl (HZ'.out (by omega)))
      clear hnm hl
      go_enter Tryd.func28, Tryd.ntmps28
      go_wp2_with fail
      go_returns
      exact ⟨⟨0, rfl⟩, ret_int (cmp_lt HL.out).symm⟩
    · have t1 : ¬ (n : Int) < (m : Int) := by omega
      have HL := Lib.hid (val_len g f m n HG.out (by omega) (HZ.out (by omega)))
      clear hnm hl
      go_enter Tryd.func28, Tryd.ntmps28
      go_wp2_with fail
      go_returns
      exact ⟨⟨0, rfl⟩, ret_int (cmp_gt HL.out).symm⟩
/-- A number in memory: a trimmed row of limbs, worth V. -/
def Num (w : World) (v : Value) (V : Nat) : Prop := ∃ (A : Option Addr) (k c : Nat) (f : Nat → Nat), v = .slice A k c ∧ NatAt w A k c f ∧ (∀ i, i < k → f i < 4294967296) ∧ (0 < k → f (k - 1) ≠ 0) ∧ val f k = V
theorem Num.below {w w' : World} {v : Value} {V : Nat} (h : Num w v V) (hb : Below w.heap.size w w') : Num w' v V := by
  obtain ⟨A, k, c, f, h1, h2, h3⟩ := h
  exact ⟨A, k, c, f, h1, h2.below hb, h3⟩
theorem Num.drewN {w : World} {v : Value} {V : Nat} (h : Num w v V) (k : Nat) : Num (w.drewN k) v V := by
  obtain ⟨A, k, c, f, h1, h2, h3⟩ := h
  exact ⟨A, k, c, f, h1, h2.drewN _, h3⟩
/-- How many limbs a number has. -/
theorem limbs {f : Nat → Nat} {k V : Nat} (h1 : ∀ i, i < k → f i < 4294967296) (h2 : 0 < k → f (k - 1) ≠ 0) (h3 : val f k = V) : 32 * k ≤ blen V + 31 ∧ blen V ≤ 32 * k := by
  have h := bits_val f k h1 h2
  rw [h3] at h
  rw [← h]
  unfold bitsOf
  split
  · omega
  · have a := blen_pos (h2 (by omega))
    have b := blen_le_of_lt (x := f (k - 1)) (n := 32) (h1 (k - 1) (by omega))
    omega
/-- What a function gives that makes a number. -/
def Gives (V : Nat) (w : World) (e : Ending) (w' : World) : Prop := Below w.heap.size w w' ∧ ∃ v, e = .returned v ∧ Num w' v V
theorem cmp_walk (u v : Value) (U V : Nat) (w : World) (h : Num w u U) (h' : Num w v V) : Calls Tryd.prog 28 #[u, v] w (CmpPost U V w) := by
  obtain ⟨A, n, c, f, rfl, a1, a2, a3, rfl⟩ := h
  obtain ⟨B, m, d, g, rfl, b1, b2, b3, rfl⟩ := h'
  exact natCmp A B n c m d f g w a1 b1 a2 b2 a3 b3
theorem bits_walk (u : Value) (U : Nat) (w : World) (h : Num w u U) : Calls Tryd.prog 43 #[u] w fun e w' => w' = w ∧ e = .returned (.int .i64 (blen U)) := by
  obtain ⟨A, n, c, f, rfl, a1, a2, a3, rfl⟩ := h
  rw [← bits_val f n a2 a3]
  exact natBits A n c f w a1 fun i hi => by have := a2 i hi; omega
end Go.Proofs.YtifgealimgedpaaDoor.Nats
