/- MapFind. The walk. -/
import Derived.Test.YtobhlppdolekoaaChJ
import Derived.Test.YtobhlppdolekoaaChW
namespace Go.Proofs.Ytobhlppdolekoaa.Ch
open Go.RowKit Go.Proofs.Ytobhlppdolekoaa.Aid Go.Proofs.Ytobhlppdolekoaa.Bytes Go.Proofs.Ytobhlppdolekoaa.Runes
attribute [local go_sem ↓] Go.wp_at_zero Go.wp_at_succ
set_option linter.unusedVariables false
set_option linter.unusedSimpArgs false
/-- The last mapping of a line at or before a column. -/
def findTo (D : List Mp) (line col : Int) : Nat → Int
  | 0 => -1
  | k + 1 => match D[k]? with
    | some m => if m.line = line ∧ m.col ≤ col then k else findTo D line col k
    | none => findTo D line col k
theorem mcells_get (D : List Mp) : ∀ (i : Nat) m (r : Nat), r < 6 → D[i]? = some m → (mcells D)[i * 6 + r]? = m.cells[r]? := by
  induction D with
  | nil => intro i m r _ h; simp at h
  | cons x xs ih =>
    intro i m r hr h
    have e : mcells (x :: xs) = x.cells ++ mcells xs := rfl
    have hx : x.cells.length = 6 := rfl
    cases i with
    | zero =>
      simp at h
      subst h
      rw [e, Nat.zero_mul, Nat.zero_add, List.getElem?_append_left (by omega)]
    | succ i =>
      rw [e, List.getElem?_append_right (by omega), hx, show (i + 1) * 6 + r - 6 = i * 6 + r by omega]
      exact ih i m r hr (by simpa using h)
set_option maxRecDepth 100000 in
set_option maxHeartbeats 4000000 in
theorem mapFind (base : Nat) (lv : Value) (D : List Mp) (line col : Int) (w : World) (h : w.ownsRow base 42 6 lv D.length (mcells D)) (hD : D.length ≤ 1000000000) :
    Calls Try.prog 12 #[lv, .int .i64 line, .int .i64 col] w fun e w' => e = .returned (.int .i64 (findTo D line col D.length)) ∧ w' = w := by
  obtain ⟨A, c, hlv, hr⟩ := own_form h
  have HCE := Lib.hid (fun (i : Nat) (m : Mp) (hi : D[i]? = some m) => show ∃ g, A = some ⟨g, 0, none⟩ ∧ w.cell? ⟨g, i * 6, none⟩ = some (.int .i64 m.line) ∧ w.cell? ⟨g, i * 6 + 1, none⟩ = some (.int .i64 m.col) by
    have hil : i < D.length := by
      rcases Nat.lt_or_ge i D.length with h' | h'
      · exact h'
      · rw [List.getElem?_eq_none h'] at hi; cases hi
    obtain ⟨g, e, _, _, hc⟩ := hr (i * 6) (by omega)
    obtain ⟨g', e', _, _, hc'⟩ := hr (i * 6 + 1) (by omega)
    rw [e] at e'
    injection e' with e'
    injection e' with e'
    subst e'
    exact ⟨g, e, by rw [hc]; exact mcells_get D i m 0 (by omega) hi, by rw [hc']; exact mcells_get D i m 1 (by omega) hi⟩)
  subst hlv
  clear h hr
  obtain ⟨n, hn⟩ : ∃ n, n = D.length := ⟨_, rfl⟩
  rw [← hn] at hD ⊢
  have HN := Lib.hid hn
  clear hn
  go_enter Try.func12, Try.ntmps12
  go_wp2_with fail
  go_loopg [7, 11] n (fun m ov iv wr => ∃ i : Nat, i + m = n ∧ iv = .int .i64 i ∧ ov = .int .i64 (findTo D line col i) ∧ wr = w)
  case atStart => exact ⟨0, by omega, rfl, rfl, rfl⟩
  case round =>
    obtain ⟨i, him, rfl, rfl, rfl⟩ := hrel
    by_cases hi : i < n
    · have hii : (i : Int) < n := by omega
      obtain ⟨m, hm⟩ : ∃ m, D[i]? = some m := ⟨_, List.getElem?_eq_getElem (by rw [← HN.out]; exact hi)⟩
      obtain ⟨g, hA, c0, c1⟩ := HCE.out i m hm
      subst hA
      have HM := Lib.hid hm
      have HF : Hid (findTo D line col (i + 1) = if m.line = line ∧ m.col ≤ col then (i : Int) else findTo D line col i) := Lib.hid (by rw [findTo, HM.out])
      obtain ⟨F, hF⟩ : ∃ F, F = findTo D line col i := ⟨_, rfl⟩
      rw [← hF] at HF ⊢
      clear hm hF
      by_cases h1 : m.line = line
      · have q1 : (m.line == line) = true := by simp [h1]
        by_cases h2 : m.col ≤ col
        · have HV : Hid (findTo D line col (i + 1) = (i : Int)) := Lib.hid (by rw [HF.out, if_pos ⟨h1, h2⟩])
          clear h1
          go_wp2_with fail
          go_roundg (n - (i + 1))
          case rel => exact ⟨i + 1, by omega, rfl, by rw [HV.out], rfl⟩
          case measure => omega
        · have HV : Hid (findTo D line col (i + 1) = F) := Lib.hid (by rw [HF.out, if_neg (fun h => h2 h.2)])
          clear h1
          go_wp2_with fail
          go_roundg (n - (i + 1))
          case rel => exact ⟨i + 1, by omega, rfl, by rw [HV.out], rfl⟩
          case measure => omega
      · have q1 : (m.line == line) = false := by simp [h1]
        have HV : Hid (findTo D line col (i + 1) = F) := Lib.hid (by rw [HF.out, if_neg (fun h => h1 h.1)])
        clear h1
        go_wp2_with fail
        go_roundg (n - (i + 1))
        case rel => exact ⟨i + 1, by omega, rfl, by rw [HV.out], rfl⟩
        case measure => omega
    · have hii : ¬ (i : Int) < n := by omega
      have hin : i = n := by omega
      subst hin
      clear hi
      go_wp2_with fail
      go_returns
      exact ⟨rfl, rfl⟩
end Go.Proofs.Ytobhlppdolekoaa.Ch
/- Ordered. The walk. -/
namespace Go.Proofs.Ytobhlppdolekoaa.Ch
open Go.RowKit Go.Proofs.Ytobhlppdolekoaa.Aid Go.Proofs.Ytobhlppdolekoaa.Bytes Go.Proofs.Ytobhlppdolekoaa.Runes
attribute [local go_sem ↓] Go.wp_at_zero Go.wp_at_succ
set_option linter.unusedVariables false
set_option linter.unusedSimpArgs false
/-- No mapping is before the one ahead of it. -/
def InOrder (D : List Mp) : Prop := ∀ (i : Nat) a b, D[i]? = some a → D[i + 1]? = some b → ¬ (b.line < a.line ∨ (b.line = a.line ∧ b.col < a.col))
set_option maxRecDepth 100000 in
set_option maxHeartbeats 4000000 in
theorem ordered (base : Nat) (lv : Value) (D : List Mp) (w : World) (h : w.ownsRow base 42 6 lv D.length (mcells D)) (hD : D.length ≤ 1000000000) (ho : InOrder D) :
    Calls Try.prog 10 #[lv] w fun e w' => e = .returned (.bool true) ∧ Below w.heap.size w w' := by
  obtain ⟨A, c, hlv, hr⟩ := own_form h
  have HCE := Lib.hid (fun (i : Nat) (m : Mp) (hi : D[i]? = some m) => show ∃ g, A = some ⟨g, 0, none⟩ ∧ g < w.heap.size ∧ w.cell? ⟨g, i * 6, none⟩ = some (.int .i64 m.line) ∧ w.cell? ⟨g, i * 6 + 1, none⟩ = some (.int .i64 m.col) by
    have hil : i < D.length := by
      rcases Nat.lt_or_ge i D.length with h' | h'
      · exact h'
      · rw [List.getElem?_eq_none h'] at hi; cases hi
    obtain ⟨g, e, _, hlt, hc⟩ := hr (i * 6) (by omega)
    obtain ⟨g', e', _, _, hc'⟩ := hr (i * 6 + 1) (by omega)
    rw [e] at e'
    injection e' with e'
    injection e' with e'
    subst e'
    exact ⟨g, e, hlt, by rw [hc]; exact mcells_get D i m 0 (by omega) hi, by rw [hc']; exact mcells_get D i m 1 (by omega) hi⟩)
  subst hlv
  have HO := Lib.hid ho
  clear h hr ho
  obtain ⟨n, hn⟩ : ∃ n, n = D.length := ⟨_, rfl⟩
  rw [← hn] at hD ⊢
  have HN := Lib.hid hn
  clear hn
  go_enter Try.func10, Try.ntmps10
  go_wp2_with fail
  go_loopg [3] (n - 1) (fun m iv wr => ∃ i : Nat, 1 ≤ i ∧ n - i = m ∧ iv = .int .i64 i ∧ Aside (Below w.heap.size w wr))
  case atStart => exact ⟨1, Nat.le_refl _, rfl, rfl, Below.refl _ _⟩
  case round =>
    obtain ⟨i, hi1, him, rfl, hb⟩ := hrel
    have HB := Lib.hid hb.out
    have HIM := Lib.hid him
    clear hb
    by_cases hi : i < n
    · have hii : (i : Int) < n := by omega
      obtain ⟨p, hp⟩ : ∃ p, p + 1 = i := ⟨i - 1, by omega⟩
      obtain ⟨m1, hm1⟩ : ∃ m, D[i]? = some m := ⟨_, List.getElem?_eq_getElem (by rw [← HN.out]; exact hi)⟩
      obtain ⟨m0, hm0⟩ : ∃ m, D[p]? = some m := ⟨_, List.getElem?_eq_getElem (by rw [← HN.out]; omega)⟩
      obtain ⟨g, hA, hg, c2, c3⟩ := HCE.out i m1 hm1
      subst hA
      obtain ⟨g', hA', _, c0, c1⟩ := HCE.out p m0 hm0
      injection hA' with hA'
      injection hA' with hA'
      subst hA'
      have HNO : Hid (¬ (m1.line < m0.line ∨ (m1.line = m0.line ∧ m1.col < m0.col))) := Lib.hid (HO.out p m0 m1 hm0 (by rw [hp]; exact hm1))
      have hwp : IntKind.i64.wrap ((i : Int) - 1) = (p : Int) := by rw [IntKind.wrap_i64]; omega
      have hpn : p < n := by omega
      have hpn' : (p : Int) < n := by omega
      have s0 : wr.drew.cell? ⟨g, p * 6, none⟩ = some (.int .i64 m0.line) := bcell HB.out hg c0
      have s1 : wr.drew.cell? ⟨g, p * 6 + 1, none⟩ = some (.int .i64 m0.col) := bcell HB.out hg c1
      have s2 : wr.drew.cell? ⟨g, i * 6, none⟩ = some (.int .i64 m1.line) := bcell HB.out hg c2
      have s3 : wr.drew.cell? ⟨g, i * 6 + 1, none⟩ = some (.int .i64 m1.col) := bcell HB.out hg c3
      have HG := Lib.hid hg
      clear hm0 hm1 c0 c1 c2 c3 hp him
      go_upto_region 4 with fail
      refine Hoist.start (S := fun _ w' => w'.cell? ⟨g, p * 6, none⟩ = some (.int .i64 m0.line) ∧ w'.cell? ⟨g, p * 6 + 1, none⟩ = some (.int .i64 m0.col) ∧ w'.cell? ⟨g, i * 6, none⟩ = some (.int .i64 m1.line) ∧ w'.cell? ⟨g, i * 6 + 1, none⟩ = some (.int .i64 m1.col)) (by kernel_rfl) ?_
      refine Hoist.takeS (i := 0) (v := ?va0) rfl (by kernel_rfl) (by kernel_rfl) (by kernel_rfl) (fun _ _ _ h => h) ⟨by rfl, ?hya0⟩ ⟨s0, s1, s2, s3⟩ ?resta0
      case hya0 =>
        intro w' hSw
        obtain ⟨s0, s1, s2, s3⟩ := hSw
        go_simp
        rfl
      simp only [Act.put, List.setIfInBounds_toArray, List.set_cons_zero, List.set_cons_succ]
      refine Hoist.takeS (i := 1) (v := ?va1) rfl (by kernel_rfl) (by kernel_rfl) (by kernel_rfl) (fun _ _ _ h => h) ⟨by rfl, ?hya1⟩ ⟨s0, s1, s2, s3⟩ ?resta1
      case hya1 =>
        intro w' hSw
        obtain ⟨s0, s1, s2, s3⟩ := hSw
        go_simp
        rfl
      simp only [Act.put, List.setIfInBounds_toArray, List.set_cons_zero, List.set_cons_succ]
      refine Hoist.takeS (i := 2) (v := ?va2) rfl (by kernel_rfl) (by kernel_rfl) (by kernel_rfl) (fun _ _ _ h => h) ⟨by rfl, ?hya2⟩ ⟨s0, s1, s2, s3⟩ ?resta2
      case hya2 =>
        intro w' hSw
        obtain ⟨s0, s1, s2, s3⟩ := hSw
        go_simp
        rfl
      simp only [Act.put, List.setIfInBounds_toArray, List.set_cons_zero, List.set_cons_succ]
      refine Hoist.takeS (i := 3) (v := ?va3) rfl (by kernel_rfl) (by kernel_rfl) (by kernel_rfl) (fun _ _ _ h => h) ⟨by rfl, ?hya3⟩ ⟨s0, s1, s2, s3⟩ ?resta3
      case hya3 =>
        intro w' hSw
        obtain ⟨s0, s1, s2, s3⟩ := hSw
        go_simp
        rfl
      simp only [Act.put, List.setIfInBounds_toArray, List.set_cons_zero, List.set_cons_succ]
      refine Hoist.takeS (i := 4) (v := ?va4) rfl (by kernel_rfl) (by kernel_rfl) (by kernel_rfl) (fun _ _ _ h => h) ⟨by rfl, ?hya4⟩ ⟨s0, s1, s2, s3⟩ ?resta4
      case hya4 =>
        intro w' hSw
        obtain ⟨s0, s1, s2, s3⟩ := hSw
        go_simp
        rfl
      simp only [Act.put, List.setIfInBounds_toArray, List.set_cons_zero, List.set_cons_succ]
      refine Hoist.takeS (i := 5) (v := ?va5) rfl (by kernel_rfl) (by kernel_rfl) (by kernel_rfl) (fun _ _ _ h => h) ⟨by rfl, ?hya5⟩ ⟨s0, s1, s2, s3⟩ ?resta5
      case hya5 =>
        intro w' hSw
        obtain ⟨s0, s1, s2, s3⟩ := hSw
        go_simp
        rfl
      simp only [Act.put, List.setIfInBounds_toArray, List.set_cons_zero, List.set_cons_succ]
      refine Hoist.takeS (i := 6) (v := ?va6) rfl (by kernel_rfl) (by kernel_rfl) (by kernel_rfl) (fun _ _ _ h => h) ⟨by rfl, ?hya6⟩ ⟨s0, s1, s2, s3⟩ ?resta6
      case hya6 =>
        intro w' hSw
        obtain ⟨s0, s1, s2, s3⟩ := hSw
        go_simp
        rfl
      simp only [Act.put, List.setIfInBounds_toArray, List.set_cons_zero, List.set_cons_succ]
      refine Hoist.takeS (i := 7) (v := ?va7) rfl (by kernel_rfl) (by kernel_rfl) (by kernel_rfl) (fun _ _ _ h => h) ⟨by rfl, ?hya7⟩ ⟨s0, s1, s2, s3⟩ ?resta7
      case hya7 =>
        intro w' hSw
        obtain ⟨s0, s1, s2, s3⟩ := hSw
        go_simp
        rfl
      simp only [Act.put, List.setIfInBounds_toArray, List.set_cons_zero, List.set_cons_succ]
      refine Hoist.takeS (i := 8) (v := ?va8) rfl (by kernel_rfl) (by kernel_rfl) (by kernel_rfl) (fun _ _ _ h => h) ⟨by rfl, ?hya8⟩ ⟨s0, s1, s2, s3⟩ ?resta8
      case hya8 =>
        intro w' hSw
        obtain ⟨s0, s1, s2, s3⟩ := hSw
        go_simp
        rfl
      simp only [Act.put, List.setIfInBounds_toArray, List.set_cons_zero, List.set_cons_succ]
      refine Hoist.takeS (i := 9) (v := ?va9) rfl (by kernel_rfl) (by kernel_rfl) (by kernel_rfl) (fun _ _ _ h => h) ⟨by rfl, ?hya9⟩ ⟨s0, s1, s2, s3⟩ ?resta9
      case hya9 =>
        intro w' hSw
        obtain ⟨s0, s1, s2, s3⟩ := hSw
        go_simp
        rfl
      simp only [Act.put, List.setIfInBounds_toArray, List.set_cons_zero, List.set_cons_succ]
      refine Hoist.takeS (i := 10) (v := ?va10) rfl (by kernel_rfl) (by kernel_rfl) (by kernel_rfl) (fun _ _ _ h => h) ⟨by rfl, ?hya10⟩ ⟨s0, s1, s2, s3⟩ ?resta10
      case hya10 =>
        intro w' hSw
        obtain ⟨s0, s1, s2, s3⟩ := hSw
        go_simp
        rfl
      simp only [Act.put, List.setIfInBounds_toArray, List.set_cons_zero, List.set_cons_succ]
      refine Hoist.takeS (i := 11) (v := ?va11) rfl (by kernel_rfl) (by kernel_rfl) (by kernel_rfl) (fun _ _ _ h => h) ⟨by rfl, ?hya11⟩ ⟨s0, s1, s2, s3⟩ ?resta11
      case hya11 =>
        intro w' hSw
        obtain ⟨s0, s1, s2, s3⟩ := hSw
        go_simp
        rfl
      simp only [Act.put, List.setIfInBounds_toArray, List.set_cons_zero, List.set_cons_succ]
      refine Hoist.takeS (i := 12) (v := ?va12) rfl (by kernel_rfl) (by kernel_rfl) (by kernel_rfl) (fun _ _ _ h => h) ⟨by rfl, ?hya12⟩ ⟨s0, s1, s2, s3⟩ ?resta12
      case hya12 =>
        intro w' hSw
        obtain ⟨s0, s1, s2, s3⟩ := hSw
        go_simp
        rfl
      simp only [Act.put, List.setIfInBounds_toArray, List.set_cons_zero, List.set_cons_succ]
      refine Hoist.takeS (i := 13) (v := ?va13) rfl (by kernel_rfl) (by kernel_rfl) (by kernel_rfl) (fun _ _ _ h => h) ⟨by rfl, ?hya13⟩ ⟨s0, s1, s2, s3⟩ ?resta13
      case hya13 =>
        intro w' hSw
        obtain ⟨s0, s1, s2, s3⟩ := hSw
        go_simp
        rfl
      simp only [Act.put, List.setIfInBounds_toArray, List.set_cons_zero, List.set_cons_succ]
      refine Hoist.takeS (i := 14) (v := ?va14) rfl (by kernel_rfl) (by kernel_rfl) (by kernel_rfl) (fun _ _ _ h => h) ⟨by rfl, ?hya14⟩ ⟨s0, s1, s2, s3⟩ ?resta14
      case hya14 =>
        intro w' hSw
        obtain ⟨s0, s1, s2, s3⟩ := hSw
        go_simp
        rfl
      simp only [Act.put, List.setIfInBounds_toArray, List.set_cons_zero, List.set_cons_succ]
      refine Hoist.takeS (i := 15) (v := ?va15) rfl (by kernel_rfl) (by kernel_rfl) (by kernel_rfl) (fun _ _ _ h => h) ⟨by rfl, ?hya15⟩ ⟨s0, s1, s2, s3⟩ ?resta15
      case hya15 =>
        intro w' hSw
        obtain ⟨s0, s1, s2, s3⟩ := hSw
        go_simp
        rfl
      simp only [Act.put, List.setIfInBounds_toArray, List.set_cons_zero, List.set_cons_succ]
      refine Hoist.takeS (i := 16) (v := ?va16) rfl (by kernel_rfl) (by kernel_rfl) (by kernel_rfl) (fun _ _ _ h => h) ⟨by rfl, ?hya16⟩ ⟨s0, s1, s2, s3⟩ ?resta16
      case hya16 =>
        intro w' hSw
        obtain ⟨s0, s1, s2, s3⟩ := hSw
        go_simp
        rfl
      simp only [Act.put, List.setIfInBounds_toArray, List.set_cons_zero, List.set_cons_succ]
      refine Hoist.takeS (i := 17) (v := ?va17) rfl (by kernel_rfl) (by kernel_rfl) (by kernel_rfl) (fun _ _ _ h => h) ⟨by rfl, ?hya17⟩ ⟨s0, s1, s2, s3⟩ ?resta17
      case hya17 =>
        intro w' hSw
        obtain ⟨s0, s1, s2, s3⟩ := hSw
        go_simp
        rfl
      simp only [Act.put, List.setIfInBounds_toArray, List.set_cons_zero, List.set_cons_succ]
      refine Hoist.takeS (i := 18) (v := ?va18) rfl (by kernel_rfl) (by kernel_rfl) (by kernel_rfl) (fun _ _ _ h => h) ⟨by rfl, ?hya18⟩ ⟨s0, s1, s2, s3⟩ ?resta18
      case hya18 =>
        intro w' hSw
        obtain ⟨s0, s1, s2, s3⟩ := hSw
        go_simp
        rfl
      simp only [Act.put, List.setIfInBounds_toArray, List.set_cons_zero, List.set_cons_succ]
      refine Hoist.takeS (i := 19) (v := ?va19) rfl (by kernel_rfl) (by kernel_rfl) (by kernel_rfl) (fun _ _ _ h => h) ⟨by rfl, ?hya19⟩ ⟨s0, s1, s2, s3⟩ ?resta19
      case hya19 =>
        intro w' hSw
        obtain ⟨s0, s1, s2, s3⟩ := hSw
        go_simp
        rfl
      simp only [Act.put, List.setIfInBounds_toArray, List.set_cons_zero, List.set_cons_succ]
      refine Hoist.takeS (i := 20) (v := ?va20) rfl (by kernel_rfl) (by kernel_rfl) (by kernel_rfl) (fun _ _ _ h => h) ⟨by rfl, ?hya20⟩ ⟨s0, s1, s2, s3⟩ ?resta20
      case hya20 =>
        intro w' hSw
        obtain ⟨s0, s1, s2, s3⟩ := hSw
        go_simp
        rfl
      simp only [Act.put, List.setIfInBounds_toArray, List.set_cons_zero, List.set_cons_succ]
      refine Hoist.takeS (i := 21) (v := ?va21) rfl (by kernel_rfl) (by kernel_rfl) (by kernel_rfl) (fun _ _ _ h => h) ⟨by rfl, ?hya21⟩ ⟨s0, s1, s2, s3⟩ ?resta21
      case hya21 =>
        intro w' hSw
        obtain ⟨s0, s1, s2, s3⟩ := hSw
        go_simp
        rfl
      simp only [Act.put, List.setIfInBounds_toArray, List.set_cons_zero, List.set_cons_succ]
      refine Hoist.takeS (i := 22) (v := ?va22) rfl (by kernel_rfl) (by kernel_rfl) (by kernel_rfl) (fun _ _ _ h => h) ⟨by rfl, ?hya22⟩ ⟨s0, s1, s2, s3⟩ ?resta22
      case hya22 =>
        intro w' hSw
        obtain ⟨s0, s1, s2, s3⟩ := hSw
        go_simp
        rfl
      simp only [Act.put, List.setIfInBounds_toArray, List.set_cons_zero, List.set_cons_succ]
      refine Hoist.takeS (i := 23) (v := ?va23) rfl (by kernel_rfl) (by kernel_rfl) (by kernel_rfl) (fun _ _ _ h => h) ⟨by rfl, ?hya23⟩ ⟨s0, s1, s2, s3⟩ ?resta23
      case hya23 =>
        intro w' hSw
        obtain ⟨s0, s1, s2, s3⟩ := hSw
        go_simp
        rfl
      simp only [Act.put, List.setIfInBounds_toArray, List.set_cons_zero, List.set_cons_succ]
      refine Hoist.only (i := 24) rfl (by kernel_rfl) ?_
      intro K' hK
      go_simp
      refine (before m1.line m1.col m0.line m0.col _).mono ?_
      rintro e w2 ⟨rfl, hb2⟩
      have HB2 : Hid (Below w.heap.size w w2) := Lib.hid (HB.out.drew.trans (hb2.mono HB.out.size))
      have hlt : g < wr.drew.heap.size := Nat.lt_of_lt_of_le HG.out HB.out.size
      refine hK _ _ ⟨bcell hb2 hlt s0, bcell hb2 hlt s1, bcell hb2 hlt s2, bcell hb2 hlt s3⟩ ?_
      clear hK K' s0 s1 s2 s3 hlt hb2
      refine Hoist.over (by kernel_rfl) ?_ _
      rw [decide_eq_false HNO.out]
      go_wp2_with fail
      go_roundg (n - (i + 1))
      case rel => exact ⟨i + 1, by omega, rfl, rfl, HB2.out⟩
      case measure => have := HIM.out; omega
    · have hii : ¬ (i : Int) < n := by omega
      clear hi
      go_wp2_with fail
      go_returns
      exact ⟨rfl, HB.out⟩
end Go.Proofs.Ytobhlppdolekoaa.Ch
