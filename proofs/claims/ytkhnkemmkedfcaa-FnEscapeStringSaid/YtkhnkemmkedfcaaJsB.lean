/- The reference's code units as bytes. The walks. -/
import Derived.Test.YtkhnkemmkedfcaaJsA
namespace Go.Proofs.Ytkhnkemmkedfcaa.Js
open Go.RowKit Go.Proofs.Ytkhnkemmkedfcaa.Aid Go.Proofs.Ytkhnkemmkedfcaa.Runes Go.Proofs.Ytkhnkemmkedfcaa.Bytes Go.Proofs.Ytkhnkemmkedfcaa.Wtf Go.Proofs.Ytkhnkemmkedfcaa.Esc
attribute [local go_sem ↓] Go.wp_at_zero Go.wp_at_succ
set_option linter.unusedVariables false
theorem mk44 (w : World) : (Instr.makeSlice 44 (.int .i64 2) (.int .i64 2)).run Try.prog w = .ok (.slice (some ⟨w.heap.size, 0, none⟩) 2 2) (w.alloc (.cells #[.int .u8 0, .int .u8 0] 5)) := by kernel_rfl
theorem conv2 (W : World) (G a b : Nat) (h0 : W.cell? ⟨G, 0, none⟩ = some (.int .u8 a)) (h1 : W.cell? ⟨G, 1, none⟩ = some (.int .u8 b)) : (convert 44 9 (.slice (some ⟨G, 0, none⟩) 2 2)).run Try.prog W = .ok (.string (str [a, b])) W := by
  rw [run_convert_bytes_arg W 44 5 Try.underlying44 Try.underlying5 G 0 2 2 [(a : Int), (b : Int)] rfl (fun i hi => ?_) 9 Try.underlying9]
  · congr 2
  · rcases (by omega : i = 0 ∨ i = 1) with rfl | rfl
    · exact h0
    · exact h1
set_option maxRecDepth 100000 in
set_option maxHeartbeats 2000000 in
theorem bytesOf (a b h T : Nat) (w : World) (hh : Blk w h T [.int .i64 a, .int .i64 b]) (ha : a < 256) (hb : b < 256) :
    Calls Try.prog 93 #[.slice (some ⟨h, 0, none⟩) 2 2] w fun e w' => e = .returned (.string (str [a, b])) ∧ Below w.heap.size w w' := by
  have hlt := hh.lt
  have hmk := mk44
  have c0 : ∀ o, (w.alloc o).cell? ⟨h, 0, none⟩ = some (.int .i64 a) := fun o => (hh.alloc o).get 0 rfl
  have c1 : ∀ o, (w.alloc o).cell? ⟨h, 1, none⟩ = some (.int .i64 b) := fun o => (hh.alloc o).get 1 rfl
  have hcv := conv2 (w.alloc (.cells #[.int .u8 a, .int .u8 b] 5)) w.heap.size a b ((Blk.new w 5 [.int .u8 a, .int .u8 b]).get 0 rfl) ((Blk.new w 5 [.int .u8 a, .int .u8 b]).get 1 rfl)
  obtain ⟨Z, hZ⟩ : ∃ Z, Z = str [a, b] := ⟨_, rfl⟩
  rw [← hZ] at hcv ⊢
  have ne : h ≠ w.heap.size := by omega
  clear hh hZ
  go_enter Try.func93, Try.ntmps93
  go_wp2_with fail
  go_rounds 3
  go_wp2_with fail
  go_returns
  exact ⟨rfl, below_at (Below.refl _ _) _⟩
/-- Code units as bytes. -/
def ub (us : List Nat) : List Nat := us.flatMap fun u => [u / 256 % 256, u % 256]
theorem ub_nil : ub [] = [] := rfl
theorem ub_cons (u : Nat) (us : List Nat) : ub (u :: us) = [u / 256 % 256, u % 256] ++ ub us := rfl
theorem ub_append (a b : List Nat) : ub (a ++ b) = ub a ++ ub b := by simp [ub]
theorem ub_lt (us : List Nat) : ∀ b ∈ ub us, b < 256 := by
  intro b hb
  simp only [ub, List.mem_flatMap, List.mem_cons, List.not_mem_nil, or_false] at hb
  obtain ⟨u, _, rfl | rfl⟩ := hb <;> omega
theorem ub_len (us : List Nat) : (ub us).length = 2 * us.length := by
  induction us with
  | nil => rfl
  | cons u us ih => rw [ub_cons, List.length_append, ih]; simp; omega
theorem and255 (x : Nat) (h : x < 2 ^ 63) : bits .and .i64 (x : Int) 255 = ((x % 256 : Nat) : Int) := by
  have := bits_mask .i64 63 (by decide) wraps_i64 8 (by decide) (x : Int) (by omega) (by exact_mod_cast h)
  rw [show ((2 : Int) ^ 8 - 1) = 255 from rfl] at this
  rw [this]
  omega
set_option maxRecDepth 100000 in
set_option maxHeartbeats 2000000 in
theorem unit (n : Nat) (w : World) (hn : n ≤ 1114112) : Calls Try.prog 84 #[.int .i64 n] w fun e w' => e = .returned (.string (str (ub [n]))) ∧ Below w.heap.size w w' := by
  obtain ⟨x, hx⟩ : ∃ x : Nat, x = n / 256 := ⟨_, rfl⟩
  have e1 : (n : Int) / 256 = (x : Int) := by omega
  obtain ⟨a, ha⟩ : ∃ a : Nat, a = x % 256 := ⟨_, rfl⟩
  obtain ⟨b, hb⟩ : ∃ b : Nat, b = n % 256 := ⟨_, rfl⟩
  have m1 : bits .and .i64 (x : Int) 255 = (a : Int) := by rw [and255 x (by omega), ha]
  have m2 : bits .and .i64 (n : Int) 255 = (b : Int) := by rw [and255 n (by omega), hb]
  have HB := Lib.hid (bytesOf a b w.heap.size 3 (w.alloc (.cells #[.int .i64 a, .int .i64 b] 3)) (Blk.new w 3 [.int .i64 a, .int .i64 b]) (by omega) (by omega))
  rw [show ub [n] = [a, b] by rw [ub_cons, ub_nil, ha, hb, hx]; rfl]
  obtain ⟨Z, hZ⟩ : ∃ Z, Z = str [a, b] := ⟨_, rfl⟩
  rw [← hZ] at HB ⊢
  clear hx ha hb hZ
  go_enter Try.func84, Try.ntmps84
  go_wp2_with fail
  refine HB.out.mono ?_
  rintro e w' ⟨rfl, hb⟩
  have HBB := Lib.hid hb
  clear hb
  go_wp2_with fail
  go_returns
  exact ⟨rfl, (below_at (Below.refl _ _) _).trans (HBB.out.mono (by simp))⟩
set_option maxRecDepth 100000 in
set_option maxHeartbeats 2000000 in
theorem units_walk (r : Nat) (w : World) (hr : r ≤ 1114112) : Calls Try.prog 81 #[.int .i64 r] w fun e w' => e = .returned (.string (str (ub (enc16 r)))) ∧ Below w.heap.size w w' := by
  by_cases h : 65536 ≤ r
  · have t0 : ¬ (r : Int) < 65536 := by omega
    obtain ⟨x, hx⟩ : ∃ x : Nat, x = r - 65536 := ⟨_, rfl⟩
    have e1 : (r : Int) - 65536 = (x : Int) := by omega
    obtain ⟨a, ha⟩ : ∃ a : Nat, a = x / 1024 := ⟨_, rfl⟩
    have e2 : (x : Int) / 1024 = (a : Int) := by omega
    obtain ⟨b, hb⟩ : ∃ b : Nat, b = x % 1024 := ⟨_, rfl⟩
    have m2 : bits .and .i64 (x : Int) 1023 = (b : Int) := by rw [and1023 x (by omega), hb]
    obtain ⟨u, hu⟩ : ∃ u : Nat, u = 55296 + a := ⟨_, rfl⟩
    obtain ⟨v, hv⟩ : ∃ v : Nat, v = 56320 + b := ⟨_, rfl⟩
    have b1 : b < 1024 := by omega
    have a1 : a ≤ 1024 := by omega
    have e3 : 55296 + (a : Int) = (u : Int) := by omega
    have e4 : 56320 + (b : Int) = (v : Int) := by omega
    have HU := Lib.hid (fun w => unit u w (by omega))
    have HV := Lib.hid (fun w => unit v w (by omega))
    rw [show enc16 r = [u] ++ [v] by rw [enc16, if_pos h, hu, hv, ha, hb, hx]; rfl, ub_append, str_append]
    obtain ⟨Y, hY⟩ : ∃ Y, Y = str (ub [u]) := ⟨_, rfl⟩
    obtain ⟨Z, hZ⟩ : ∃ Z, Z = str (ub [v]) := ⟨_, rfl⟩
    have hYs : Y.size = 2 := by rw [hY, str_size, ub_len]; rfl
    have hZs : Z.size = 2 := by rw [hZ, str_size, ub_len]; rfl
    rw [← hY] at HU
    rw [← hZ] at HV
    rw [← hY, ← hZ]
    clear h hx ha hb hu hv hY hZ
    go_enter Try.func81, Try.ntmps81
    go_wp2_with fail
    refine (HU.out _).mono ?_
    rintro e w1 ⟨rfl, h1⟩
    have H1 := Lib.hid h1
    clear h1
    go_wp2_with fail
    refine (HV.out _).mono ?_
    rintro e w2 ⟨rfl, h2⟩
    have H2 := Lib.hid (H1.out.trans (h2.mono H1.out.size))
    clear h2
    go_wp2_with fail
    go_returns
    exact ⟨rfl, H2.out⟩
  · have t0 : (r : Int) < 65536 := by omega
    have HU := Lib.hid (fun w => unit r w (by omega))
    rw [show enc16 r = [r] from if_neg h]
    clear h
    go_enter Try.func81, Try.ntmps81
    go_wp2_with fail
    refine (HU.out _).mono ?_
    rintro e w1 ⟨rfl, h1⟩
    have H1 := Lib.hid h1
    clear h1
    go_wp2_with fail
    go_returns
    exact ⟨rfl, H1.out⟩
end Go.Proofs.Ytkhnkemmkedfcaa.Js
