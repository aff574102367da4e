/- A data URL read: the reference DataOf. The walk. -/
import Derived.Test.YtjhglhckdjnkgaaDoorUrlD
namespace Go.Proofs.YtjhglhckdjnkgaaDoor.Url
open Go.RowKit Go.Proofs.YtjhglhckdjnkgaaDoor.Aid Go.Proofs.YtjhglhckdjnkgaaDoor.Runes
attribute [local go_sem ↓] Go.wp_at_zero Go.wp_at_succ
set_option linter.unusedVariables false
theorem slice_to (u : ByteArray) (b : Nat) (hb : b ≤ u.size) (w : World) : (Instr.slice 9 (.string u) none (some (.int .i64 b)) none).run Tryd.prog w = .ok (.string (u.extract 0 b)) w := by
  have h2 : (0 : Int) ≤ (b : Int) := by omega
  have h1 : (b : Int) ≤ (u.size : Int) := by omega
  have ht : (b : Int).toNat = b := by omega
  simp [Instr.slice, run_underlying Tryd.underlying9, Instr.sliceBounds, run_sliceBound, *]
theorem slice_from (u : ByteArray) (a : Nat) (ha : a ≤ u.size) (w : World) : (Instr.slice 9 (.string u) (some (.int .i64 a)) none none).run Tryd.prog w = .ok (.string (u.extract a u.size)) w := by
  have h1 : (a : Int) ≤ (u.size : Int) := by omega
  have hx := run_sliceBound (P := Tryd.prog) w .i64 (a : Int) u.size BoundsCode.sliceB (by omega) (by omega)
  simp [Instr.slice, run_underlying Tryd.underlying9, Instr.sliceBounds, *]
theorem head_of (h e : ByteArray) : (h ++ e).extract 0 h.size = h := by
  rw [← str_nats ((h ++ e).extract 0 h.size), nats_extract, cut, nats_append, List.drop_zero, Nat.sub_zero, List.take_left' (by rw [nats_length]), str_nats]
theorem rest_of (h e : ByteArray) : (h ++ e).extract h.size (h ++ e).size = e := by
  rw [← str_nats ((h ++ e).extract h.size (h ++ e).size), nats_extract, cut, nats_append, List.drop_left' (by rw [nats_length]), List.take_of_length_le (by rw [nats_length, ByteArray.size_append]; omega), str_nats]
/-- What a data URL begins with. -/
def head (mime : ByteArray) : ByteArray := ((⟨#[100, 97, 116, 97, 58]⟩ : ByteArray) ++ mime) ++ ⟨#[44]⟩
theorem head_size (mime : ByteArray) : (head mime).size = mime.size + 6 := by
  rw [head, ByteArray.size_append, ByteArray.size_append]
  show 5 + mime.size + 1 = _
  omega
set_option maxRecDepth 100000 in
set_option maxHeartbeats 2000000 in
theorem dataOf_walk (mime E : ByteArray) (w : World) (hm : mime.size ≤ 1000) (hs : E.size ≤ 1000000) (hc : ∀ b ∈ nats E, ctl b = false) (hl : ∀ c, (nats E).getLast? = some c → 32 < c) :
    Calls Tryd.prog 13 #[.string (head mime ++ E), .string mime] w fun e w' => e = .returned (.tuple #[.string (str (dec (nats E))), .bool true]) ∧ Below w.heap.size w w' := by
  have HF := Lib.hid (fun w => fetched_walk E w hs hc hl)
  obtain ⟨D, hD⟩ : ∃ D, D = str (dec (nats E)) := ⟨_, rfl⟩
  rw [← hD] at HF ⊢
  obtain ⟨H, hH⟩ : ∃ H, H = head mime := ⟨_, rfl⟩
  have hsz := head_size mime
  rw [← hH] at hsz ⊢
  have hcat : ((⟨#[100, 97, 116, 97, 58]⟩ : ByteArray) ++ mime) ++ ⟨#[44]⟩ = H := hH.symm
  obtain ⟨U, hU⟩ : ∃ U, U = H ++ E := ⟨_, rfl⟩
  have husz : U.size = H.size + E.size := by rw [hU, ByteArray.size_append]
  have h1 := fun w => slice_to U H.size (by omega) w
  have h2 := fun w => slice_from U H.size (by omega) w
  rw [hU, head_of, ← hU] at h1
  rw [hU, rest_of, ← hU] at h2
  rw [← hU]
  have k1 : (H.size : Int) ≤ U.size := by omega
  have k2 : H.size ≤ 2000 := by omega
  have hml : (5 : Int) + (mime.size : Int) ≤ 3000 := by omega
  clear hc hl hD hH hU hsz husz
  go_enter Tryd.func13, Tryd.ntmps13
  go_wp2_with fail
  refine (HF.out _).mono ?_
  rintro e w1 ⟨rfl, hb⟩
  go_wp2_with fail
  go_returns
  exact ⟨rfl, hb⟩
set_option maxRecDepth 100000 in
set_option maxHeartbeats 2000000 in
theorem dataOf_none (mime : ByteArray) (w : World) (hm : mime.size ≤ 1000) :
    Calls Tryd.prog 13 #[.string ⟨#[]⟩, .string mime] w fun e w' => e = .returned (.tuple #[.string ⟨#[]⟩, .bool false]) ∧ w' = w := by
  obtain ⟨H, hH⟩ : ∃ H, H = head mime := ⟨_, rfl⟩
  have hsz := head_size mime
  rw [← hH] at hsz
  have hcat : ((⟨#[100, 97, 116, 97, 58]⟩ : ByteArray) ++ mime) ++ ⟨#[44]⟩ = H := hH.symm
  have k2 : (0 : Int) < H.size := by omega
  have hne : ¬ H = ByteArray.empty := by
    intro h
    rw [h] at hsz
    have : ByteArray.empty.size = 0 := rfl
    omega
  clear hH hsz
  go_enter Tryd.func13, Tryd.ntmps13
  go_wp2_with fail
  go_returns
  exact ⟨rfl, rfl⟩
end Go.Proofs.YtjhglhckdjnkgaaDoor.Url
