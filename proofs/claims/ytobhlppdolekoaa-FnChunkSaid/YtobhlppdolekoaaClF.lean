/- The code units of a well-formed text, and the text that they mean. No walk in sight. -/
import Derived.Test.YtobhlppdolekoaaCiI
import Derived.Test.YtobhlppdolekoaaWtfN
import Derived.Handy
import Derived.Test.YtobhlppdolekoaaClB
import Derived.Test.YtobhlppdolekoaaChV
namespace Go.Proofs.Ytobhlppdolekoaa.Ch
open Go.RowKit Go.Proofs.Ytobhlppdolekoaa.Aid Go.Proofs.Ytobhlppdolekoaa.Bytes Go.Proofs.Ytobhlppdolekoaa.Runes Go.Proofs.Ytobhlppdolekoaa.Wtf
set_option linter.unusedVariables false
/-- A code point's bytes. -/
def enc8 (r : Nat) : List Nat := if r < 128 then [r] else if r < 2048 then [192 + r / 64, 128 + r % 64] else if r < 65536 then [224 + r / 4096, 128 + r / 64 % 64, 128 + r % 64] else [240 + r / 262144, 128 + r / 4096 % 64, 128 + r / 64 % 64, 128 + r % 64]
/-- The text that code units mean. -/
def txt16 : List Nat → List Nat
  | [] => []
  | [u] => enc8 u
  | u :: v :: l => if lead u = true ∧ trail v = true then enc8 (65536 + (u - 55296) * 1024 + (v - 56320)) ++ txt16 l else enc8 u ++ txt16 (v :: l)
theorem txt_one {r : Nat} (h : lead r = false) (us : List Nat) : txt16 (r :: us) = enc8 r ++ txt16 us := by
  cases us with
  | nil => simp [txt16]
  | cons v l => rw [txt16, if_neg (by rw [h]; simp)]
theorem txt_enc {r : Nat} (h1 : r ≤ 1114111) (h2 : ¬ (55296 ≤ r ∧ r ≤ 57343)) (us : List Nat) : txt16 (enc16 r ++ us) = enc8 r ++ txt16 us := by
  unfold enc16
  by_cases h : 65536 ≤ r
  · rw [if_pos h]
    show txt16 ((55296 + (r - 65536) / 1024) :: (56320 + (r - 65536) % 1024) :: us) = _
    rw [txt16, if_pos ⟨by unfold lead; simp; omega, by unfold trail; simp; omega⟩]
    have e : 65536 + (55296 + (r - 65536) / 1024 - 55296) * 1024 + (56320 + (r - 65536) % 1024 - 56320) = r := by omega
    rw [e]
  · rw [if_neg h]
    exact txt_one (by unfold lead; simp; omega) us
theorem cut_take (s : ByteArray) (n : Nat) : cut s 0 n = (nats s).take n := by simp [cut]
theorem enc8_take {s : ByteArray} {r n : Nat} (h : lrune (nats s) = (r, n)) (hn : 0 < n) : enc8 r = (nats s).take n := by
  have e1 : 1 ≤ s.size → cut s 0 1 = [byt s 0] := fun h => by rw [cut_next s 0 0 (Nat.le_refl _) (by omega), cut_self]; rfl
  have e2 : 2 ≤ s.size → cut s 0 2 = [byt s 0, byt s 1] := fun h => by rw [cut_next s 0 1 (by omega) (by omega), e1 (by omega)]; rfl
  have e3 : 3 ≤ s.size → cut s 0 3 = [byt s 0, byt s 1, byt s 2] := fun h => by rw [cut_next s 0 2 (by omega) (by omega), e2 (by omega)]; rfl
  have e4 : 4 ≤ s.size → cut s 0 4 = [byt s 0, byt s 1, byt s 2, byt s 3] := fun h => by rw [cut_next s 0 3 (by omega) (by omega), e3 (by omega)]; rfl
  have b1 := byt_lt s 1
  have b2 := byt_lt s 2
  have b3 := byt_lt s 3
  have hp := lrune_pos h hn
  unfold enc8
  rw [← cut_take]
  rcases lrune_cases h hn with ⟨rfl, h1, h2, h3⟩ | ⟨rfl, h1, h2, h3, h4⟩ | ⟨rfl, h1, h2, h3, h4, h5, h6⟩ | ⟨rfl, h1, h2, h3, h4, h5, h6, h7, h8⟩
  · rw [if_pos (by omega), e1 h1, h3]
  · rw [if_neg (by omega), if_pos (by omega), e2 h1]
    congr 1
    · omega
    · congr 1
      omega
  · rw [if_neg (by omega), if_neg (by omega), if_pos (by omega), e3 h1]
    congr 1
    · omega
    · congr 1
      · omega
      · congr 1
        omega
  · rw [if_neg (by omega), if_neg (by omega), if_neg (by omega), e4 h1]
    congr 1
    · omega
    · congr 1
      · omega
      · congr 1
        · omega
        · congr 1
          omega
theorem wf_units (m : Nat) : ∀ (s : ByteArray) (last : Nat), s.size = m → wf s 0 = true → ∃ us, units last (nats s) = some us ∧ txt16 us = nats s ∧ (∀ u ∈ us, u < 65536) ∧ us.length ≤ s.size := by
  induction m using Nat.strongRecOn with
  | _ m ih =>
    intro s last hm hw
    rcases Nat.eq_zero_or_pos s.size with h0 | h0
    · have e : nats s = [] := List.length_eq_zero_iff.1 (by rw [nats_length]; exact h0)
      rw [e]
      exact ⟨[], units_nil _, rfl, (fun u h => by cases h), Nat.zero_le _⟩
    · have hp := wf_pos h0 hw
      have hl := lrune_of_rune s hp
      obtain ⟨r, n, hx⟩ : ∃ r n, rune s 0 = (r, n) := ⟨_, _, rfl⟩
      have hwn := wf_next h0 hp
      rw [hx] at hp hl hwn
      have hn : 0 < n := hp
      have hro := rune_pos hx hn
      have hns : n ≤ s.size := by have := hro.2.2.2.1; omega
      have hcat := pieces s n s.size hns (Nat.le_refl _)
      rw [extract_all] at hcat
      have hPs : (s.extract 0 n).size = n := by rw [ByteArray.size_extract]; omega
      have hTs : (s.extract n s.size).size = s.size - n := by rw [ByteArray.size_extract]; omega
      have hwT : wf (s.extract n s.size) 0 = true := by
        have h := wf_right (s.extract 0 n) (s.extract n s.size) _ 0 rfl
        rw [hcat, hPs, Nat.add_zero] at h
        rw [← h]
        rw [hw] at hwn
        rw [Nat.zero_add] at hwn
        exact hwn.symm
      obtain ⟨us, h1, h2, h3, h4⟩ := ih (s.size - n) (by omega) (s.extract n s.size) r (by omega) hwT
      rw [nats_rest] at h1 h2
      have hsur := hro.2.2.2.2.2.2.2
      have hr := hro.2.2.2.2.2.1
      have hne : nats s ≠ [] := fun e => by
        have : s.size = 0 := by rw [← nats_length, e]; rfl
        omega
      refine ⟨enc16 r ++ us, ?_, ?_, ?_, ?_⟩
      · rw [units_next hne (by rw [hl]; exact hn) (by
          rw [hl]
          rintro ⟨_, ht, _⟩
          unfold trail at ht
          rw [Bool.and_eq_true] at ht
          have t1 := of_decide_eq_true ht.1
          have t2 := of_decide_eq_true ht.2
          omega), hl, h1]
        rfl
      · rw [txt_enc hr hsur, h2, enc8_take hl hn, List.take_append_drop]
      · intro u hu
        rw [List.mem_append] at hu
        rcases hu with hu | hu
        · unfold enc16 at hu
          split at hu
          · simp at hu
            omega
          · rename_i hh
            simp only [List.mem_singleton] at hu
            omega
        · exact h3 u hu
      · rw [List.length_append]
        have : (enc16 r).length ≤ n := by
          unfold enc16
          have h4 := (lrune_pos hl hn).2.2.2.2.2.1
          split
          · rename_i hh
            have := h4.2 hh
            simp
            omega
          · simp
            omega
        omega
theorem wf_fit {s : ByteArray} (h : wf s 0 = true) : Fit (nats s) := by
  obtain ⟨us, h1, _⟩ := wf_units _ s 0 rfl h
  exact ⟨0, us, h1⟩
end Go.Proofs.Ytobhlppdolekoaa.Ch
/- spec.UTF8: a code point's bytes as a text. The walks. -/
namespace Go.Proofs.Ytobhlppdolekoaa.Ch
open Go.RowKit Go.Proofs.Ytobhlppdolekoaa.Aid Go.Proofs.Ytobhlppdolekoaa.Bytes Go.Proofs.Ytobhlppdolekoaa.Runes Go.Proofs.Ytobhlppdolekoaa.Wtf
attribute [local go_sem ↓] Go.wp_at_zero Go.wp_at_succ
set_option linter.unusedVariables false
set_option linter.unusedSimpArgs false
theorem mk25_1 (w : World) : (Instr.makeSlice 25 (.int .i64 1) (.int .i64 1)).run Try.prog w = .ok (.slice (some ⟨w.heap.size, 0, none⟩) 1 1) (w.alloc (.cells #[.int .u8 0] 5)) := by kernel_rfl
theorem conv_1 (W : World) (G a : Nat) (h0 : W.cell? ⟨G, 0, none⟩ = some (.int .u8 a)) : (convert 25 9 (.slice (some ⟨G, 0, none⟩) 1 1)).run Try.prog W = .ok (.string (str [a])) W := by
  rw [run_convert_bytes_arg W 25 5 Try.underlying25 Try.underlying5 G 0 1 1 [(a : Int)] rfl (fun i hi => ?_) 9 Try.underlying9]
  · congr 2
  · rcases (by omega : i = 0) with rfl
    exact h0
set_option maxRecDepth 100000 in
set_option maxHeartbeats 2000000 in
theorem bytesOf_1 (a h T : Nat) (w : World) (hh : Blk w h T [.int .i64 a]) (ha : a < 256) :
    Calls Try.prog 44 #[.slice (some ⟨h, 0, none⟩) 1 1] w fun e w' => e = .returned (.string (str [a])) ∧ Below w.heap.size w w' := by
  have hlt := hh.lt
  have hmk := mk25_1
  have c0 : ∀ o, (w.alloc o).cell? ⟨h, 0, none⟩ = some (.int .i64 a) := fun o => (hh.alloc o).get 0 rfl
  have hcv := conv_1 (w.alloc (.cells #[.int .u8 a] 5)) w.heap.size a ((Blk.new w 5 [.int .u8 a]).get 0 rfl)
  obtain ⟨Z, hZ⟩ : ∃ Z, Z = str [a] := ⟨_, rfl⟩
  rw [← hZ] at hcv ⊢
  have ne : h ≠ w.heap.size := by omega
  clear hh hZ
  go_enter Try.func44, Try.ntmps44
  go_wp2_with fail
  go_rounds 2
  go_wp2_with fail
  go_returns
  exact ⟨rfl, below_at (Below.refl _ _) _⟩
theorem mk25_2 (w : World) : (Instr.makeSlice 25 (.int .i64 2) (.int .i64 2)).run Try.prog w = .ok (.slice (some ⟨w.heap.size, 0, none⟩) 2 2) (w.alloc (.cells #[.int .u8 0, .int .u8 0] 5)) := by kernel_rfl
theorem conv_2 (W : World) (G a b : Nat) (h0 : W.cell? ⟨G, 0, none⟩ = some (.int .u8 a)) (h1 : W.cell? ⟨G, 1, none⟩ = some (.int .u8 b)) : (convert 25 9 (.slice (some ⟨G, 0, none⟩) 2 2)).run Try.prog W = .ok (.string (str [a, b])) W := by
  rw [run_convert_bytes_arg W 25 5 Try.underlying25 Try.underlying5 G 0 2 2 [(a : Int), (b : Int)] rfl (fun i hi => ?_) 9 Try.underlying9]
  · congr 2
  · rcases (by omega : i = 0 ∨ i = 1) with rfl | rfl
    · exact h0
    · exact h1
set_option maxRecDepth 100000 in
set_option maxHeartbeats 2000000 in
theorem bytesOf_2 (a b h T : Nat) (w : World) (hh : Blk w h T [.int .i64 a, .int .i64 b]) (ha : a < 256) (hb : b < 256) :
    Calls Try.prog 44 #[.slice (some ⟨h, 0, none⟩) 2 2] w fun e w' => e = .returned (.string (str [a, b])) ∧ Below w.heap.size w w' := by
  have hlt := hh.lt
  have hmk := mk25_2
  have c0 : ∀ o, (w.alloc o).cell? ⟨h, 0, none⟩ = some (.int .i64 a) := fun o => (hh.alloc o).get 0 rfl
  have c1 : ∀ o, (w.alloc o).cell? ⟨h, 1, none⟩ = some (.int .i64 b) := fun o => (hh.alloc o).get 1 rfl
  have hcv := conv_2 (w.alloc (.cells #[.int .u8 a, .int .u8 b] 5)) w.heap.size a b ((Blk.new w 5 [.int .u8 a, .int .u8 b]).get 0 rfl) ((Blk.new w 5 [.int .u8 a, .int .u8 b]).get 1 rfl)
  obtain ⟨Z, hZ⟩ : ∃ Z, Z = str [a, b] := ⟨_, rfl⟩
  rw [← hZ] at hcv ⊢
  have ne : h ≠ w.heap.size := by omega
  clear hh hZ
  go_enter Try.func44, Try.ntmps44
  go_wp2_with fail
  go_rounds 3
  go_wp2_with fail
  go_returns
  exact ⟨rfl, below_at (Below.refl _ _) _⟩
theorem mk25_3 (w : World) : (Instr.makeSlice 25 (.int .i64 3) (.int .i64 3)).run Try.prog w = .ok (.slice (some ⟨w.heap.size, 0, none⟩) 3 3) (w.alloc (.cells #[.int .u8 0, .int .u8 0, .int .u8 0] 5)) := by kernel_rfl
theorem conv_3 (W : World) (G a b c : Nat) (h0 : W.cell? ⟨G, 0, none⟩ = some (.int .u8 a)) (h1 : W.cell? ⟨G, 1, none⟩ = some (.int .u8 b)) (h2 : W.cell? ⟨G, 2, none⟩ = some (.int .u8 c)) : (convert 25 9 (.slice (some ⟨G, 0, none⟩) 3 3)).run Try.prog W = .ok (.string (str [a, b, c])) W := by
  rw [run_convert_bytes_arg W 25 5 Try.underlying25 Try.underlying5 G 0 3 3 [(a : Int), (b : Int), (c : Int)] rfl (fun i hi => ?_) 9 Try.underlying9]
  · congr 2
  · rcases (by omega : i = 0 ∨ i = 1 ∨ i = 2) with rfl | rfl | rfl
    · exact h0
    · exact h1
    · exact h2
set_option maxRecDepth 100000 in
set_option maxHeartbeats 2000000 in
theorem bytesOf_3 (a b c h T : Nat) (w : World) (hh : Blk w h T [.int .i64 a, .int .i64 b, .int .i64 c]) (ha : a < 256) (hb : b < 256) (hc : c < 256) :
    Calls Try.prog 44 #[.slice (some ⟨h, 0, none⟩) 3 3] w fun e w' => e = .returned (.string (str [a, b, c])) ∧ Below w.heap.size w w' := by
  have hlt := hh.lt
  have hmk := mk25_3
  have c0 : ∀ o, (w.alloc o).cell? ⟨h, 0, none⟩ = some (.int .i64 a) := fun o => (hh.alloc o).get 0 rfl
  have c1 : ∀ o, (w.alloc o).cell? ⟨h, 1, none⟩ = some (.int .i64 b) := fun o => (hh.alloc o).get 1 rfl
  have c2 : ∀ o, (w.alloc o).cell? ⟨h, 2, none⟩ = some (.int .i64 c) := fun o => (hh.alloc o).get 2 rfl
  have hcv := conv_3 (w.alloc (.cells #[.int .u8 a, .int .u8 b, .int .u8 c] 5)) w.heap.size a b c ((Blk.new w 5 [.int .u8 a, .int .u8 b, .int .u8 c]).get 0 rfl) ((Blk.new w 5 [.int .u8 a, .int .u8 b, .int .u8 c]).get 1 rfl) ((Blk.new w 5 [.int .u8 a, .int .u8 b, .int .u8 c]).get 2 rfl)
  obtain ⟨Z, hZ⟩ : ∃ Z, Z = str [a, b, c] := ⟨_, rfl⟩
  rw [← hZ] at hcv ⊢
  have ne : h ≠ w.heap.size := by omega
  clear hh hZ
  go_enter Try.func44, Try.ntmps44
  go_wp2_with fail
  go_rounds 4
  go_wp2_with fail
  go_returns
  exact ⟨rfl, below_at (Below.refl _ _) _⟩
theorem mk25_4 (w : World) : (Instr.makeSlice 25 (.int .i64 4) (.int .i64 4)).run Try.prog w = .ok (.slice (some ⟨w.heap.size, 0, none⟩) 4 4) (w.alloc (.cells #[.int .u8 0, .int .u8 0, .int .u8 0, .int .u8 0] 5)) := by kernel_rfl
theorem conv_4 (W : World) (G a b c d : Nat) (h0 : W.cell? ⟨G, 0, none⟩ = some (.int .u8 a)) (h1 : W.cell? ⟨G, 1, none⟩ = some (.int .u8 b)) (h2 : W.cell? ⟨G, 2, none⟩ = some (.int .u8 c)) (h3 : W.cell? ⟨G, 3, none⟩ = some (.int .u8 d)) : (convert 25 9 (.slice (some ⟨G, 0, none⟩) 4 4)).run Try.prog W = .ok (.string (str [a, b, c, d])) W := by
  rw [run_convert_bytes_arg W 25 5 Try.underlying25 Try.underlying5 G 0 4 4 [(a : Int), (b : Int), (c : Int), (d : Int)] rfl (fun i hi => ?_) 9 Try.underlying9]
  · congr 2
  · rcases (by omega : i = 0 ∨ i = 1 ∨ i = 2 ∨ i = 3) with rfl | rfl | rfl | rfl
    · exact h0
    · exact h1
    · exact h2
    · exact h3
set_option maxRecDepth 100000 in
set_option maxHeartbeats 2000000 in
theorem bytesOf_4 (a b c d h T : Nat) (w : World) (hh : Blk w h T [.int .i64 a, .int .i64 b, .int .i64 c, .int .i64 d]) (ha : a < 256) (hb : b < 256) (hc : c < 256) (hd : d < 256) :
    Calls Try.prog 44 #[.slice (some ⟨h, 0, none⟩) 4 4] w fun e w' => e = .returned (.string (str [a, b, c, d])) ∧ Below w.heap.size w w' := by
  have hlt := hh.lt
  have hmk := mk25_4
  have c0 : ∀ o, (w.alloc o).cell? ⟨h, 0, none⟩ = some (.int .i64 a) := fun o => (hh.alloc o).get 0 rfl
  have c1 : ∀ o, (w.alloc o).cell? ⟨h, 1, none⟩ = some (.int .i64 b) := fun o => (hh.alloc o).get 1 rfl
  have c2 : ∀ o, (w.alloc o).cell? ⟨h, 2, none⟩ = some (.int .i64 c) := fun o => (hh.alloc o).get 2 rfl
  have c3 : ∀ o, (w.alloc o).cell? ⟨h, 3, none⟩ = some (.int .i64 d) := fun o => (hh.alloc o).get 3 rfl
  have hcv := conv_4 (w.alloc (.cells #[.int .u8 a, .int .u8 b, .int .u8 c, .int .u8 d] 5)) w.heap.size a b c d ((Blk.new w 5 [.int .u8 a, .int .u8 b, .int .u8 c, .int .u8 d]).get 0 rfl) ((Blk.new w 5 [.int .u8 a, .int .u8 b, .int .u8 c, .int .u8 d]).get 1 rfl) ((Blk.new w 5 [.int .u8 a, .int .u8 b, .int .u8 c, .int .u8 d]).get 2 rfl) ((Blk.new w 5 [.int .u8 a, .int .u8 b, .int .u8 c, .int .u8 d]).get 3 rfl)
  obtain ⟨Z, hZ⟩ : ∃ Z, Z = str [a, b, c, d] := ⟨_, rfl⟩
  rw [← hZ] at hcv ⊢
  have ne : h ≠ w.heap.size := by omega
  clear hh hZ
  go_enter Try.func44, Try.ntmps44
  go_wp2_with fail
  go_rounds 5
  go_wp2_with fail
  go_returns
  exact ⟨rfl, below_at (Below.refl _ _) _⟩
theorem or_192 (x : Nat) (hx : x < 64) : bits .or .i64 192 (x : Int) = ((192 + x : Nat) : Int) := by
  have h := (bits_nat .i64 63 (by decide) wraps_i64 192 x (by decide) (by omega)).2
  have h2 : ∀ y : Fin 64, (192 ||| y.val) = 192 + y.val := by decide +kernel
  rw [h2 ⟨x, hx⟩] at h
  exact h
theorem or_128 (x : Nat) (hx : x < 64) : bits .or .i64 128 (x : Int) = ((128 + x : Nat) : Int) := by
  have h := (bits_nat .i64 63 (by decide) wraps_i64 128 x (by decide) (by omega)).2
  have h2 : ∀ y : Fin 64, (128 ||| y.val) = 128 + y.val := by decide +kernel
  rw [h2 ⟨x, hx⟩] at h
  exact h
theorem or_224 (x : Nat) (hx : x < 16) : bits .or .i64 224 (x : Int) = ((224 + x : Nat) : Int) := by
  have h := (bits_nat .i64 63 (by decide) wraps_i64 224 x (by decide) (by omega)).2
  have h2 : ∀ y : Fin 16, (224 ||| y.val) = 224 + y.val := by decide +kernel
  rw [h2 ⟨x, hx⟩] at h
  exact h
theorem or_240 (x : Nat) (hx : x < 8) : bits .or .i64 240 (x : Int) = ((240 + x : Nat) : Int) := by
  have h := (bits_nat .i64 63 (by decide) wraps_i64 240 x (by decide) (by omega)).2
  have h2 : ∀ y : Fin 8, (240 ||| y.val) = 240 + y.val := by decide +kernel
  rw [h2 ⟨x, hx⟩] at h
  exact h
theorem and_63 (x : Nat) (h : x < 2 ^ 63) : bits .and .i64 (x : Int) 63 = ((x % 64 : Nat) : Int) := by
  have := bits_mask .i64 63 (by decide) wraps_i64 6 (by decide) (x : Int) (by omega) (by exact_mod_cast h)
  rw [show ((2 : Int) ^ 6 - 1) = 63 from rfl] at this
  rw [this]
  omega
set_option maxRecDepth 100000 in
set_option maxHeartbeats 2000000 in
theorem utf8 (r : Nat) (w : World) (hr : r ≤ 1114111) : Calls Try.prog 35 #[.int .i64 r] w fun e w' => e = .returned (.string (str (enc8 r))) ∧ Below w.heap.size w w' := by
  by_cases h1 : (r : Int) < 128
  · have he : enc8 r = [r] := by unfold enc8; rw [if_pos (by omega)]
    have HB := Lib.hid (bytesOf_1 r w.heap.size 3 (w.alloc (.cells #[.int .i64 r] 3)) (Blk.new w 3 [.int .i64 r]) (by omega))
    rw [he]
    obtain ⟨Z, hZ⟩ : ∃ Z, Z = str [r] := ⟨_, rfl⟩
    rw [← hZ] at HB ⊢
    clear he hZ
    go_enter Try.func35, Try.ntmps35
    go_wp2_with fail
    refine HB.out.mono ?_
    rintro e w' ⟨rfl, hb⟩
    have HBB := Lib.hid hb
    clear hb
    go_wp2_with fail
    go_returns
    exact ⟨rfl, up (below_at (Below.refl _ _) _) HBB.out⟩
  by_cases h2 : (r : Int) < 2048
  ·
    obtain ⟨a, ha⟩ : ∃ a : Nat, a = r / 64 := ⟨_, rfl⟩
    have ea : (r : Int) / 64 = (a : Int) := by omega
    obtain ⟨ua, hua⟩ : ∃ u : Nat, u = 192 + a := ⟨_, rfl⟩
    have oa : bits .or .i64 192 (a : Int) = (ua : Int) := by rw [or_192 a (by omega), hua]
    obtain ⟨b, hb⟩ : ∃ b : Nat, b = r % 64 := ⟨_, rfl⟩
    have mb : bits .and .i64 (r : Int) 63 = (b : Int) := by rw [and_63 r (by omega), hb]
    obtain ⟨ub, hub⟩ : ∃ u : Nat, u = 128 + b := ⟨_, rfl⟩
    have ob : bits .or .i64 128 (b : Int) = (ub : Int) := by rw [or_128 b (by omega), hub]
    have he : enc8 r = [ua, ub] := by
      unfold enc8
      rw [if_neg (by omega), if_pos (by omega), hua, ha, hub, hb]
    have HB := Lib.hid (bytesOf_2 ua ub w.heap.size 3 (w.alloc (.cells #[.int .i64 ua, .int .i64 ub] 3)) (Blk.new w 3 [.int .i64 ua, .int .i64 ub]) (by omega) (by omega))
    rw [he]
    obtain ⟨Z, hZ⟩ : ∃ Z, Z = str [ua, ub] := ⟨_, rfl⟩
    rw [← hZ] at HB ⊢
    clear he hZ ha hua hb hub 
    go_enter Try.func35, Try.ntmps35
    go_wp2_with fail
    refine HB.out.mono ?_
    rintro e w' ⟨rfl, hb⟩
    have HBB := Lib.hid hb
    clear hb
    go_wp2_with fail
    go_returns
    exact ⟨rfl, up (below_at (Below.refl _ _) _) HBB.out⟩
  by_cases h3 : (r : Int) < 65536
  ·
    obtain ⟨a, ha⟩ : ∃ a : Nat, a = r / 4096 := ⟨_, rfl⟩
    have ea : (r : Int) / 4096 = (a : Int) := by omega
    obtain ⟨ua, hua⟩ : ∃ u : Nat, u = 224 + a := ⟨_, rfl⟩
    have oa : bits .or .i64 224 (a : Int) = (ua : Int) := by rw [or_224 a (by omega), hua]
    obtain ⟨b, hb⟩ : ∃ b : Nat, b = r / 64 % 64 := ⟨_, rfl⟩
    obtain ⟨qb, hqb⟩ : ∃ q : Nat, q = r / 64 := ⟨_, rfl⟩
    have eb : (r : Int) / 64 = (qb : Int) := by omega
    have mb : bits .and .i64 (qb : Int) 63 = (b : Int) := by rw [and_63 qb (by omega), hb, hqb]
    obtain ⟨ub, hub⟩ : ∃ u : Nat, u = 128 + b := ⟨_, rfl⟩
    have ob : bits .or .i64 128 (b : Int) = (ub : Int) := by rw [or_128 b (by omega), hub]
    obtain ⟨c, hc⟩ : ∃ c : Nat, c = r % 64 := ⟨_, rfl⟩
    have mc : bits .and .i64 (r : Int) 63 = (c : Int) := by rw [and_63 r (by omega), hc]
    obtain ⟨uc, huc⟩ : ∃ u : Nat, u = 128 + c := ⟨_, rfl⟩
    have oc : bits .or .i64 128 (c : Int) = (uc : Int) := by rw [or_128 c (by omega), huc]
    have he : enc8 r = [ua, ub, uc] := by
      unfold enc8
      rw [if_neg (by omega), if_neg (by omega), if_pos (by omega), hua, ha, hub, hb, huc, hc]
    have HB := Lib.hid (bytesOf_3 ua ub uc w.heap.size 3 (w.alloc (.cells #[.int .i64 ua, .int .i64 ub, .int .i64 uc] 3)) (Blk.new w 3 [.int .i64 ua, .int .i64 ub, .int .i64 uc]) (by omega) (by omega) (by omega))
    rw [he]
    obtain ⟨Z, hZ⟩ : ∃ Z, Z = str [ua, ub, uc] := ⟨_, rfl⟩
    rw [← hZ] at HB ⊢
    clear he hZ ha hua hb hub hc huc hqb
    go_enter Try.func35, Try.ntmps35
    go_wp2_with fail
    refine HB.out.mono ?_
    rintro e w' ⟨rfl, hb⟩
    have HBB := Lib.hid hb
    clear hb
    go_wp2_with fail
    go_returns
    exact ⟨rfl, up (below_at (Below.refl _ _) _) HBB.out⟩
  obtain ⟨a, ha⟩ : ∃ a : Nat, a = r / 262144 := ⟨_, rfl⟩
  have ea : (r : Int) / 262144 = (a : Int) := by omega
  obtain ⟨ua, hua⟩ : ∃ u : Nat, u = 240 + a := ⟨_, rfl⟩
  have oa : bits .or .i64 240 (a : Int) = (ua : Int) := by rw [or_240 a (by omega), hua]
  obtain ⟨b, hb⟩ : ∃ b : Nat, b = r / 4096 % 64 := ⟨_, rfl⟩
  obtain ⟨qb, hqb⟩ : ∃ q : Nat, q = r / 4096 := ⟨_, rfl⟩
  have eb : (r : Int) / 4096 = (qb : Int) := by omega
  have mb : bits .and .i64 (qb : Int) 63 = (b : Int) := by rw [and_63 qb (by omega), hb, hqb]
  obtain ⟨ub, hub⟩ : ∃ u : Nat, u = 128 + b := ⟨_, rfl⟩
  have ob : bits .or .i64 128 (b : Int) = (ub : Int) := by rw [or_128 b (by omega), hub]
  obtain ⟨c, hc⟩ : ∃ c : Nat, c = r / 64 % 64 := ⟨_, rfl⟩
  obtain ⟨qc, hqc⟩ : ∃ q : Nat, q = r / 64 := ⟨_, rfl⟩
  have ec : (r : Int) / 64 = (qc : Int) := by omega
  have mc : bits .and .i64 (qc : Int) 63 = (c : Int) := by rw [and_63 qc (by omega), hc, hqc]
  obtain ⟨uc, huc⟩ : ∃ u : Nat, u = 128 + c := ⟨_, rfl⟩
  have oc : bits .or .i64 128 (c : Int) = (uc : Int) := by rw [or_128 c (by omega), huc]
  obtain ⟨d, hd⟩ : ∃ d : Nat, d = r % 64 := ⟨_, rfl⟩
  have md : bits .and .i64 (r : Int) 63 = (d : Int) := by rw [and_63 r (by omega), hd]
  obtain ⟨ud, hud⟩ : ∃ u : Nat, u = 128 + d := ⟨_, rfl⟩
  have od : bits .or .i64 128 (d : Int) = (ud : Int) := by rw [or_128 d (by omega), hud]
  have he : enc8 r = [ua, ub, uc, ud] := by
    unfold enc8
    rw [if_neg (by omega), if_neg (by omega), if_neg (by omega), hua, ha, hub, hb, huc, hc, hud, hd]
  have HB := Lib.hid (bytesOf_4 ua ub uc ud w.heap.size 3 (w.alloc (.cells #[.int .i64 ua, .int .i64 ub, .int .i64 uc, .int .i64 ud] 3)) (Blk.new w 3 [.int .i64 ua, .int .i64 ub, .int .i64 uc, .int .i64 ud]) (by omega) (by omega) (by omega) (by omega))
  rw [he]
  obtain ⟨Z, hZ⟩ : ∃ Z, Z = str [ua, ub, uc, ud] := ⟨_, rfl⟩
  rw [← hZ] at HB ⊢
  clear he hZ ha hua hb hub hc huc hd hud hqb hqc
  go_enter Try.func35, Try.ntmps35
  go_wp2_with fail
  refine HB.out.mono ?_
  rintro e w' ⟨rfl, hb⟩
  have HBB := Lib.hid hb
  clear hb
  go_wp2_with fail
  go_returns
  exact ⟨rfl, up (below_at (Below.refl _ _) _) HBB.out⟩
end Go.Proofs.Ytobhlppdolekoaa.Ch
/- spec.wtfPair, spec.WtfText. The walks. -/
namespace Go.Proofs.Ytobhlppdolekoaa.Ch
open Go.RowKit Go.Proofs.Ytobhlppdolekoaa.Aid Go.Proofs.Ytobhlppdolekoaa.Bytes Go.Proofs.Ytobhlppdolekoaa.Runes Go.Proofs.Ytobhlppdolekoaa.Wtf
attribute [local go_sem ↓] Go.wp_at_zero Go.wp_at_succ
set_option linter.unusedVariables false
set_option linter.unusedSimpArgs false
/-- Code units in memory. -/
def UAt (w : World) (A : Option Addr) (us : List Nat) : Prop := ∀ (i : Nat) u, us[i]? = some u → ∃ g, A = some ⟨g, 0, none⟩ ∧ g < w.heap.size ∧ w.cell? ⟨g, i, none⟩ = some (.int .u16 u)
theorem UAt.below {w w' : World} {A : Option Addr} {us : List Nat} (h : UAt w A us) (hb : Below w.heap.size w w') : UAt w' A us := fun i u hi => by
  obtain ⟨g, h1, h2, h3⟩ := h i u hi
  exact ⟨g, h1, Nat.lt_of_lt_of_le h2 hb.size, bcell hb h2 h3⟩
theorem UAt.of {w : World} {base : Nat} {A : Option Addr} {c : Nat} {us : List Nat} (h : w.ownsRow base 90 1 (.slice A us.length c) us.length (ucells us)) : UAt w A us := fun i u hi => by
  have hil : i < us.length := by
    rcases Nat.lt_or_ge i us.length with h' | h'
    · exact h'
    · rw [List.getElem?_eq_none h'] at hi; cases hi
  obtain ⟨A', c', e, hr⟩ := own_form h
  obtain ⟨g, e', _, hlt, hc⟩ := hr i (by omega)
  injection e with e1
  refine ⟨g, e1.trans e', hlt, ?_⟩
  rw [hc, ucells, List.getElem?_map, hi]
  rfl
theorem lead_is {u : Nat} {z : Bool} (h : lead u = z) (w : World) : Calls Try.prog 42 #[.int .i64 u] w fun e w' => e = .returned (.bool z) ∧ w' = w := by rw [← h]; exact lead_walk u w
theorem trail_is {u : Nat} {z : Bool} (h : trail u = z) (w : World) : Calls Try.prog 43 #[.int .i64 u] w fun e w' => e = .returned (.bool z) ∧ w' = w := by rw [← h]; exact trail_walk u w
set_option maxRecDepth 100000 in
set_option maxHeartbeats 4000000 in
theorem pair_no (A : Option Addr) (c : Nat) (us : List Nat) (i : Nat) (w : World) (h : UAt w A us) (hn : us.length ≤ 1000000) (hi : i < us.length) (hl : ∀ u ∈ us, u < 65536)
    (hp : ∀ u v, us[i]? = some u → us[i + 1]? = some v → ¬ (lead u = true ∧ trail v = true)) :
    Calls Try.prog 34 #[.slice A us.length c, .int .i64 i] w fun e w' => e = .returned (.tuple #[.int .i64 0, .bool false]) ∧ w' = w := by
  obtain ⟨n, hnn⟩ : ∃ n, n = us.length := ⟨_, rfl⟩
  rw [← hnn] at hn hi ⊢
  have HN := Lib.hid hnn
  clear hnn
  obtain ⟨u, hu⟩ : ∃ u, us[i]? = some u := ⟨_, List.getElem?_eq_getElem (by rw [← HN.out]; exact hi)⟩
  obtain ⟨g, rfl, hg, c0⟩ := h i u hu
  have hu16 := hl u (List.mem_of_getElem? hu)
  by_cases h1 : (n : Int) ≤ ((i : Int) + 1)
  · clear h hp hu hl
    go_enter Try.func34, Try.ntmps34
    go_wp2_with fail
    go_returns
    exact ⟨rfl, rfl⟩
  · obtain ⟨v, hv⟩ : ∃ v, us[i + 1]? = some v := ⟨_, List.getElem?_eq_getElem (by rw [← HN.out]; omega)⟩
    obtain ⟨g', hg', _, c1⟩ := h (i + 1) v hv
    injection hg' with hg'
    injection hg' with hg'
    subst hg'
    have hno := hp u v hu hv
    have hv16 := hl v (List.mem_of_getElem? hv)
    obtain ⟨z, hz⟩ : ∃ z, lead u = z := ⟨_, rfl⟩
    have HL := Lib.hid (lead_is hz)
    obtain ⟨y, hy⟩ : ∃ y, trail v = y := ⟨_, rfl⟩
    have HT := Lib.hid (trail_is hy)
    rw [hz, hy] at hno
    clear h hp hu hl hv hz hy
    cases z with
    | false =>
      go_enter Try.func34, Try.ntmps34
      go_wp2_with fail
      refine (HL.out _).mono ?_
      rintro e w' ⟨rfl, rfl⟩
      go_wp2_with fail
      go_returns
      exact ⟨rfl, rfl⟩
    | true =>
      cases y with
      | true => exact absurd ⟨rfl, rfl⟩ hno
      | false =>
        go_enter Try.func34, Try.ntmps34
        go_wp2_with fail
        refine (HL.out _).mono ?_
        rintro e w' ⟨rfl, rfl⟩
        go_wp2_with fail
        refine (HT.out _).mono ?_
        rintro e w' ⟨rfl, rfl⟩
        go_wp2_with fail
        go_returns
        exact ⟨rfl, rfl⟩
set_option maxRecDepth 100000 in
set_option maxHeartbeats 4000000 in
theorem pair_yes (A : Option Addr) (c : Nat) (us : List Nat) (i u v : Nat) (w : World) (h : UAt w A us) (hn : us.length ≤ 1000000) (hu : us[i]? = some u) (hv : us[i + 1]? = some v) (hlu : lead u = true) (htv : trail v = true) :
    Calls Try.prog 34 #[.slice A us.length c, .int .i64 i] w fun e w' => e = .returned (.tuple #[.int .i64 ((65536 + (u - 55296) * 1024 + (v - 56320) : Nat) : Int), .bool true]) ∧ ∃ n, w' = w.drewN n := by
  have hil : i + 1 < us.length := by
    rcases Nat.lt_or_ge (i + 1) us.length with h' | h'
    · exact h'
    · rw [List.getElem?_eq_none h'] at hv; cases hv
  obtain ⟨g, rfl, hg, c0⟩ := h i u hu
  obtain ⟨g', hg', _, c1⟩ := h (i + 1) v hv
  injection hg' with hg'
  injection hg' with hg'
  subst hg'
  have HL := Lib.hid (lead_is hlu)
  have HT := Lib.hid (trail_is htv)
  unfold lead at hlu
  unfold trail at htv
  rw [Bool.and_eq_true] at hlu htv
  have l1 := of_decide_eq_true hlu.1
  have l2 := of_decide_eq_true hlu.2
  have t1 := of_decide_eq_true htv.1
  have t2 := of_decide_eq_true htv.2
  obtain ⟨n, hnn⟩ : ∃ n, n = us.length := ⟨_, rfl⟩
  rw [← hnn] at hn hil ⊢
  clear h hu hv hlu htv hnn
  obtain ⟨x, hx⟩ : ∃ x : Nat, x = u - 55296 := ⟨_, rfl⟩
  obtain ⟨y, hy⟩ : ∃ y : Nat, y = v - 56320 := ⟨_, rfl⟩
  rw [← hx, ← hy]
  have e1 : (u : Int) - 55296 = (x : Int) := by omega
  have e2 : (v : Int) - 56320 = (y : Int) := by omega
  have h1 : ¬ (n : Int) ≤ ((i : Int) + 1) := by omega
  have x1 : x < 1024 := by omega
  have y1 : y < 1024 := by omega
  clear hx hy
  go_enter Try.func34, Try.ntmps34
  go_wp2_with fail
  refine (HL.out _).mono ?_
  rintro e w' ⟨rfl, rfl⟩
  go_wp2_with fail
  refine (HT.out _).mono ?_
  rintro e w' ⟨rfl, rfl⟩
  go_upto_region 3 with fail
  go_quiet (fail)
  go_wp2_with fail
  go_returns
  exact ⟨rfl, nq, rfl⟩
theorem txt_drop {us : List Nat} {i u : Nat} (hu : us[i]? = some u) : us.drop i = u :: us.drop (i + 1) := by
  have hil : i < us.length := by
    rcases Nat.lt_or_ge i us.length with h' | h'
    · exact h'
    · rw [List.getElem?_eq_none h'] at hu; cases hu
  rw [List.drop_eq_getElem_cons hil]
  rw [List.getElem?_eq_getElem hil] at hu
  injection hu with hu
  rw [hu]
theorem enc8_len (r : Nat) : (enc8 r).length ≤ 4 := by
  unfold enc8
  split
  · simp
  · split
    · simp
    · split <;> simp
set_option maxRecDepth 100000 in
set_option maxHeartbeats 4000000 in
theorem wtfText (base c : Nat) (A : Option Addr) (us : List Nat) (w : World) (h : w.ownsRow base 90 1 (.slice A us.length c) us.length (ucells us)) (hn : us.length ≤ 1000000) (hl : ∀ u ∈ us, u < 65536) :
    Calls Try.prog 21 #[.slice A us.length c] w fun e w' => e = .returned (.string (str (txt16 us))) ∧ Below w.heap.size w w' := by
  have HU := Lib.hid (fun (W : World) (hb : Below w.heap.size w W) => (UAt.of h).below hb)
  have HLT := Lib.hid hl
  have HUT := Lib.hid utf8
  have HN := Lib.hid (fun i W (hb : Below w.heap.size w W) hi hp => pair_no A c us i W ((UAt.of h).below hb) hn hi hl hp)
  have HY := Lib.hid (fun i u v W (hb : Below w.heap.size w W) h1 h2 h3 h4 => pair_yes A c us i u v W ((UAt.of h).below hb) hn h1 h2 h3 h4)
  obtain ⟨n, hnn⟩ : ∃ n, n = us.length := ⟨_, rfl⟩
  rw [← hnn] at hn HN HY ⊢
  have HNN := Lib.hid hnn
  clear h hl hnn
  go_enter Try.func21, Try.ntmps21
  go_wp2_with fail
  go_loopg [3, 4] n (fun m ov iv wr => ∃ (i : Nat) (done : List Nat), i + m = n ∧ iv = .int .i64 i ∧ ov = .string (str done) ∧ done.length ≤ 4 * i ∧ Hid (txt16 us = done ++ txt16 (us.drop i)) ∧ Hid (Below w.heap.size w wr))
  case atStart => exact ⟨0, [], by omega, rfl, rfl, by simp, Lib.hid (by simp), Lib.hid (Below.refl _ _)⟩
  case round =>
    obtain ⟨i, done, him, rfl, rfl, hdl, HD, HB⟩ := hrel
    have hds : (str done).size = done.length := str_size done
    by_cases hlt : i < n
    · have hlt' : (i : Int) < n := by omega
      obtain ⟨u, hu⟩ : ∃ u, us[i]? = some u := ⟨_, List.getElem?_eq_getElem (by rw [← HNN.out]; exact hlt)⟩
      have hu16 := HLT.out u (List.mem_of_getElem? hu)
      have HUD := Lib.hid (txt_drop hu)
      by_cases hp : ∃ v, us[i + 1]? = some v ∧ lead u = true ∧ trail v = true
      · obtain ⟨v, hv, p1, p2⟩ := hp
        have hil : i + 1 < n := by
          rw [HNN.out]
          rcases Nat.lt_or_ge (i + 1) us.length with h' | h'
          · exact h'
          · rw [List.getElem?_eq_none h'] at hv; cases hv
        have HC := Lib.hid (HY.out i u v wr HB.out hu hv p1 p2)
        obtain ⟨r, hr⟩ : ∃ r, r = 65536 + (u - 55296) * 1024 + (v - 56320) := ⟨_, rfl⟩
        rw [← hr] at HC
        have hr1 : r ≤ 1114111 := by
          unfold lead at p1
          unfold trail at p2
          rw [Bool.and_eq_true] at p1 p2
          have l2 := of_decide_eq_true p1.2
          have t2 := of_decide_eq_true p2.2
          omega
        have HD2 : Hid (txt16 us = (done ++ enc8 r) ++ txt16 (us.drop (i + 2))) := Lib.hid (by
          rw [HD.out, HUD.out, txt_drop hv, txt16, if_pos ⟨p1, p2⟩, List.append_assoc, hr])
        have hel := enc8_len r
        have hes : (str (enc8 r)).size = (enc8 r).length := str_size _
        have HR := Lib.hid (fun w => HUT.out r w hr1)
        obtain ⟨Y, hY⟩ : ∃ Y, Y = str (enc8 r) := ⟨_, rfl⟩
        rw [← hY] at HR hes
        obtain ⟨X, hX⟩ : ∃ X, X = str done := ⟨_, rfl⟩
        rw [← hX] at hds ⊢
        have hXY : X.size + Y.size ≤ 9223372036854775807 := by omega
        have HX := Lib.hid hX
        have HYY := Lib.hid hY
        have hel2 : (done ++ enc8 r).length ≤ 4 * (i + 2) := by rw [List.length_append]; omega
        clear hu hv p1 p2 hr hX hY hds hes hel
        go_wp2_with fail
        refine (HC.out).mono ?_
        rintro e w2 ⟨rfl, k, rfl⟩
        go_wp2_with fail
        refine (HR.out _).mono ?_
        rintro e w3 ⟨rfl, hb3⟩
        have HB3 := Lib.hid (up (below_drewN HB.out k) hb3)
        clear hb3
        go_wp2_with fail
        go_roundg (n - (i + 2))
        case rel => exact ⟨i + 2, done ++ enc8 r, by omega, val_int (by omega), by rw [HX.out, HYY.out, str_append], hel2, HD2, HB3⟩
        case measure => omega
      · have HC := Lib.hid (HN.out i wr HB.out hlt (fun u' v' h1 h2 h3 => hp ⟨v', h2, by rw [hu] at h1; injection h1 with h1; rw [h1]; exact h3.1, h3.2⟩))
        have HD2 : Hid (txt16 us = (done ++ enc8 u) ++ txt16 (us.drop (i + 1))) := Lib.hid (by
          rw [HD.out, HUD.out, List.append_assoc]
          congr 1
          cases hd : us.drop (i + 1) with
          | nil => simp [txt16]
          | cons v l =>
            rw [txt16, if_neg]
            rintro ⟨q1, q2⟩
            refine hp ⟨v, ?_, q1, q2⟩
            have := congrArg (fun l => l[0]?) hd
            simpa using this)
        have hel := enc8_len u
        have hes : (str (enc8 u)).size = (enc8 u).length := str_size _
        have HR := Lib.hid (fun w => HUT.out u w (by omega))
        obtain ⟨Y, hY⟩ : ∃ Y, Y = str (enc8 u) := ⟨_, rfl⟩
        rw [← hY] at HR hes
        obtain ⟨X, hX⟩ : ∃ X, X = str done := ⟨_, rfl⟩
        rw [← hX] at hds ⊢
        have hXY : X.size + Y.size ≤ 9223372036854775807 := by omega
        have HX := Lib.hid hX
        have HYY := Lib.hid hY
        have hel2 : (done ++ enc8 u).length ≤ 4 * (i + 1) := by rw [List.length_append]; omega
        obtain ⟨g, hA, hg, c0⟩ := HU.out wr HB.out i u hu
        subst hA
        clear hu hp hX hY hds hes hel
        go_wp2_with fail
        refine (HC.out).mono ?_
        rintro e w2 ⟨rfl, rfl⟩
        go_wp2_with fail
        refine (HR.out _).mono ?_
        rintro e w3 ⟨rfl, hb3⟩
        have HB3 := Lib.hid (up HB.out hb3)
        clear hb3
        go_wp2_with fail
        go_roundg (n - (i + 1))
        case rel => exact ⟨i + 1, done ++ enc8 u, by omega, val_int (by omega), by rw [HX.out, HYY.out, str_append], hel2, HD2, HB3⟩
        case measure => omega
    · have hii : ¬ (i : Int) < n := by omega
      have HE : Hid (str done = str (txt16 us)) := Lib.hid (by
        rw [HD.out, List.drop_eq_nil_iff.2 (by rw [← HNN.out]; omega)]
        simp [txt16])
      rw [HE.out]
      obtain ⟨Z, hZ⟩ : ∃ Z, Z = str (txt16 us) := ⟨_, rfl⟩
      rw [← hZ]
      have HZ := Lib.hid hZ
      clear hZ hds
      go_wp2_with fail
      go_returns
      exact ⟨by rw [← HZ.out]; rfl, HB.out⟩
end Go.Proofs.Ytobhlppdolekoaa.Ch
/- laws.called: the names that stand in quotes. The walk. -/
namespace Go.Proofs.Ytobhlppdolekoaa.Ch
open Go.RowKit Go.Proofs.Ytobhlppdolekoaa.Aid Go.Proofs.Ytobhlppdolekoaa.Bytes Go.Proofs.Ytobhlppdolekoaa.Runes Go.Proofs.Ytobhlppdolekoaa.Wtf
attribute [local go_sem ↓] Go.wp_at_zero Go.wp_at_succ
set_option linter.unusedVariables false
set_option linter.unusedSimpArgs false
def ntexts (ns : List ByteArray) : List Value := ns.map fun s => .string s
theorem qstring (asc : Bool) {s : ByteArray} (hw : wf s 0 = true) (hs : s.size ≤ 1000) : ∃ us, us.length ≤ 1000 ∧ (∀ u ∈ us, u < 65536) ∧ str (txt16 us) = s ∧ ∀ w, Calls Try.prog 20 #[.string (str (Q34 asc s))] w (Wtf.Read us w) := by
  obtain ⟨us, h1, h2, h3, h4⟩ := wf_units _ s 0 rfl hw
  refine ⟨us, by omega, h3, by rw [h2, str_nats], fun w => ?_⟩
  have hl := q34_len asc s
  have hlt := q34_lt asc s
  have hpar := parse_quote asc _ (nats s) 0 us rfl h1
  have hqs : (str (Q34 asc s)).size = (Q34 asc s).length := str_size _
  have hqn : nats (str (Q34 asc s)) = Q34 asc s := q34_nats asc s
  have hb : ∀ i, byt (str (Q34 asc s)) i = (Q34 asc s).getD i 0 := byt_str _ (fun b hb => (hlt b hb).1)
  refine jsonString _ us w (by omega) (by omega) ?_ ?_ ?_
  · rw [hb]; simp [Q34]
  · rw [hb, hqs]
    have : (Q34 asc s).length - 1 = ([34] ++ quote asc (nats s)).length := by simp [Q34]
    rw [this, Q34]
    simp [List.getD_eq_getElem?_getD]
  · have : ins (str (Q34 asc s)) 1 = quote asc (nats s) := by
      rw [ins, hqn, hqs]
      simp [Q34]
    rw [this]
    exact hpar
set_option maxRecDepth 100000 in
set_option maxHeartbeats 8000000 in
theorem called (base : Nat) (qv : Value) (asc : Bool) (ns : List ByteArray) (w : World) (h : w.ownsRow base 9 1 qv ns.length (qtexts asc ns)) (hns : ns.length ≤ 1000) (hw : ∀ s ∈ ns, wf s 0 = true ∧ s.size ≤ 1000) :
    Calls Try.prog 8 #[qv] w fun e w' => ∃ nv, e = .returned (.tuple #[nv, .bool true]) ∧ w'.ownsRow w.heap.size 9 1 nv ns.length (ntexts ns) ∧ Below w.heap.size w w' := by
  obtain ⟨i9, hi, hz0, hz1, hz2⟩ := info_parts info9
  obtain ⟨A, c, hq⟩ := own_slice h
  have HCELL := Lib.hid (fun (i : Nat) (hi : i < ns.length) => show ∃ gq s, A = some ⟨gq, 0, none⟩ ∧ gq < w.heap.size ∧ ns[i]? = some s ∧ w.cell? ⟨gq, i, none⟩ = some (.string (str (Q34 asc s))) from by
    obtain ⟨s, hs⟩ : ∃ s, ns[i]? = some s := ⟨_, List.getElem?_eq_getElem hi⟩
    obtain ⟨A', c', e', hr⟩ := own_form h
    obtain ⟨gq, e2, _, hlt, hc⟩ := hr i (by omega)
    rw [hq] at e'
    injection e' with e3
    exact ⟨gq, s, e3.trans e2, hlt, hs, by rw [hc, qtexts, List.getElem?_map, hs]; rfl⟩)
  have HWF := Lib.hid hw
  subst hq
  clear h hw
  obtain ⟨n, hn⟩ : ∃ n, n = ns.length := ⟨_, rfl⟩
  rw [← hn] at hns HCELL ⊢
  have HN := Lib.hid hn
  clear hn
  go_enter Try.func8, Try.ntmps8
  go_wp2_with fail
  go_loopg [4, 11] n (fun m ov iv wr => ∃ i : Nat, i + m = n ∧ iv = .int .i64 i ∧ Aside (wr.ownsRow w.heap.size 9 1 ov i (ntexts (ns.take i)) ∧ Below w.heap.size w wr))
  case atStart => exact ⟨0, by omega, rfl, ⟨World.ownsRow_nil _ _ _ _, Below.refl _ _⟩⟩
  case round =>
    obtain ⟨i, him, rfl, HR⟩ := hrel
    have HR := Lib.hid HR.out
    by_cases hi' : i < n
    · obtain ⟨gq, s, hA, hlt, hs, hc⟩ := HCELL.out i hi'
      subst hA
      have hii : (i : Int) < n := by omega
      have cq : wr.cell? ⟨gq, i, none⟩ = some (.string (str (Q34 asc s))) := bcell HR.out.2 hlt hc
      obtain ⟨k1, k2⟩ := HWF.out s (List.mem_of_getElem? hs)
      obtain ⟨us, u1, u2, u3, u4⟩ := qstring asc k1 k2
      have HJ := Lib.hid u4
      have HU2 := Lib.hid u2
      have HU3 := Lib.hid u3
      obtain ⟨T, hT⟩ : ∃ T, T = str (Q34 asc s) := ⟨_, rfl⟩
      rw [← hT] at HJ cq
      have HS := Lib.hid hs
      clear hT hs k1 k2 u2 u3 u4 hc hlt
      go_wp2_with fail
      refine (HJ.out _).mono ?_
      rintro e w1 ⟨hb1, v, rfl, ho1⟩
      obtain ⟨A1, c1, hv1⟩ := own_slice ho1
      subst hv1
      have HWT := Lib.hid (wtfText _ c1 A1 us w1 ho1 (by omega) HU2.out)
      rw [HU3.out] at HWT
      have HB1 := Lib.hid (up HR.out.2 hb1)
      have HO1 := Lib.hid (own_keep HR.out.1 hb1)
      clear hb1 ho1
      go_wp2_with fail
      refine (HWT.out).mono ?_
      rintro e w2 ⟨rfl, hb2⟩
      have HB2 := Lib.hid (up HB1.out hb2)
      have HO2 := Lib.hid (own_keep HO1.out hb2)
      have HW : Hid (w.heap.size ≤ w2.heap.size) := Lib.hid HB2.out.size
      obtain ⟨A3, c3, hu3⟩ := own_slice HR.out.1
      subst hu3
      have hone : Hid (∀ u ∈ [Value.string s], u.oneCell' = true) := Lib.hid (by
        intro u hu
        simp only [List.mem_cons, List.not_mem_nil, or_false] at hu
        rw [hu]
        rfl)
      clear hb2 HR HWT
      go_wp2_with (at_builtin; refine wpList_append_new rfl _ _ 26 rfl w.heap.size 9 i9 _ 1 16 Try.underlying26 hi hz0 hz1 hz2 rfl (by omega) (.slice A3 i c3) i (ntexts (ns.take i)) rfl HO2.out [.string s] rfl rfl hone.out (by unfold maxLen; omega) (by omega) HW.out ?_)
      intro gg cap w3 hown hgr hloc
      have HO : Hid (w3.ownsRow w.heap.size 9 1 (.slice (some ⟨gg, 0, none⟩) (i + 1) cap) (i + 1) (ntexts (ns.take (i + 1)))) := Lib.hid (by
        have e : ns.take (i + 1) = ns.take i ++ [s] := by rw [List.take_add_one, HS.out]; rfl
        rw [e, ntexts, List.map_append, List.map_cons, List.map_nil]
        exact hown)
      have HB := Lib.hid (show Below w.heap.size w w3 from below_of_only HB2.out HW.out hgr (fun g hg => own_below HO2.out g hg))
      clear hown hgr hloc
      go_wp2_with fail
      go_roundg (n - (i + 1))
      case rel => exact ⟨i + 1, by omega, rfl, ⟨HO.out, HB.out⟩⟩
      case measure => omega
    · have hii : ¬ (i : Int) < n := by omega
      have hin : i = n := by omega
      subst hin
      clear hi'
      go_wp2_with fail
      go_returns
      have h1 := HR.out.1
      rw [HN.out, List.take_length] at h1
      rw [HN.out]
      exact ⟨_, rfl, h1, HR.out.2⟩
end Go.Proofs.Ytobhlppdolekoaa.Ch
