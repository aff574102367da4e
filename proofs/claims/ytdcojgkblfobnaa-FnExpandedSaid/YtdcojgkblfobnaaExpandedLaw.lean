/- For all whole numbers: the law FnExpanded returns true; no condition. The walk of the law. -/
import Derived.Test.YtdcojgkblfobnaaExpandedWalk
import Derived.ProofKit
import Derived.ChangeOld
import Derived.SizedLaws
import Derived.ShutString
namespace Go.Proofs.Ytdcojgkblfobnaa.Expanded
open Go.RowKit
open Go.RowKit
theorem ret_true {c : Bool} (h : c = true) : Ending.returned (.bool c) = .returned (.bool true) := by rw [h]
set_option maxHeartbeats 1000000 in
theorem law_11 (a n b m : Int) (w : World) (ha0 : 0 ≤ a) (ha : a ≤ 536870912) (hn0 : 1 ≤ n) (hn : n ≤ 536870912) (hb0 : 0 ≤ b) (hb : b ≤ 536870912) (hm0 : 1 ≤ m) (hm : m ≤ 536870912) (hc : a + n < b + m) (hd : b < a) :
    Calls Try.prog 9 #[.int .i64 a, .int .i64 n, .int .i64 b, .int .i64 m] w fun e w' => e = .returned (.bool true) ∧ Below w.heap.size w w' := by
  go_enter Try.func9, Try.ntmps9
  go_wp2_with (go_at_call 25; refine (exp_11 a n b m _ ha0 ha hn0 hn hb0 hb hm0 hm hc hd).mono ?_; rintro e w' ⟨rfl, hbel⟩)
  go_ret
  refine ⟨ret_true ?_, hbel⟩
  simp
  try omega
set_option maxHeartbeats 1000000 in
theorem law_10 (a n b m : Int) (w : World) (ha0 : 0 ≤ a) (ha : a ≤ 536870912) (hn0 : 1 ≤ n) (hn : n ≤ 536870912) (hb0 : 0 ≤ b) (hb : b ≤ 536870912) (hm0 : 1 ≤ m) (hm : m ≤ 536870912) (hc : a + n < b + m) (hd : a ≤ b) :
    Calls Try.prog 9 #[.int .i64 a, .int .i64 n, .int .i64 b, .int .i64 m] w fun e w' => e = .returned (.bool true) ∧ Below w.heap.size w w' := by
  go_enter Try.func9, Try.ntmps9
  go_wp2_with (go_at_call 25; refine (exp_10 a n b m _ ha0 ha hn0 hn hb0 hb hm0 hm hc hd).mono ?_; rintro e w' ⟨rfl, hbel⟩)
  go_ret
  refine ⟨ret_true ?_, hbel⟩
  simp
  try omega
set_option maxHeartbeats 1000000 in
theorem law_01 (a n b m : Int) (w : World) (ha0 : 0 ≤ a) (ha : a ≤ 536870912) (hn0 : 1 ≤ n) (hn : n ≤ 536870912) (hb0 : 0 ≤ b) (hb : b ≤ 536870912) (hm0 : 1 ≤ m) (hm : m ≤ 536870912) (hc : b + m ≤ a + n) (hd : b < a) :
    Calls Try.prog 9 #[.int .i64 a, .int .i64 n, .int .i64 b, .int .i64 m] w fun e w' => e = .returned (.bool true) ∧ Below w.heap.size w w' := by
  go_enter Try.func9, Try.ntmps9
  go_wp2_with (go_at_call 25; refine (exp_01 a n b m _ ha0 ha hn0 hn hb0 hb hm0 hm hc hd).mono ?_; rintro e w' ⟨rfl, hbel⟩)
  go_ret
  refine ⟨ret_true ?_, hbel⟩
  simp
  try omega
set_option maxHeartbeats 1000000 in
theorem law_00 (a n b m : Int) (w : World) (ha0 : 0 ≤ a) (ha : a ≤ 536870912) (hn0 : 1 ≤ n) (hn : n ≤ 536870912) (hb0 : 0 ≤ b) (hb : b ≤ 536870912) (hm0 : 1 ≤ m) (hm : m ≤ 536870912) (hc : b + m ≤ a + n) (hd : a ≤ b) :
    Calls Try.prog 9 #[.int .i64 a, .int .i64 n, .int .i64 b, .int .i64 m] w fun e w' => e = .returned (.bool true) ∧ Below w.heap.size w w' := by
  go_enter Try.func9, Try.ntmps9
  go_wp2_with (go_at_call 25; refine (exp_00 a n b m _ ha0 ha hn0 hn hb0 hb hm0 hm hc hd).mono ?_; rintro e w' ⟨rfl, hbel⟩)
  go_ret
  refine ⟨ret_true ?_, hbel⟩
  simp
  try omega
set_option maxHeartbeats 1000000 in
theorem law_out (a n b m : Int) (w : World) (h : ¬ (0 ≤ a ∧ a ≤ 536870912 ∧ 0 ≤ b ∧ b ≤ 536870912 ∧ 1 ≤ n ∧ n ≤ 536870912 ∧ 1 ≤ m ∧ m ≤ 536870912)) :
    Calls Try.prog 9 #[.int .i64 a, .int .i64 n, .int .i64 b, .int .i64 m] w fun e w' => e = .returned (.bool true) ∧ Below w.heap.size w w' := by
  go_enter Try.func9, Try.ntmps9
  go_wp2_with fail
  all_goals first | (exfalso; omega) | (go_ret; exact ⟨rfl, Below.refl _ _⟩)
theorem law (a n b m : Int) (w : World) : Calls Try.prog 9 #[.int .i64 a, .int .i64 n, .int .i64 b, .int .i64 m] w fun e w' => e = .returned (.bool true) ∧ Below w.heap.size w w' := by
  by_cases h : 0 ≤ a ∧ a ≤ 536870912 ∧ 0 ≤ b ∧ b ≤ 536870912 ∧ 1 ≤ n ∧ n ≤ 536870912 ∧ 1 ≤ m ∧ m ≤ 536870912
  · obtain ⟨ha0, ha, hb0, hb, hn0, hn, hm0, hm⟩ := h
    by_cases hc : a + n < b + m
    · by_cases hd : b < a
      · exact law_11 a n b m w ha0 ha hn0 hn hb0 hb hm0 hm hc hd
      · exact law_10 a n b m w ha0 ha hn0 hn hb0 hb hm0 hm hc (by omega)
    · by_cases hd : b < a
      · exact law_01 a n b m w ha0 ha hn0 hn hb0 hb hm0 hm (by omega) hd
      · exact law_00 a n b m w ha0 ha hn0 hn hb0 hb hm0 hm (by omega) (by omega)
  · exact law_out a n b m w h
end Go.Proofs.Ytdcojgkblfobnaa.Expanded
namespace Go.Proofs.Ytdcojgkblfobnaa.Expanded
open Go.RowKit
theorem whole (a n b m : Int) (w : World) (_ : (Lit.int .i64 a).wf = true) (_ : (Lit.int .i64 n).wf = true) (_ : (Lit.int .i64 b).wf = true) (_ : (Lit.int .i64 m).wf = true) :
    Calls Try.prog 9 #[.int .i64 a, .int .i64 n, .int .i64 b, .int .i64 m] w fun e w' => e = .returned (.bool true) ∧ Below w.heap.size w w' := law a n b m w
end Go.Proofs.Ytdcojgkblfobnaa.Expanded
