/- For all whole numbers: a range that is expanded by another one begins where the first of both begins, and ends where the last of both ends. No condition (outside the law's own guard it returns true at once). The walks. -/
import Derived.Test.YtdcojgkblfobnaaProg
import Derived.Handy
import Derived.Below
import Derived.WalkLawsBesides
import Derived.Deep.RegionHeld3
import Derived.Deep.QuietTactic
import Derived.BigQuiet
namespace Go.Proofs.Ytdcojgkblfobnaa.Expanded
open Go.RowKit
theorem below_drewN {B : Nat} {a w : World} (h : Below B a w) (n : Nat) : Below B a (w.drewN n) := ⟨h.os, h.tape, h.output, h.size, h.block⟩
theorem ret3 {a b c x y z : Int} (h1 : a = x) (h2 : b = y) (h3 : c = z) : Ending.returned (.tuple #[.int .i64 a, .int .i64 b, .int .i64 c]) = .returned (.tuple #[.int .i64 x, .int .i64 y, .int .i64 z]) := by rw [h1, h2, h3]
set_option maxHeartbeats 1000000 in
theorem small4 (a n b m : Int) (w : World) (g : Nat) (ha0 : 0 ≤ a) (ha : a ≤ 536870912) (hn0 : 1 ≤ n) (hn : n ≤ 536870912) (hb0 : 0 ≤ b) (hb : b ≤ 536870912) (hm0 : 1 ≤ m) (hm : m ≤ 536870912)
    (h0 : w.cell? ⟨g, 0, none⟩ = some (.int .i64 a)) (h1 : w.cell? ⟨g, 1, none⟩ = some (.int .i64 n)) (h2 : w.cell? ⟨g, 2, none⟩ = some (.int .i64 b)) (h3 : w.cell? ⟨g, 3, none⟩ = some (.int .i64 m)) :
    Calls Try.prog 48 #[.slice (some ⟨g, 0, none⟩) 4 4] w fun e w' => e = .returned (.bool true) ∧ w = w' := by
  go_enter Try.func48, Try.ntmps48
  go_wp2
  go_rounds 5
  go_ret
  exact ⟨rfl, rfl⟩
theorem end_any (a n : Int) (w : World) (ha0 : 0 ≤ a) (ha : a ≤ 536870912) (hn0 : 1 ≤ n) (hn : n ≤ 1073741824) : Calls Try.prog 50 #[.agg #[.int .i32 a, .int .i32 n]] w fun e w' => e = .returned (.int .i32 (a + n)) ∧ w.alloc (.cells #[.int .i32 a, .int .i32 n] 90) = w' := by
  go_enter Try.func50, Try.ntmps50
  go_wp2
  go_ret
  exact ⟨rfl, rfl⟩
set_option maxHeartbeats 1000000 in
theorem exp_11 (a n b m : Int) (w : World) (ha0 : 0 ≤ a) (ha : a ≤ 536870912) (hn0 : 1 ≤ n) (hn : n ≤ 536870912) (hb0 : 0 ≤ b) (hb : b ≤ 536870912) (hm0 : 1 ≤ m) (hm : m ≤ 536870912) (hc : a + n < b + m) (hd : b < a) :
    Calls Try.prog 25 #[.int .i64 a, .int .i64 n, .int .i64 b, .int .i64 m] w fun e w' => e = .returned (.tuple #[.int .i64 (b), .int .i64 (b + m - b), .int .i64 (b + m)]) ∧ Below w.heap.size w w' := by
  have hn0' : (n == 0) = false := by simp; omega
  go_enter Try.func25, Try.ntmps25
  go_wp2_with (go_at_call 48; refine (small4 a n b m _ _ ha0 ha hn0 hn hb0 hb hm0 hm (by go_simp) (by go_simp) (by go_simp) (by go_simp)).mono ?_; rintro e w' ⟨rfl, rfl⟩)
  go_wp2
  go_quiet (fail)
  go_wp2
  go_region_held3 (fun w' => w'.cell? ⟨w.heap.size + 1, 0, none⟩ = some (.int .i32 (b)) ∧ w'.cell? ⟨w.heap.size + 1, 1, none⟩ = some (.int .i32 (b + m - b))) ((simp [go_sem, World.cell?_alloc_past]; done)) ((go_at_call 50; refine (end_any (b) (b + m - b) _ (by omega) (by omega) (by omega) (by omega)).mono ?_; rintro e w' ⟨rfl, rfl⟩))
  all_goals
    go_wp2
    go_ret3
    refine ⟨ret3 (IntWalk.i64_in _ (by omega)) (IntWalk.i64_in _ (by omega)) ((IntWalk.i64_in _ (by omega)).trans (by omega)), ?_⟩
    repeat (first | exact Below.refl _ _ | refine below_drewN ?_ _ | refine Below.drew ?_ | refine Below.alloc ?_ ?_ _ | refine Below.setCell ?_ ?_ _ | go_size)
set_option maxHeartbeats 1000000 in
theorem exp_10 (a n b m : Int) (w : World) (ha0 : 0 ≤ a) (ha : a ≤ 536870912) (hn0 : 1 ≤ n) (hn : n ≤ 536870912) (hb0 : 0 ≤ b) (hb : b ≤ 536870912) (hm0 : 1 ≤ m) (hm : m ≤ 536870912) (hc : a + n < b + m) (hd : a ≤ b) :
    Calls Try.prog 25 #[.int .i64 a, .int .i64 n, .int .i64 b, .int .i64 m] w fun e w' => e = .returned (.tuple #[.int .i64 (a), .int .i64 (b + m - a), .int .i64 (b + m)]) ∧ Below w.heap.size w w' := by
  have hn0' : (n == 0) = false := by simp; omega
  go_enter Try.func25, Try.ntmps25
  go_wp2_with (go_at_call 48; refine (small4 a n b m _ _ ha0 ha hn0 hn hb0 hb hm0 hm (by go_simp) (by go_simp) (by go_simp) (by go_simp)).mono ?_; rintro e w' ⟨rfl, rfl⟩)
  go_wp2
  go_quiet (fail)
  go_wp2
  go_region_held3 (fun w' => w'.cell? ⟨w.heap.size + 1, 0, none⟩ = some (.int .i32 (a)) ∧ w'.cell? ⟨w.heap.size + 1, 1, none⟩ = some (.int .i32 (b + m - a))) ((simp [go_sem, World.cell?_alloc_past]; done)) ((go_at_call 50; refine (end_any (a) (b + m - a) _ (by omega) (by omega) (by omega) (by omega)).mono ?_; rintro e w' ⟨rfl, rfl⟩))
  all_goals
    go_wp2
    go_ret3
    refine ⟨ret3 (IntWalk.i64_in _ (by omega)) (IntWalk.i64_in _ (by omega)) ((IntWalk.i64_in _ (by omega)).trans (by omega)), ?_⟩
    repeat (first | exact Below.refl _ _ | refine below_drewN ?_ _ | refine Below.drew ?_ | refine Below.alloc ?_ ?_ _ | refine Below.setCell ?_ ?_ _ | go_size)
set_option maxHeartbeats 1000000 in
theorem exp_01 (a n b m : Int) (w : World) (ha0 : 0 ≤ a) (ha : a ≤ 536870912) (hn0 : 1 ≤ n) (hn : n ≤ 536870912) (hb0 : 0 ≤ b) (hb : b ≤ 536870912) (hm0 : 1 ≤ m) (hm : m ≤ 536870912) (hc : b + m ≤ a + n) (hd : b < a) :
    Calls Try.prog 25 #[.int .i64 a, .int .i64 n, .int .i64 b, .int .i64 m] w fun e w' => e = .returned (.tuple #[.int .i64 (b), .int .i64 (a + n - b), .int .i64 (a + n)]) ∧ Below w.heap.size w w' := by
  have hn0' : (n == 0) = false := by simp; omega
  go_enter Try.func25, Try.ntmps25
  go_wp2_with (go_at_call 48; refine (small4 a n b m _ _ ha0 ha hn0 hn hb0 hb hm0 hm (by go_simp) (by go_simp) (by go_simp) (by go_simp)).mono ?_; rintro e w' ⟨rfl, rfl⟩)
  go_wp2
  go_quiet (fail)
  go_wp2
  go_region_held3 (fun w' => w'.cell? ⟨w.heap.size + 1, 0, none⟩ = some (.int .i32 (b)) ∧ w'.cell? ⟨w.heap.size + 1, 1, none⟩ = some (.int .i32 (a + n - b))) ((simp [go_sem, World.cell?_alloc_past]; done)) ((go_at_call 50; refine (end_any (b) (a + n - b) _ (by omega) (by omega) (by omega) (by omega)).mono ?_; rintro e w' ⟨rfl, rfl⟩))
  all_goals
    go_wp2
    go_ret3
    refine ⟨ret3 (IntWalk.i64_in _ (by omega)) (IntWalk.i64_in _ (by omega)) ((IntWalk.i64_in _ (by omega)).trans (by omega)), ?_⟩
    repeat (first | exact Below.refl _ _ | refine below_drewN ?_ _ | refine Below.drew ?_ | refine Below.alloc ?_ ?_ _ | refine Below.setCell ?_ ?_ _ | go_size)
set_option maxHeartbeats 1000000 in
theorem exp_00 (a n b m : Int) (w : World) (ha0 : 0 ≤ a) (ha : a ≤ 536870912) (hn0 : 1 ≤ n) (hn : n ≤ 536870912) (hb0 : 0 ≤ b) (hb : b ≤ 536870912) (hm0 : 1 ≤ m) (hm : m ≤ 536870912) (hc : b + m ≤ a + n) (hd : a ≤ b) :
    Calls Try.prog 25 #[.int .i64 a, .int .i64 n, .int .i64 b, .int .i64 m] w fun e w' => e = .returned (.tuple #[.int .i64 (a), .int .i64 (a + n - a), .int .i64 (a + n)]) ∧ Below w.heap.size w w' := by
  have hn0' : (n == 0) = false := by simp; omega
  go_enter Try.func25, Try.ntmps25
  go_wp2_with (go_at_call 48; refine (small4 a n b m _ _ ha0 ha hn0 hn hb0 hb hm0 hm (by go_simp) (by go_simp) (by go_simp) (by go_simp)).mono ?_; rintro e w' ⟨rfl, rfl⟩)
  go_wp2
  go_quiet (fail)
  go_wp2
  go_region_held3 (fun w' => w'.cell? ⟨w.heap.size + 1, 0, none⟩ = some (.int .i32 (a)) ∧ w'.cell? ⟨w.heap.size + 1, 1, none⟩ = some (.int .i32 (a + n - a))) ((simp [go_sem, World.cell?_alloc_past]; done)) ((go_at_call 50; refine (end_any (a) (a + n - a) _ (by omega) (by omega) (by omega) (by omega)).mono ?_; rintro e w' ⟨rfl, rfl⟩))
  all_goals
    go_wp2
    go_ret3
    refine ⟨ret3 (IntWalk.i64_in _ (by omega)) (IntWalk.i64_in _ (by omega)) ((IntWalk.i64_in _ (by omega)).trans (by omega)), ?_⟩
    repeat (first | exact Below.refl _ _ | refine below_drewN ?_ _ | refine Below.drew ?_ | refine Below.alloc ?_ ?_ _ | refine Below.setCell ?_ ?_ _ | go_size)

theorem exp_any (a n b m : Int) (w : World) (ha0 : 0 ≤ a) (ha : a ≤ 536870912) (hn0 : 1 ≤ n) (hn : n ≤ 536870912) (hb0 : 0 ≤ b) (hb : b ≤ 536870912) (hm0 : 1 ≤ m) (hm : m ≤ 536870912) :
    Calls Try.prog 25 #[.int .i64 a, .int .i64 n, .int .i64 b, .int .i64 m] w fun e w' => ∃ s z : Int, e = .returned (.tuple #[.int .i64 s, .int .i64 (z - s), .int .i64 z]) ∧ s = min a b ∧ z = max (a + n) (b + m) ∧ Below w.heap.size w w' := by
  by_cases hc : a + n < b + m
  · by_cases hd : b < a
    · exact (exp_11 a n b m w ha0 ha hn0 hn hb0 hb hm0 hm hc hd).mono fun e w' h => ⟨_, _, h.1, by omega, by omega, h.2⟩
    · exact (exp_10 a n b m w ha0 ha hn0 hn hb0 hb hm0 hm hc (by omega)).mono fun e w' h => ⟨_, _, h.1, by omega, by omega, h.2⟩
  · by_cases hd : b < a
    · exact (exp_01 a n b m w ha0 ha hn0 hn hb0 hb hm0 hm (by omega) hd).mono fun e w' h => ⟨_, _, h.1, by omega, by omega, h.2⟩
    · exact (exp_00 a n b m w ha0 ha hn0 hn hb0 hb hm0 hm (by omega) (by omega)).mono fun e w' h => ⟨_, _, h.1, by omega, by omega, h.2⟩
end Go.Proofs.Ytdcojgkblfobnaa.Expanded
