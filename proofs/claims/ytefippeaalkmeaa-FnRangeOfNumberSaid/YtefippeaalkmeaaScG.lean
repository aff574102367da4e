/- The reference's classes of code points. The walks. -/
import Derived.Test.YtefippeaalkmeaaScE
namespace Go.Proofs.Ytefippeaalkmeaa.Scan
open Go.RowKit Go.Proofs.Ytefippeaalkmeaa.Aid Go.Proofs.Ytefippeaalkmeaa.Runes Go.Proofs.Ytefippeaalkmeaa.Bytes Go.Proofs.Ytefippeaalkmeaa.Nats
attribute [local go_sem ↓] Go.wp_at_zero Go.wp_at_succ
set_option linter.unusedVariables false
def SomeBool (w : World) (e : Ending) (w' : World) : Prop := (∃ B, e = .returned (.bool B)) ∧ w' = w
def SomeInt (w : World) (e : Ending) (w' : World) : Prop := (∃ B : Int, e = .returned (.int .i64 B)) ∧ w' = w
set_option maxRecDepth 100000 in
theorem btw_any (a n b : Int) (w : World) : Calls Try.prog 29 #[.int .i64 a, .int .i64 n, .int .i64 b] w (SomeBool w) := by
  go_enter Try.func29, Try.ntmps29
  go_wp2_with fail
  all_goals
    go_returns
    exact ⟨⟨_, rfl⟩, rfl⟩
set_option maxRecDepth 100000 in
theorem lineEnd_any (r : Nat) (w : World) : Calls Try.prog 18 #[.int .i64 r] w (SomeBool w) := by
  go_enter Try.func18, Try.ntmps18
  go_wp2_with fail
  all_goals
    go_returns
    exact ⟨⟨_, rfl⟩, rfl⟩
set_option maxRecDepth 100000 in
theorem blank_any (r : Nat) (w : World) : Calls Try.prog 19 #[.int .i64 r] w (SomeBool w) := by
  have HB := Lib.hid (fun a n b w => btw_any a n b w)
  go_enter Try.func19, Try.ntmps19
  go_wp2_with fail
  all_goals
    first
    | (go_returns; exact ⟨⟨_, rfl⟩, rfl⟩)
    | (refine (HB.out _ _ _ _).mono ?_
       rintro e w' ⟨⟨B, rfl⟩, rfl⟩
       go_wp2_with fail
       go_returns
       exact ⟨⟨_, rfl⟩, rfl⟩)
set_option maxRecDepth 100000 in
theorem latin_any (r : Nat) (w : World) : Calls Try.prog 37 #[.int .i64 r] w (SomeInt w) := by
  go_enter Try.func37, Try.ntmps37
  go_wp2_with fail
  all_goals
    go_returns
    exact ⟨⟨_, rfl⟩, rfl⟩
set_option maxRecDepth 100000 in
set_option maxHeartbeats 8000000 in
theorem wide_any (r : Nat) (w : World) : Calls Try.prog 38 #[.int .i64 r] w (SomeInt w) := by
  have HB := Lib.hid (fun a n b w => btw_any a n b w)
  have HL := Lib.hid (fun w => lineEnd_any r w)
  have HK := Lib.hid (fun w => blank_any r w)
  go_enter Try.func38, Try.ntmps38
  go_wp2_with fail
  repeat' (first
    | (go_returns; exact ⟨⟨_, rfl⟩, rfl⟩)
    | (refine (HB.out _ _ _ _).mono ?_
       rintro e w' ⟨⟨B, rfl⟩, rfl⟩
       cases B
       all_goals go_wp2_with fail)
    | (refine (HL.out _).mono ?_
       rintro e w' ⟨⟨B, rfl⟩, rfl⟩
       cases B
       all_goals go_wp2_with fail)
    | (refine (HK.out _).mono ?_
       rintro e w' ⟨⟨B, rfl⟩, rfl⟩
       cases B
       all_goals go_wp2_with fail))
set_option maxRecDepth 100000 in
set_option maxHeartbeats 8000000 in
theorem inName_any (r : Nat) (w : World) : Calls Try.prog 23 #[.int .i64 r] w (SomeInt w) := by
  have HB := Lib.hid (fun a n b w => btw_any a n b w)
  have HD := Lib.hid (fun w => digit_walk r w)
  obtain ⟨D, hD⟩ : ∃ D, D = isDig r := ⟨_, rfl⟩
  rw [← hD] at HD
  clear hD
  have HL := Lib.hid (fun w => latin_any r w)
  have HK := Lib.hid (fun w => wide_any r w)
  go_enter Try.func23, Try.ntmps23
  go_wp2_with fail
  repeat' (first
    | (go_returns; exact ⟨⟨_, rfl⟩, rfl⟩)
    | (refine (HB.out _ _ _ _).mono ?_
       rintro e w' ⟨⟨B, rfl⟩, rfl⟩
       cases B
       all_goals go_wp2_with fail)
    | (refine (HD.out _).mono ?_
       rintro e w' ⟨rfl, rfl⟩
       cases D
       all_goals go_wp2_with fail)
    | (refine (HL.out _).mono ?_
       rintro e w' ⟨⟨B, rfl⟩, rfl⟩
       go_wp2_with fail)
    | (refine (HK.out _).mono ?_
       rintro e w' ⟨⟨B, rfl⟩, rfl⟩
       go_wp2_with fail))
end Go.Proofs.Ytefippeaalkmeaa.Scan
