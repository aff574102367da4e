/- impl.calm: a deferred recover, a closure called. The walk. -/
import Derived.Test.YtobhlppdolekoaaAid
import Derived.Test.YtobhlppdolekoaaAddB
import Derived.Recover
namespace Go.Proofs.Ytobhlppdolekoaa.Ch
open Go.RowKit Go.Proofs.Ytobhlppdolekoaa.Aid
theorem catch_idle (p : Addr) (w : World) :
    CallsD Try.prog 37 #[.pointer (some p)] .returning w fun e u' w' => e = .returned (.tuple #[]) ∧ u' = .returning ∧ w' = w := by
  refine callsD_of_wpS Try.func37 rfl fun c₀ cs hu => ?_
  apply wpS_seq
  apply wpS_region
  simp [wpOpsS, go_sem, recoverD, hu, Try.ntmps37, Exit.thenS]
  refine wpS_cond (t := false) (by simp [Act.eval, Array.replicate]) ?_
  simp only [Bool.false_eq_true, if_false]
  refine wpS_of_wp (wp_skip ?_)
  cases c₀
  simp_all [bodyPostS, results, Try.results37]
set_option maxRecDepth 100000 in
set_option maxHeartbeats 1000000 in
theorem calm (caps : Array Value) (R : World → Prop) (w : World)
    (h : Calls Try.prog 26 caps (w.alloc (.cells #[.bool false] 4)) fun e w' => e = .returned (.tuple #[]) ∧ R w')
    (hR : ∀ w', R w' → w'.cell? ⟨w.heap.size, 0, none⟩ = some (.bool false) ∧ w'.frozen? ⟨w.heap.size, 0, none⟩ = false) :
    Calls Try.prog 25 #[.func (.func 26) #[] caps] w fun e w' => e = .returned (.bool true) ∧ ∃ w2, R w2 ∧ w' = w2.setCell ⟨w.heap.size, 0, none⟩ (.bool true) := by
  have hmf : ∀ (fn : Fn) (first cap : Array Value) (w : World), (Instr.makeFunc fn first cap).run Try.prog w = .ok (.func fn first cap) w := fun _ _ _ _ => rfl
  have HR := Lib.hid hR
  have H := Lib.hid h
  clear h hR
  go_enter_defers Try.func25, Try.ntmps25
  go_wp2_with fail
  refine (H.out).mono ?_
  rintro e w2 ⟨rfl, hr⟩
  obtain ⟨c0, f0⟩ := HR.out w2 hr
  have HRR := Lib.hid hr
  clear hr
  go_wp2_with fail
  refine leaves_cons (f := 37) (args := #[.pointer (some ⟨w.heap.size, 0, none⟩)]) (by simp) (by simp [go_sem]) ?_
  refine (catch_idle ⟨w.heap.size, 0, none⟩ _).mono ?_
  rintro e u' w'' ⟨rfl, rfl, rfl⟩
  have d0 := World.cell?_setCell_same w2 _ (.bool true) c0
  simp [Leaves, settle, results, Try.results25, go_sem, d0]
  exact ⟨w2, HRR.out, rfl⟩
end Go.Proofs.Ytobhlppdolekoaa.Ch
