/- impl.calm and impl.DecodeVLQ: a deferred recover, a closure called. The walk. -/
import Derived.Test.YtdcojgkblfobnaaVlqD
namespace Go.Proofs.Ytdcojgkblfobnaa.Vlq
open Go.RowKit Go.Proofs.Ytdcojgkblfobnaa.Aid
theorem catch_idle (p : Addr) (w : World) :
    CallsD Try.prog 70 #[.pointer (some p)] .returning w fun e u' w' => e = .returned (.tuple #[]) ∧ u' = .returning ∧ w' = w := by
  refine callsD_of_wpS Try.func70 rfl fun c₀ cs hu => ?_
  apply wpS_seq
  apply wpS_region
  simp [wpOpsS, go_sem, recoverD, hu, Try.ntmps70, Exit.thenS]
  refine wpS_cond (t := false) (by simp [Act.eval, Array.replicate]) ?_
  simp only [Bool.false_eq_true, if_false]
  refine wpS_of_wp (wp_skip ?_)
  cases c₀
  simp_all [bodyPostS, results, Try.results70]
set_option maxRecDepth 100000 in
set_option maxHeartbeats 1000000 in
theorem calm (caps : Array Value) (R : World → Prop) (w : World)
    (h : Calls Try.prog 56 caps (w.alloc (.cells #[.bool false] 4)) fun e w' => e = .returned (.tuple #[]) ∧ R w')
    (hR : ∀ w', R w' → w'.cell? ⟨w.heap.size, 0, none⟩ = some (.bool false) ∧ w'.frozen? ⟨w.heap.size, 0, none⟩ = false) :
    Calls Try.prog 55 #[.func (.func 56) #[] caps] w fun e w' => e = .returned (.bool true) ∧ ∃ w2, R w2 ∧ w' = w2.setCell ⟨w.heap.size, 0, none⟩ (.bool true) := by
  have hmf : ∀ (fn : Fn) (first cap : Array Value) (w : World), (Instr.makeFunc fn first cap).run Try.prog w = .ok (.func fn first cap) w := fun _ _ _ _ => rfl
  have HR := Lib.hid hR
  have H := Lib.hid h
  clear h hR
  go_enter_defers Try.func55, Try.ntmps55
  go_wp2_with fail
  refine (H.out).mono ?_
  rintro e w2 ⟨rfl, hr⟩
  obtain ⟨c0, f0⟩ := HR.out w2 hr
  have HRR := Lib.hid hr
  clear hr
  go_wp2_with fail
  refine leaves_cons (f := 70) (args := #[.pointer (some ⟨w.heap.size, 0, none⟩)]) (by simp) (by simp [go_sem]) ?_
  refine (catch_idle ⟨w.heap.size, 0, none⟩ _).mono ?_
  rintro e u' w'' ⟨rfl, rfl, rfl⟩
  have d0 := World.cell?_setCell_same w2 _ (.bool true) c0
  simp [Leaves, settle, results, Try.results55, go_sem, d0]
  exact ⟨w2, HRR.out, rfl⟩
/-- The closure, called within calm, over the four boxes. -/
theorem calmed (b n c s v : Nat) (l : List UInt8) (w : World) (hbw : b < w.heap.size)
    (hl : l.length = n) (hn : n ≤ 1000000) (hv : v < 4294967296) (hs : s + (enc v).length ≤ n) (hs0 : s < n)
    (hr : ∀ j x, (cellsOf l)[j]? = some x → w.cell? ((⟨b, 0, none⟩ : Addr).add j) = some x)
    (hd : ∀ j d, (enc v)[j]? = some d → l[s + j]? = some (alpha d)) :
    Calls Try.prog 55 #[.func (.func 56) #[] #[.pointer (some ⟨w.heap.size, 0, none⟩), .pointer (some ⟨w.heap.size + 1, 0, none⟩), .pointer (some ⟨w.heap.size + 1 + 1, 0, none⟩), .pointer (some ⟨w.heap.size + 1 + 1 + 1, 0, none⟩)]]
      ((((w.alloc (.cells #[.slice (some ⟨b, 0, none⟩) n c] 55)).alloc (.cells #[.int .i64 s] 3)).alloc (.cells #[.int .i64 0] 3)).alloc (.cells #[.int .i64 0] 3))
      fun e w' => e = .returned (.bool true) ∧ Below w.heap.size w w' ∧ w'.cell? ⟨w.heap.size + 1 + 1, 0, none⟩ = some (.int .i64 (unsign v)) ∧ w'.cell? ⟨w.heap.size + 1 + 1 + 1, 0, none⟩ = some (.int .i64 ((s + (enc v).length : Nat) : Int)) ∧ w'.frozen? ⟨w.heap.size + 1 + 1, 0, none⟩ = false ∧ w'.frozen? ⟨w.heap.size + 1 + 1 + 1, 0, none⟩ = false := by
  obtain ⟨W, hW⟩ : ∃ W, W = ((((w.alloc (.cells #[.slice (some ⟨b, 0, none⟩) n c] 55)).alloc (.cells #[.int .i64 s] 3)).alloc (.cells #[.int .i64 0] 3)).alloc (.cells #[.int .i64 0] 3)) := ⟨_, rfl⟩
  have hsz : W.heap.size = w.heap.size + 4 := by rw [hW]; simp
  have hB : Below w.heap.size w W := by rw [hW]; exact below_at (((below_at (Below.refl _ w) _).alloc (by simp) _).alloc (by simp; omega) _) _
  have k0 : Blk W w.heap.size 55 [.slice (some ⟨b, 0, none⟩) n c] := by rw [hW]; exact (((Blk.new w _ _).alloc _).alloc _).alloc _
  have k1 : Blk W (w.heap.size + 1) 3 [.int .i64 s] := by rw [hW]; simpa using ((Blk.new (w.alloc (.cells #[.slice (some ⟨b, 0, none⟩) n c] 55)) 3 [.int .i64 s]).alloc (.cells #[.int .i64 0] 3)).alloc (.cells #[.int .i64 0] 3)
  have k2 : Blk W (w.heap.size + 1 + 1) 3 [.int .i64 0] := by rw [hW]; simpa using (Blk.new ((w.alloc (.cells #[.slice (some ⟨b, 0, none⟩) n c] 55)).alloc (.cells #[.int .i64 s] 3)) 3 [.int .i64 0]).alloc (.cells #[.int .i64 0] 3)
  have k3 : Blk W (w.heap.size + 1 + 1 + 1) 3 [.int .i64 0] := by rw [hW]; simpa using Blk.new (((w.alloc (.cells #[.slice (some ⟨b, 0, none⟩) n c] 55)).alloc (.cells #[.int .i64 s] 3)).alloc (.cells #[.int .i64 0] 3)) 3 [.int .i64 0]
  rw [← hW]
  clear hW
  obtain ⟨V, hV⟩ : ∃ V, V = W.alloc (.cells #[.bool false] 4) := ⟨_, rfl⟩
  have vsz : V.heap.size = w.heap.size + 5 := by rw [hV]; simp [hsz]
  have hBV : Below w.heap.size w V := by rw [hV]; exact hB.alloc (by omega) _
  have v0 : Blk V w.heap.size 55 [.slice (some ⟨b, 0, none⟩) n c] := by rw [hV]; exact k0.alloc _
  have v1 : Blk V (w.heap.size + 1) 3 [.int .i64 s] := by rw [hV]; exact k1.alloc _
  have v2 : Blk V (w.heap.size + 1 + 1) 3 [.int .i64 0] := by rw [hV]; exact k2.alloc _
  have v3 : Blk V (w.heap.size + 1 + 1 + 1) 3 [.int .i64 0] := by rw [hV]; exact k3.alloc _
  have v4 : Blk V W.heap.size 4 [.bool false] := by rw [hV]; exact Blk.new W 4 [.bool false]
  refine (calm _ (fun w' => ∃ w1, Below V.heap.size V w1 ∧ w' = (w1.setCell ⟨w.heap.size + 2, 0, none⟩ (.int .i64 (unsign v))).setCell ⟨w.heap.size + 3, 0, none⟩ (.int .i64 ((s + (enc v).length : Nat) : Int))) W ?_ ?_).mono ?_
  · rw [← hV]
    refine closure w.heap.size b n c s v l V (by omega) hbw (v0.get 0 rfl) (v1.get 0 rfl) (v2.get 0 rfl) (v3.get 0 rfl) (v2.frozen 0) (v3.frozen 0) hl hn hv hs hs0 (fun j x h => ?_) hd
    have := hr j x h
    rw [add_at] at this ⊢
    exact bcell hBV hbw this
  · rintro w' ⟨w1, hb1, rfl⟩
    have u4 := ((v4.below hb1 (by omega)).far (p := ⟨w.heap.size + 2, 0, none⟩) (by simp; omega) (.int .i64 (unsign v))).far (p := ⟨w.heap.size + 3, 0, none⟩) (by simp; omega) (.int .i64 ((s + (enc v).length : Nat) : Int))
    exact ⟨u4.get 0 rfl, u4.frozen 0⟩
  · rintro e w' ⟨rfl, w2, ⟨w1, hb1, rfl⟩, rfl⟩
    have u2 := (((v2.below hb1 (by omega)).set_ 0 (.int .i64 (unsign v))).far (p := ⟨w.heap.size + 3, 0, none⟩) (by simp) (.int .i64 ((s + (enc v).length : Nat) : Int))).far (p := ⟨W.heap.size, 0, none⟩) (by simp; omega) (.bool true)
    have u3 := (((v3.below hb1 (by omega)).far (p := ⟨w.heap.size + 2, 0, none⟩) (by simp) (.int .i64 (unsign v))).set_ 0 (.int .i64 ((s + (enc v).length : Nat) : Int))).far (p := ⟨W.heap.size, 0, none⟩) (by simp; omega) (.bool true)
    refine ⟨rfl, ?_, u2.get 0 rfl, u3.get 0 rfl, u2.frozen 0, u3.frozen 0⟩
    exact (((hBV.trans (hb1.mono (by omega))).setCell (p := ⟨w.heap.size + 2, 0, none⟩) (by simp) _).setCell (p := ⟨w.heap.size + 3, 0, none⟩) (by simp) _).setCell (p := ⟨W.heap.size, 0, none⟩) (by simp; omega) _
set_option maxRecDepth 100000 in
set_option maxHeartbeats 1000000 in
theorem implDecode (b n c s v : Nat) (l : List UInt8) (w : World) (hbw : b < w.heap.size)
    (hl : l.length = n) (hn : n ≤ 1000000) (hv : v < 4294967296) (hs : s + (enc v).length ≤ n) (hs0 : s < n)
    (hr : ∀ j x, (cellsOf l)[j]? = some x → w.cell? ((⟨b, 0, none⟩ : Addr).add j) = some x)
    (hd : ∀ j d, (enc v)[j]? = some d → l[s + j]? = some (alpha d)) :
    Calls Try.prog 30 #[.slice (some ⟨b, 0, none⟩) n c, .int .i64 s] w fun e w' => e = .returned (.tuple #[.int .i64 (unsign v), .int .i64 ((s + (enc v).length : Nat) : Int)]) ∧ Below w.heap.size w w' := by
  have hmf : ∀ (fn : Fn) (first cap : Array Value) (w : World), (Instr.makeFunc fn first cap).run Try.prog w = .ok (.func fn first cap) w := fun _ _ _ _ => rfl
  have H := Lib.hid (calmed b n c s v l w hbw hl hn hv hs hs0 hr hd)
  obtain ⟨r, hrr⟩ : ∃ r : Int, ((s + (enc v).length : Nat) : Int) = r := ⟨_, rfl⟩
  rw [hrr] at H ⊢
  clear hr hd hl hs hrr
  go_enter Try.func30, Try.ntmps30
  go_wp2_with fail
  refine (H.out).mono ?_
  rintro e w1 ⟨rfl, hb1, d2, d3, f2, f3⟩
  have HB := Lib.hid hb1
  clear hb1
  go_wp2_with fail
  go_region
  all_goals
    go_wp2_with fail
    have z2 : ((w1.setCell ⟨w.heap.size + 1 + 1, 0, none⟩ (.int .i64 (unsign v))).setCell ⟨w.heap.size + 1 + 1 + 1, 0, none⟩ (.int .i64 r)).drew.cell? ⟨w.heap.size + 1 + 1, 0, none⟩ = some (.int .i64 (unsign v)) := by simp [go_sem, d2]
    have z3 : ((w1.setCell ⟨w.heap.size + 1 + 1, 0, none⟩ (.int .i64 (unsign v))).setCell ⟨w.heap.size + 1 + 1 + 1, 0, none⟩ (.int .i64 r)).drew.cell? ⟨w.heap.size + 1 + 1 + 1, 0, none⟩ = some (.int .i64 r) := by simp [go_sem, d3]
    refine bodyPost_ret (v := .tuple #[.int .i64 (unsign v), .int .i64 r]) (by simp [results, Try.results30, z2, z3, go_sem]) rfl ?_
    exact ⟨rfl, ((HB.out.setCell (p := ⟨w.heap.size + 1 + 1, 0, none⟩) (by simp; omega) _).setCell (p := ⟨w.heap.size + 1 + 1 + 1, 0, none⟩) (by simp; omega) _).drew⟩
end Go.Proofs.Ytdcojgkblfobnaa.Vlq
