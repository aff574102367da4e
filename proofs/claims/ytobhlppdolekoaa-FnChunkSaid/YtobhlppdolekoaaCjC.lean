/- impl.chunk. The walk. -/
import Derived.Test.YtobhlppdolekoaaCjB
import Derived.Test.YtobhlppdolekoaaChU
namespace Go.Proofs.Ytobhlppdolekoaa.Ch
open Go.RowKit Go.Proofs.Ytobhlppdolekoaa.Aid Go.Proofs.Ytobhlppdolekoaa.Bytes Go.Proofs.Ytobhlppdolekoaa.Runes Go.Proofs.Ytobhlppdolekoaa.Wtf
attribute [local go_sem ↓] Go.wp_at_zero Go.wp_at_succ
set_option linter.unusedVariables false
set_option linter.unusedSimpArgs false
theorem Fin.moved {w w' : World} {src out : ByteArray} {ms : List Mk} {asc : Bool} {B bm : Nat} {a : Ab} {v qv : Value} {ns : List ByteArray} {E : List Mp} {n0 : Nat} (h : Fin w src out ms asc B bm a v qv ns E n0) {b : Nat} {t : TypeId} {cs : List Value} (hb : Blk w b t cs) (h5 : t ≠ 5) (h25 : t ≠ 25) (g6 : w.grownBy w' (some b)) : Fin w' src out ms asc B bm a v qv ns E n0 := by
  obtain ⟨f1, f2, f3, f4, f5, f6, f7, f8, f9, f10, f11, f12⟩ := h
  exact ⟨f1.kept g6 (.inr fun e => own_ne f1 hb (Ne.symm h5) e.symm), f2.cells hb h5 h25 g6, f3, f4, f5, f6, f7, f8, f9, f10, f11, f12⟩
def zeros12 : List Value := [.slice none 0 0, .int .u32 0, .slice none 0 0, .int .i64 0, .int .i64 0, .int .i64 0, .int .i64 0, .int .i64 0, .int .i64 0, .bool false, .int .i64 0, .bool false]
set_option maxRecDepth 100000 in
set_option maxHeartbeats 8000000 in
theorem chunk (src out : ByteArray) (ms : List Mk) (asc : Bool) (A : Option Addr) (cm : Nat) (w : World) (hm : Marks w A ms) (hf : MFit src out ms) :
    Calls Try.prog 16 #[.string src, .string out, .slice A ms.length cm, .bool asc] w fun e w' => ∃ B bm a v qv fo z ns E n0, e = .returned (.tuple #[.agg (chunkCells a v qv fo z).toArray, .bool true]) ∧ Fin w' src out ms asc B bm a v qv ns E n0 ∧ w.heap.size ≤ B ∧ Below w.heap.size w w' := by
  have HM := Lib.hid hm
  have HF := Lib.hid hf
  have hf' := hf
  clear hm hf
  have hn5 : ms.length ≤ 500 := hf'.len
  obtain ⟨n, hn⟩ : ∃ n, n = ms.length := ⟨_, rfl⟩
  rw [← hn] at hn5 ⊢
  have HN := Lib.hid hn
  clear hn hf'
  have hmf : ∀ (fn : Fn) (first cap : Array Value) (w : World), (Instr.makeFunc fn first cap).run Try.prog w = .ok (.func fn first cap) w := fun _ _ _ _ => rfl
  go_enter Try.func16, Try.ntmps16
  go_upto_region 1 with fail
  obtain ⟨W, hW⟩ : ∃ W, W = (((((w.alloc (.cells #[.string src] 9)).alloc (.cells #[.string out] 9)).alloc (.cells #[.slice A n cm] 22)).alloc (.cells #[.bool asc] 4)).alloc (.cells #[.slice none 0 0, .int .u32 0, .slice none 0 0, .int .i64 0, .int .i64 0, .int .i64 0, .int .i64 0, .int .i64 0, .int .i64 0, .bool false, .int .i64 0, .bool false] 60)) := ⟨_, rfl⟩
  rw [← hW]
  have K0 : Blk W w.heap.size 9 [.string src] := by rw [hW]; exact ((((Blk.new w 9 [.string src]).alloc _).alloc _).alloc _).alloc _
  have K1 : Blk W (w.heap.size + 1) 9 [.string out] := by
    rw [hW]
    have := Blk.new (w.alloc (.cells #[.string src] 9)) 9 [.string out]
    rw [show (w.alloc (.cells #[.string src] 9)).heap.size = w.heap.size + 1 by simp] at this
    exact ((this.alloc _).alloc _).alloc _
  have K2 : Blk W (w.heap.size + 1 + 1) 22 [.slice A n cm] := by
    rw [hW]
    have := Blk.new ((w.alloc (.cells #[.string src] 9)).alloc (.cells #[.string out] 9)) 22 [.slice A n cm]
    rw [show ((w.alloc (.cells #[.string src] 9)).alloc (.cells #[.string out] 9)).heap.size = w.heap.size + 1 + 1 by simp] at this
    exact (this.alloc _).alloc _
  have K3 : Blk W (w.heap.size + 1 + 1 + 1) 4 [.bool asc] := by
    rw [hW]
    have := Blk.new (((w.alloc (.cells #[.string src] 9)).alloc (.cells #[.string out] 9)).alloc (.cells #[.slice A n cm] 22)) 4 [.bool asc]
    rw [show (((w.alloc (.cells #[.string src] 9)).alloc (.cells #[.string out] 9)).alloc (.cells #[.slice A n cm] 22)).heap.size = w.heap.size + 1 + 1 + 1 by simp] at this
    exact this.alloc _
  have K4 : Blk W (w.heap.size + 1 + 1 + 1 + 1) 60 zeros12 := by
    rw [hW]
    have := Blk.new ((((w.alloc (.cells #[.string src] 9)).alloc (.cells #[.string out] 9)).alloc (.cells #[.slice A n cm] 22)).alloc (.cells #[.bool asc] 4)) 60 zeros12
    rw [show ((((w.alloc (.cells #[.string src] 9)).alloc (.cells #[.string out] 9)).alloc (.cells #[.slice A n cm] 22)).alloc (.cells #[.bool asc] 4)).heap.size = w.heap.size + 1 + 1 + 1 + 1 by simp] at this
    exact this
  have BW : Below w.heap.size w W := by rw [hW]; exact below_at (below_at (below_at (below_at (below_at (Below.refl _ _) _) _) _) _) _
  clear hW
  obtain ⟨q0, hq0⟩ : ∃ q, q = w.heap.size := ⟨_, rfl⟩
  obtain ⟨q1, hq1⟩ : ∃ q, q = w.heap.size + 1 := ⟨_, rfl⟩
  obtain ⟨q2, hq2⟩ : ∃ q, q = w.heap.size + 1 + 1 := ⟨_, rfl⟩
  obtain ⟨q3, hq3⟩ : ∃ q, q = w.heap.size + 1 + 1 + 1 := ⟨_, rfl⟩
  obtain ⟨q4, hq4⟩ : ∃ q, q = w.heap.size + 1 + 1 + 1 + 1 := ⟨_, rfl⟩
  have hqw : w.heap.size ≤ q4 := by omega
  rw [← hq4, ← hq3, ← hq2, ← hq1]
  rw [← hq4] at K4
  rw [← hq3] at K3
  rw [← hq2] at K2
  rw [← hq1] at K1
  rw [show (w.heap.size : Nat) = q0 from hq0.symm] at K0 ⊢
  have HK0 := Lib.hid K0
  have HK1 := Lib.hid K1
  have HK2 := Lib.hid K2
  have HK3 := Lib.hid K3
  have HK4 := Lib.hid K4
  have HBW := Lib.hid BW
  have c6 : W.cell? ⟨q2, 0, none⟩ = some (.slice A n cm) := K2.get 0 rfl
  clear hq0 hq1 hq2 hq3 hq4 K0 K1 K2 K3 K4 BW
  go_wp2_with fail
  go_loopg [14] n (fun m iv wr => ∃ i : Nat, i + m = n ∧ iv = .int .i64 i ∧ Hid (Below W.heap.size W wr))
  case atStart => exact ⟨0, by omega, rfl, Lib.hid (Below.refl _ _)⟩
  case round =>
    obtain ⟨i, him, rfl, HB⟩ := hrel
    by_cases hlt : i < n
    · obtain ⟨k, hk⟩ : ∃ k, ms[i]? = some k := ⟨_, List.getElem?_eq_getElem (by rw [← HN.out]; exact hlt)⟩
      obtain ⟨b, o, hA, hb, m0, m1, m2⟩ := (HM.out.below HBW.out).below HB.out i k hk
      subst hA
      obtain ⟨f1, f2, f3, f4, f5, f6⟩ := HF.out.each k (List.mem_of_getElem? hk)
      have hlt' : (i : Int) < n := by omega
      have a0 : ¬ (k.at : Int) < 0 := by omega
      have a1 : ¬ (out.size : Int) < (k.at : Int) := by omega
      have a2 : ¬ (k.loc : Int) < 0 := by omega
      have a3 : ¬ (src.size : Int) < (k.loc : Int) := by omega
      clear hk f2 f4 f5 f6
      go_upto_region 4 with fail
      obtain ⟨W1, hW1⟩ : ∃ W1, W1 = wr.alloc (.cells #[.int .i64 k.at, .int .i64 k.loc, .string k.name] 45) := ⟨_, rfl⟩
      have b1 : Below wr.heap.size wr W1 := by rw [hW1]; exact below_at (Below.refl _ _) _
      have k7 : Blk W1 wr.heap.size 45 [.int .i64 k.at, .int .i64 k.loc, .string k.name] := by rw [hW1]; exact Blk.new wr 45 [.int .i64 k.at, .int .i64 k.loc, .string k.name]
      rw [← hW1]
      clear hW1 m0 m1 m2
      have HB1 := Lib.hid (up HB.out b1)
      obtain ⟨b7, hb7⟩ : ∃ b7, b7 = wr.heap.size := ⟨_, rfl⟩
      rw [← hb7] at k7 ⊢
      clear hb7 b1 hb
      have e0 : W1.cell? ⟨b7, 0, none⟩ = some (.int .i64 k.at) := k7.get 0 rfl
      have e1 : W1.cell? ⟨b7, 1, none⟩ = some (.int .i64 k.loc) := k7.get 1 rfl
      have e2 : W1.cell? ⟨q0, 0, none⟩ = some (.string src) := (HK0.out.below HB1.out HK0.out.lt).get 0 rfl
      have e3 : W1.cell? ⟨q1, 0, none⟩ = some (.string out) := (HK1.out.below HB1.out HK1.out.lt).get 0 rfl
      clear k7
      go_wp2_with fail
      go_roundg (n - (i + 1))
      case rel => exact ⟨i + 1, by omega, rfl, HB1⟩
      case measure => omega
    · have hii : ¬ (i : Int) < n := by omega
      go_upto_region 7 with fail
      obtain ⟨wa, hwa⟩ : ∃ wa, wa = wr.alloc (.cells #[.bool false] 4) := ⟨_, rfl⟩
      have ba : Below wr.heap.size wr wa := by rw [hwa]; exact below_at (Below.refl _ _) _
      have KA : Blk wa wr.heap.size 4 [.bool false] := by rw [hwa]; exact Blk.new wr 4 [.bool false]
      have hBa : Below W.heap.size W wa := up HB.out ba
      have HBA : Hid (Below w.heap.size w wr) := Lib.hid (up HBW.out HB.out)
      have g4lt : q4 < wr.heap.size := Nat.lt_of_lt_of_le HK4.out.lt HB.out.size
      have HC : Hid _ := Lib.hid (closure src out ms asc q0 q3 q2 q1 q4 zeros12 wa HF.out.srcs HF.out.wsrc ((HK0.out.below hBa HK0.out.lt).get 0 rfl) (HK0.out.below hBa HK0.out.lt).lt ((HK3.out.below hBa HK3.out.lt).get 0 rfl) (HK3.out.below hBa HK3.out.lt).lt A cm (by rw [← HN.out]; exact (HK2.out.below hBa HK2.out.lt).get 0 rfl) (HK2.out.below hBa HK2.out.lt).lt ((HK1.out.below hBa HK1.out.lt).get 0 rfl) (HK1.out.below hBa HK1.out.lt).lt (HM.out.below (up HBW.out hBa)) HF.out (HK4.out.below hBa HK4.out.lt) rfl)
      have HCALM : Hid _ := Lib.hid (calm #[.pointer (some ⟨q0, 0, none⟩), .pointer (some ⟨q3, 0, none⟩), .pointer (some ⟨q2, 0, none⟩), .pointer (some ⟨q1, 0, none⟩), .pointer (some ⟨q4, 0, none⟩)]
        (fun w' => ∃ B bm a v qv fo z ns E n0, Done wa w' q4 src out ms asc B bm a v qv fo z ns E n0) wr (by rw [← hwa]; exact HC.out) (fun w' h => by
          obtain ⟨B, bm, a, v, qv, fo, z, ns, E, n0, h⟩ := h
          have hb : Blk w' wr.heap.size 4 [.bool false] := KA.grown h.keep (by intro e; injection e with e; omega)
          exact ⟨hb.get 0 rfl, hb.frozen 0⟩))
      go_wp2_with fail
      refine (HCALM.out).mono ?_
      rintro e w' ⟨rfl, w2, ⟨B, bm, a, v, qv, fo, z, ns, E, n0, hd⟩, rfl⟩
      have hb : Blk w2 wr.heap.size 4 [.bool false] := KA.grown hd.keep (by intro e; injection e with e; omega)
      obtain ⟨w3, hw3⟩ : ∃ w3, w3 = w2.setCell ⟨wr.heap.size, 0, none⟩ (.bool true) := ⟨_, rfl⟩
      have g3 : w2.grownBy w3 (some wr.heap.size) := by rw [hw3]; exact only_setCell (World.grownBy.refl _ _) (.inl rfl) _
      have k3 : Hid (Blk w3 q4 60 (chunkCells a v qv fo z)) := Lib.hid (hd.chunk.grown g3 (by intro e; injection e with e; omega))
      have HFIN : Hid (Fin w3 src out ms asc B bm a v qv ns E n0) := Lib.hid (hd.fin.moved hb (by decide) (by decide) g3)
      have HBB : Hid (w.heap.size ≤ B) := Lib.hid (by have := hd.big; have := HBA.out.size; have := ba.size; omega)
      have HB3 : Hid (Below w.heap.size w w3) := Lib.hid (by
        have hB2 : Below w.heap.size w w2 := below_of_only (up HBA.out ba) (by have := HBA.out.size; have := ba.size; omega) hd.keep (fun k hk => by injection hk with hk; omega)
        exact below_of_only hB2 hB2.size g3 (fun k hk => by injection hk with hk; have := HBA.out.size; omega))
      have hone := Lib.hid (chunk_one a v qv fo z (own_one hd.fin.buf) (by obtain ⟨qs, hr, _⟩ := hd.fin.nms.row; exact own_one hr))
      rw [← hw3]
      clear hw3 g3 hb hd HCALM HC KA ba hBa hwa
      have hi60 : (Try.prog.info? 60).map (·.size) = some (chunkCells a v qv fo z).length := info60
      go_wp2_with (first | (with_reducible refine wpList_load_blk rfl 60 (.tmp 8) rfl q4 rfl 60 (chunkCells a v qv fo z) _ k3.out Try.underlying60 rfl hi60 ?_) | (refine wpList_store_blk rfl 60 (.tmp 8) (.tmp 44) rfl q4 (chunkCells a v qv fo z) (chunkCells a v qv fo z) 60 (by rfl) (by rfl) k3.out rfl hi60 hone.out ?_))
      intro w4 k4 g4 _
      have HK5 := Lib.hid k4
      have HFIN4 : Hid (Fin w4 src out ms asc B bm a v qv ns E n0) := Lib.hid (HFIN.out.moved k3.out (by decide) (by decide) g4)
      have HB4 : Hid (Below w.heap.size w w4) := Lib.hid (below_of_only HB3.out HB3.out.size g4 (fun k hk => by injection hk with hk; omega))
      clear k4 g4 HFIN HB3 k3 hone
      have z0 := HK5.out.get 0 rfl
      have z1 := HK5.out.get 1 rfl
      have z2 := HK5.out.get 2 rfl
      have z3 := HK5.out.get 3 rfl
      have z4 := HK5.out.get 4 rfl
      have z5 := HK5.out.get 5 rfl
      have z6 := HK5.out.get 6 rfl
      have z7 := HK5.out.get 7 rfl
      have z8 := HK5.out.get 8 rfl
      have z9 := HK5.out.get 9 rfl
      have z10 := HK5.out.get 10 rfl
      have z11 := HK5.out.get 11 rfl
      go_wp2_with fail
      refine bodyPost_ret (v := .tuple #[.agg (chunkCells a v qv fo z).toArray, .bool true]) (by simp [results, Try.results16, z0, z1, z2, z3, z4, z5, z6, z7, z8, z9, z10, z11, go_sem, chunkCells]; done) rfl ?_
      exact ⟨B, bm, a, v, qv, fo, z, ns, E, n0, rfl, HFIN4.out, HBB.out, HB4.out⟩
end Go.Proofs.Ytobhlppdolekoaa.Ch
