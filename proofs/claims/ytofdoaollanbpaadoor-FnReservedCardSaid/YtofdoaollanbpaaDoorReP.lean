/- A table of symbols of one source. The walks. -/
import Derived.Test.YtofdoaollanbpaaDoorReO
namespace Go.Proofs.YtofdoaollanbpaaDoor.Res
open Go.RowKit Go.Proofs.YtofdoaollanbpaaDoor.Aid
attribute [local go_sem ↓] Go.wp_at_zero Go.wp_at_succ
set_option linter.unusedVariables false
set_option linter.unusedSimpArgs false
theorem ref_ (x : Nat) (w : World) (hx : x < 4294967296) : Calls Tryd.prog 33 #[.int .i64 x] w fun e w' => e = .returned (.agg #[.int .u32 0, .int .u32 x]) ∧ Below w.heap.size w w' := by
  have hw : IntKind.u32.wrap (x : Int) = x := by simp [IntKind.wrap, IntKind.bits, IntKind.signed]; omega
  go_enter Tryd.func33, Tryd.ntmps33
  go_wp2_with fail
  go_returns
  exact ⟨rfl, below_at (Below.refl _ _) _⟩
theorem mk48 (w : World) : (Instr.makeSlice 48 (.int .i64 1) (.int .i64 1)).run Tryd.prog w = .ok (.slice (some ⟨w.heap.size, 0, none⟩) 1 1) (w.alloc (.cells #[.slice none 0 0] 84)) := by kernel_rfl
theorem new_ (w : World) : Calls Tryd.prog 34 #[.int .i64 1] w fun e w' => e = .returned (.agg #[.slice (some ⟨w.heap.size + 1, 0, none⟩) 1 1]) ∧ Blk w' (w.heap.size + 1) 84 [.slice none 0 0] ∧ Below w.heap.size w w' := by
  have hmk := mk48
  go_enter Tryd.func34, Tryd.ntmps34
  go_wp2_with fail
  go_returns
  have hk := Blk.new (w.alloc (.cells #[.slice (some ⟨w.heap.size + 1, 0, none⟩) 1 1] 50)) 84 [.slice none 0 0]
  rw [show (w.alloc (.cells #[.slice (some ⟨w.heap.size + 1, 0, none⟩) 1 1] 50)).heap.size = w.heap.size + 1 from by simp] at hk
  exact ⟨rfl, hk, below_at (below_at (Below.refl _ _) _) _⟩
/-- The cells of a symbol in the package's table. -/
def symAt (y : Sy) (y0 y1 : Int) : Nat → Value
  | 0 => .pointer none
  | 1 => .string y.name
  | 2 => .int .u32 y0
  | 3 => .int .u32 y1
  | 4 => .int .u32 y.u
  | 7 => .int .u16 (IntKind.u16.wrap y.fl)
  | 8 => .int .u8 (IntKind.u8.wrap y.k)
  | 9 => .int .u8 0
  | _ => .int .u32 0
def symsAt (Y : Nat → Sy) (y0 y1 : Int) (q : Nat) : Value := symAt (Y (q / 10)) y0 y1 (q % 10)
theorem syms_snoc (Y : Nat → Sy) (y0 y1 : Int) (i : Nat) : row (i * 10) (symsAt Y y0 y1) ++ row 10 (symAt (Y i) y0 y1) = row ((i + 1) * 10) (symsAt Y y0 y1) := by
  rw [row_append]
  have e : i * 10 + 10 = (i + 1) * 10 := by omega
  rw [e]
  refine row_congr _ _ _ fun q hq => ?_
  by_cases h : q < i * 10
  · rw [if_pos h]
  · rw [if_neg h]
    unfold symsAt
    rw [show q / 10 = i by omega, show q % 10 = q - i * 10 by omega]
/-- The package's table of symbols lies in a world. -/
def TableAt (w : World) (base : Nat) (gs : Nat) (Y : Nat → Sy) (m : Nat) (y0 y1 : Int) : Prop :=
  ∃ v, base ≤ gs ∧ Blk w gs 84 [v] ∧ w.ownsRow base 93 10 v m (row (m * 10) (symsAt Y y0 y1))
theorem S_si {S1 SG : World → Prop} (m i : Nat) (h : i ≠ m) : ∀ (L : Array Bool) (w : World), (S1 w ∧ ((L.setIfInBounds i true).getD m true = false → SG w)) → (S1 w ∧ (L.getD m true = false → SG w)) := fun L w hs => ⟨hs.1, fun hm => hs.2 (by rw [getD_set_ne true h]; exact hm)⟩
theorem info93 : (Tryd.prog.info? 93).map (fun i => (i.zero, i.size, i.bytes)) = some (some (.agg #[.pointer none, .string ⟨#[]⟩, .int .u32 0, .int .u32 0, .int .u32 0, .int .u32 0, .int .u32 0, .int .u16 0, .int .u8 0, .int .u8 0]), 10, 48) := by kernel_rfl
theorem own_far {w : World} {base n p : Nat} {e : TypeId} {size : Nat} {v : Value} {xs : List Value} (h : w.ownsRow base e size v n xs) (o : Nat) (u : Value) (hne : some p ≠ v.ownBlock) : (w.setCell ⟨p, o, none⟩ u).ownsRow base e size v n xs :=
  (Two.of_block (r := none) (only_setCell (p := ⟨p, o, none⟩) (World.grownBy.refl w _) (.inl rfl) u)).own h hne (Classical.em _)
set_option maxRecDepth 100000 in
set_option maxHeartbeats 8000000 in
theorem table (B : Option Addr) (m mc : Nat) (Y : Nat → Sy) (y0 y1 : Int) (w : World) (hY : RSy w B m Y) (hm : m ≤ 200) (hy0 : w.cell? ⟨2, 0, none⟩ = some (.int .u32 y0)) (hy1 : w.cell? ⟨2, 1, none⟩ = some (.int .u32 y1)) (hb : 3 ≤ w.heap.size) :
    Calls Tryd.prog 21 #[.slice B m mc] w fun e w' => Below w.heap.size w w' ∧ ∃ gs, e = .returned (.agg #[.slice (some ⟨gs, 0, none⟩) 1 1]) ∧ TableAt w' w.heap.size gs Y m y0 y1 := by
  have HY := Lib.hid (fun W (hb : Below w.heap.size w W) => hY.below hb)
  have HV := Lib.hid (fun W (hb' : Below w.heap.size w W) => (⟨bcell hb' (by omega) hy0, bcell hb' (by omega) hy1⟩ : W.cell? ⟨2, 0, none⟩ = some (.int .u32 y0) ∧ W.cell? ⟨2, 1, none⟩ = some (.int .u32 y1)))
  obtain ⟨i0, hi, hz0, hz1, hz2⟩ := info_parts info93
  clear hY hy0 hy1
  go_enter Tryd.func21, Tryd.ntmps21
  go_wp2_with fail
  have B0 := below_at (Below.refl w.heap.size w) (.cells #[.slice none 0 0] 50)
  obtain ⟨w0, e0⟩ : ∃ w0, w0 = w.alloc (.cells #[.slice none 0 0] 50) := ⟨_, rfl⟩
  have P0 : Blk w0 w.heap.size 50 [.slice none 0 0] := by rw [e0]; exact Blk.new w 50 [.slice none 0 0]
  have s0 : w0.heap.size = w.heap.size + 1 := by rw [e0]; simp
  rw [← e0] at B0 ⊢
  clear e0
  refine (new_ w0).mono ?_
  rintro e w1 ⟨rfl, K1, B1⟩
  rw [s0] at K1
  rw [s0]
  have B01 := up B0 B1
  have P1 := P0.below B1 P0.lt
  go_upto_block 0 with fail
  obtain ⟨w2, e2⟩ : ∃ w2, w2 = w1.alloc (.cells #[.slice (some ⟨w.heap.size + 1 + 1, 0, none⟩) 1 1] 50) := ⟨_, rfl⟩
  have HB2 := Lib.hid (show Below w.heap.size w w2 by rw [e2]; exact below_at B01 _)
  have HP2 := Lib.hid (show Blk w2 w.heap.size 50 [.slice none 0 0] by rw [e2]; exact P1.alloc _)
  have HQ2 := Lib.hid (show Blk w2 w1.heap.size 50 [.slice (some ⟨w.heap.size + 1 + 1, 0, none⟩) 1 1] by rw [e2]; exact Blk.new w1 50 _)
  have HG2 := Lib.hid (show Blk w2 (w.heap.size + 1 + 1) 84 [.slice none 0 0] by rw [e2]; exact K1.alloc _)
  have hlt1 : w.heap.size + 1 + 1 < w1.heap.size := K1.lt
  obtain ⟨gs, hgs⟩ : ∃ gs, gs = w.heap.size + 1 + 1 := ⟨_, rfl⟩
  obtain ⟨p, hp⟩ : ∃ p, p = w1.heap.size := ⟨_, rfl⟩
  have hgp : gs < p := by omega
  have hwg : w.heap.size < gs := by omega
  rw [← e2, ← hp, ← hgs]
  rw [← hgs] at HQ2 HG2
  rw [← hp] at HQ2
  clear B0 P0 s0 K1 B1 B01 P1 hlt1
  clear e2 hp hgs
  go_wp2_with fail
  go_loopg [9] m (fun k iv wr => ∃ (i : Nat) (v : Value), iv = .int .i64 i ∧ Aside (i + k = m ∧ Below w.heap.size w wr ∧ Blk wr w.heap.size 50 [.slice none 0 0] ∧ Blk wr p 50 [.slice (some ⟨gs, 0, none⟩) 1 1] ∧ Blk wr gs 84 [v] ∧ wr.ownsRow w.heap.size 93 10 v i (row (i * 10) (symsAt Y y0 y1))))
  case atStart => exact ⟨0, _, rfl, ⟨by omega, HB2.out, HP2.out, HQ2.out, HG2.out, own_nil _ _ _ _⟩⟩
  case round =>
    clear HB2 HP2 HQ2 HG2
    obtain ⟨i, v, rfl, HA⟩ := hrel
    by_cases hlt : i < m
    · obtain ⟨h0, h1, h2, h3, h4, h5⟩ := HA.out
      obtain ⟨b, o, rfl, hyb, hys, x0, x1, x2, x3⟩ := HY.out _ h1 i hlt
      have hlt' : (i : Int) < m := by omega
      obtain ⟨y, hy⟩ : ∃ y, Y i = y := ⟨_, rfl⟩
      have HYE := Lib.hid hy
      rw [hy] at x0 x1 x2 x3
      have HI := Lib.hid h0
      have HB := Lib.hid h1
      have HP := Lib.hid h2
      have HQ := Lib.hid h3
      have HG := Lib.hid h4
      have HO := Lib.hid h5
      clear h0 h1 h2 h3 h4 h5 HA hy hys
      go_upto_region 5 with fail
      obtain ⟨w3, e3⟩ : ∃ w3, w3 = wr.alloc (.cells #[.string y.name, .int .u32 y.u, .int .i64 y.fl, .int .i64 y.k] 37) := ⟨_, rfl⟩
      have B3 := Lib.hid (show Below w.heap.size w w3 by rw [e3]; exact below_at HB.out _)
      have P3 := Lib.hid (show Blk w3 w.heap.size 50 [.slice none 0 0] by rw [e3]; exact HP.out.alloc _)
      have Q3 := Lib.hid (show Blk w3 p 50 [.slice (some ⟨gs, 0, none⟩) 1 1] by rw [e3]; exact HQ.out.alloc _)
      have G3 := Lib.hid (show Blk w3 gs 84 [v] by rw [e3]; exact HG.out.alloc _)
      have O3 := Lib.hid (show w3.ownsRow w.heap.size 93 10 v i (row (i * 10) (symsAt Y y0 y1)) by rw [e3]; exact HO.out.alloc _)
      have Y3 := Lib.hid (show Blk w3 wr.heap.size 37 [.string y.name, .int .u32 y.u, .int .i64 y.fl, .int .i64 y.k] by rw [e3]; exact Blk.new wr 37 _)
      have hH : gs < wr.heap.size := HG.out.lt
      have hH2 : p < wr.heap.size := HQ.out.lt
      obtain ⟨h, hh⟩ : ∃ h, h = wr.heap.size := ⟨_, rfl⟩
      rw [← hh] at Y3 hH hH2 ⊢
      rw [← e3]
      clear e3 hh x0 x1 x2 x3 HB HP HQ HG HO
      obtain ⟨S1, hS1⟩ : ∃ S1 : World → Prop, S1 = fun w' => (w'.cell? ⟨p, 0, none⟩ = some (.slice (some ⟨gs, 0, none⟩) 1 1) ∧ w'.cell? ⟨h, 0, none⟩ = some (.string y.name) ∧ w'.cell? ⟨h, 1, none⟩ = some (.int .u32 y.u) ∧ w'.cell? ⟨h, 2, none⟩ = some (.int .i64 y.fl) ∧ w'.cell? ⟨h, 3, none⟩ = some (.int .i64 y.k) ∧ w'.cell? ⟨2, 0, none⟩ = some (.int .u32 y0) ∧ w'.cell? ⟨2, 1, none⟩ = some (.int .u32 y1)) := ⟨_, rfl⟩
      obtain ⟨SG, hSG⟩ : ∃ SG : World → Prop, SG = fun w' => w'.cell? ⟨gs, 0, none⟩ = some v := ⟨_, rfl⟩
      have h1 : S1 w3.drew := by rw [hS1]; exact ⟨Q3.out.get 0 rfl, Y3.out.get 0 rfl, Y3.out.get 1 rfl, Y3.out.get 2 rfl, Y3.out.get 3 rfl, (HV.out _ B3.out).1, (HV.out _ B3.out).2⟩
      have hg : SG w3.drew := by rw [hSG]; exact G3.out.get 0 rfl
      have HS1 := Lib.hid hS1
      have HSG := Lib.hid hSG
      clear hS1 hSG
      refine Hoist.start (S := fun L w' => S1 w' ∧ (L.getD 19 true = false → SG w')) (by kernel_rfl) ?_
      refine Hoist.take (i := 0) (T := S1) (G := fun _ => True) (v := ?v0) rfl (by kernel_rfl) (by kernel_rfl) (by kernel_rfl) (fun _ _ _ h => h) (S_si 19 0 (by decide)) (fun _ _ _ _ _ _ => trivial) (fun _ _ _ h => h.1) trivial (Or.inl ⟨by rfl, ?hy0⟩) ⟨h1, fun _ => hg⟩ ?rest0
      case hy0 =>
        intro w' hSw
        rw [HS1.out] at hSw
        obtain ⟨t0, t1, t2, t3, t4, t5, t6⟩ := hSw
        go_simp
        rfl
      simp only [Act.put, List.setIfInBounds_toArray, List.set_cons_zero, List.set_cons_succ]
      refine Hoist.take (i := 1) (T := S1) (G := fun _ => True) (v := ?v1) rfl (by kernel_rfl) (by kernel_rfl) (by kernel_rfl) (fun _ _ _ h => h) (S_si 19 1 (by decide)) (fun _ _ _ _ _ _ => trivial) (fun _ _ _ h => h.1) trivial (Or.inl ⟨by rfl, ?hy1⟩) ⟨h1, fun _ => hg⟩ ?rest1
      case hy1 =>
        intro w' hSw
        rw [HS1.out] at hSw
        obtain ⟨t0, t1, t2, t3, t4, t5, t6⟩ := hSw
        go_simp
        rfl
      simp only [Act.put, List.setIfInBounds_toArray, List.set_cons_zero, List.set_cons_succ]
      refine Hoist.take (i := 2) (T := S1) (G := fun _ => True) (v := ?v2) rfl (by kernel_rfl) (by kernel_rfl) (by kernel_rfl) (fun _ _ _ h => h) (S_si 19 2 (by decide)) (fun _ _ _ _ _ _ => trivial) (fun _ _ _ h => h.1) trivial (Or.inl ⟨by rfl, ?hy2⟩) ⟨h1, fun _ => hg⟩ ?rest2
      case hy2 =>
        intro w' hSw
        rw [HS1.out] at hSw
        obtain ⟨t0, t1, t2, t3, t4, t5, t6⟩ := hSw
        go_simp
        rfl
      simp only [Act.put, List.setIfInBounds_toArray, List.set_cons_zero, List.set_cons_succ]
      refine Hoist.take (i := 3) (T := S1) (G := fun _ => True) (v := ?v3) rfl (by kernel_rfl) (by kernel_rfl) (by kernel_rfl) (fun _ _ _ h => h) (S_si 19 3 (by decide)) (fun _ _ _ _ _ _ => trivial) (fun _ _ _ h => h.1) trivial (Or.inl ⟨by rfl, ?hy3⟩) ⟨h1, fun _ => hg⟩ ?rest3
      case hy3 =>
        intro w' hSw
        rw [HS1.out] at hSw
        obtain ⟨t0, t1, t2, t3, t4, t5, t6⟩ := hSw
        go_simp
        rfl
      simp only [Act.put, List.setIfInBounds_toArray, List.set_cons_zero, List.set_cons_succ]
      refine Hoist.take (i := 4) (T := S1) (G := fun _ => True) (v := ?v4) rfl (by kernel_rfl) (by kernel_rfl) (by kernel_rfl) (fun _ _ _ h => h) (S_si 19 4 (by decide)) (fun _ _ _ _ _ _ => trivial) (fun _ _ _ h => h.1) trivial (Or.inl ⟨by rfl, ?hy4⟩) ⟨h1, fun _ => hg⟩ ?rest4
      case hy4 =>
        intro w' hSw
        rw [HS1.out] at hSw
        obtain ⟨t0, t1, t2, t3, t4, t5, t6⟩ := hSw
        go_simp
        rfl
      simp only [Act.put, List.setIfInBounds_toArray, List.set_cons_zero, List.set_cons_succ]
      refine Hoist.take (i := 5) (T := fun w' => S1 w' ∧ SG w') (G := fun L => L.getD 19 true = false) (v := ?v5) rfl (by kernel_rfl) (by kernel_rfl) (by kernel_rfl) (fun _ _ _ h => h) (S_si 19 5 (by decide)) (Hoist.waits 19 5 (by kernel_rfl)) (fun _ _ hL h => ⟨h.1, h.2 hL⟩) (by kernel_rfl) (Or.inl ⟨by rfl, ?hy5⟩) ⟨h1, fun _ => hg⟩ ?rest5
      case hy5 =>
        intro w' hSw
        rw [HSG.out] at hSw
        obtain ⟨-, t7⟩ := hSw
        go_simp
        rfl
      simp only [Act.put, List.setIfInBounds_toArray, List.set_cons_zero, List.set_cons_succ]
      refine Hoist.take (i := 6) (T := S1) (G := fun _ => True) (v := ?v6) rfl (by kernel_rfl) (by kernel_rfl) (by kernel_rfl) (fun _ _ _ h => h) (S_si 19 6 (by decide)) (fun _ _ _ _ _ _ => trivial) (fun _ _ _ h => h.1) trivial (Or.inl ⟨by rfl, ?hy6⟩) ⟨h1, fun _ => hg⟩ ?rest6
      case hy6 =>
        intro w' hSw
        rw [HS1.out] at hSw
        obtain ⟨t0, t1, t2, t3, t4, t5, t6⟩ := hSw
        go_simp
        rfl
      simp only [Act.put, List.setIfInBounds_toArray, List.set_cons_zero, List.set_cons_succ]
      refine Hoist.take (i := 7) (T := S1) (G := fun _ => True) (v := ?v7) rfl (by kernel_rfl) (by kernel_rfl) (by kernel_rfl) (fun _ _ _ h => h) (S_si 19 7 (by decide)) (fun _ _ _ _ _ _ => trivial) (fun _ _ _ h => h.1) trivial (Or.inl ⟨by rfl, ?hy7⟩) ⟨h1, fun _ => hg⟩ ?rest7
      case hy7 =>
        intro w' hSw
        rw [HS1.out] at hSw
        obtain ⟨t0, t1, t2, t3, t4, t5, t6⟩ := hSw
        go_simp
        rfl
      simp only [Act.put, List.setIfInBounds_toArray, List.set_cons_zero, List.set_cons_succ]
      refine Hoist.take (i := 8) (T := S1) (G := fun _ => True) (v := ?v8) rfl (by kernel_rfl) (by kernel_rfl) (by kernel_rfl) (fun _ _ _ h => h) (S_si 19 8 (by decide)) (fun _ _ _ _ _ _ => trivial) (fun _ _ _ h => h.1) trivial (Or.inl ⟨by rfl, ?hy8⟩) ⟨h1, fun _ => hg⟩ ?rest8
      case hy8 =>
        intro w' hSw
        rw [HS1.out] at hSw
        obtain ⟨t0, t1, t2, t3, t4, t5, t6⟩ := hSw
        go_simp
        rfl
      simp only [Act.put, List.setIfInBounds_toArray, List.set_cons_zero, List.set_cons_succ]
      refine Hoist.take (i := 9) (T := S1) (G := fun _ => True) (v := ?v9) rfl (by kernel_rfl) (by kernel_rfl) (by kernel_rfl) (fun _ _ _ h => h) (S_si 19 9 (by decide)) (fun _ _ _ _ _ _ => trivial) (fun _ _ _ h => h.1) trivial (Or.inl ⟨by rfl, ?hy9⟩) ⟨h1, fun _ => hg⟩ ?rest9
      case hy9 =>
        intro w' hSw
        rw [HS1.out] at hSw
        obtain ⟨t0, t1, t2, t3, t4, t5, t6⟩ := hSw
        go_simp
        rfl
      simp only [Act.put, List.setIfInBounds_toArray, List.set_cons_zero, List.set_cons_succ]
      refine Hoist.take (i := 10) (T := S1) (G := fun _ => True) (v := ?v10) rfl (by kernel_rfl) (by kernel_rfl) (by kernel_rfl) (fun _ _ _ h => h) (S_si 19 10 (by decide)) (fun _ _ _ _ _ _ => trivial) (fun _ _ _ h => h.1) trivial (Or.inl ⟨by rfl, ?hy10⟩) ⟨h1, fun _ => hg⟩ ?rest10
      case hy10 =>
        intro w' hSw
        rw [HS1.out] at hSw
        obtain ⟨t0, t1, t2, t3, t4, t5, t6⟩ := hSw
        go_simp
        rfl
      simp only [Act.put, List.setIfInBounds_toArray, List.set_cons_zero, List.set_cons_succ]
      refine Hoist.take (i := 11) (T := S1) (G := fun _ => True) (v := ?v11) rfl (by kernel_rfl) (by kernel_rfl) (by kernel_rfl) (fun _ _ _ h => h) (S_si 19 11 (by decide)) (fun _ _ _ _ _ _ => trivial) (fun _ _ _ h => h.1) trivial (Or.inl ⟨by rfl, ?hy11⟩) ⟨h1, fun _ => hg⟩ ?rest11
      case hy11 =>
        intro w' hSw
        rw [HS1.out] at hSw
        obtain ⟨t0, t1, t2, t3, t4, t5, t6⟩ := hSw
        go_simp
        rfl
      simp only [Act.put, List.setIfInBounds_toArray, List.set_cons_zero, List.set_cons_succ]
      refine Hoist.take (i := 12) (T := S1) (G := fun _ => True) (v := ?v12) rfl (by kernel_rfl) (by kernel_rfl) (by kernel_rfl) (fun _ _ _ h => h) (S_si 19 12 (by decide)) (fun _ _ _ _ _ _ => trivial) (fun _ _ _ h => h.1) trivial (Or.inl ⟨by rfl, ?hy12⟩) ⟨h1, fun _ => hg⟩ ?rest12
      case hy12 =>
        intro w' hSw
        rw [HS1.out] at hSw
        obtain ⟨t0, t1, t2, t3, t4, t5, t6⟩ := hSw
        go_simp
        rfl
      simp only [Act.put, List.setIfInBounds_toArray, List.set_cons_zero, List.set_cons_succ]
      refine Hoist.take (i := 13) (T := S1) (G := fun _ => True) (v := ?v13) rfl (by kernel_rfl) (by kernel_rfl) (by kernel_rfl) (fun _ _ _ h => h) (S_si 19 13 (by decide)) (fun _ _ _ _ _ _ => trivial) (fun _ _ _ h => h.1) trivial (Or.inl ⟨by rfl, ?hy13⟩) ⟨h1, fun _ => hg⟩ ?rest13
      case hy13 =>
        intro w' hSw
        rw [HS1.out] at hSw
        obtain ⟨t0, t1, t2, t3, t4, t5, t6⟩ := hSw
        go_simp
        rfl
      simp only [Act.put, List.setIfInBounds_toArray, List.set_cons_zero, List.set_cons_succ]
      refine Hoist.take (i := 14) (T := S1) (G := fun _ => True) (v := ?v14) rfl (by kernel_rfl) (by kernel_rfl) (by kernel_rfl) (fun _ _ _ h => h) (S_si 19 14 (by decide)) (fun _ _ _ _ _ _ => trivial) (fun _ _ _ h => h.1) trivial (Or.inl ⟨by rfl, ?hy14⟩) ⟨h1, fun _ => hg⟩ ?rest14
      case hy14 =>
        intro w' hSw
        rw [HS1.out] at hSw
        obtain ⟨t0, t1, t2, t3, t4, t5, t6⟩ := hSw
        go_simp
        rfl
      simp only [Act.put, List.setIfInBounds_toArray, List.set_cons_zero, List.set_cons_succ]
      refine Hoist.take (i := 15) (T := S1) (G := fun _ => True) (v := ?v15) rfl (by kernel_rfl) (by kernel_rfl) (by kernel_rfl) (fun _ _ _ h => h) (S_si 19 15 (by decide)) (fun _ _ _ _ _ _ => trivial) (fun _ _ _ h => h.1) trivial (Or.inl ⟨by rfl, ?hy15⟩) ⟨h1, fun _ => hg⟩ ?rest15
      case hy15 =>
        intro w' hSw
        rw [HS1.out] at hSw
        obtain ⟨t0, t1, t2, t3, t4, t5, t6⟩ := hSw
        go_simp
        rfl
      simp only [Act.put, List.setIfInBounds_toArray, List.set_cons_zero, List.set_cons_succ]
      refine Hoist.take (i := 16) (T := S1) (G := fun _ => True) (v := ?v16) rfl (by kernel_rfl) (by kernel_rfl) (by kernel_rfl) (fun _ _ _ h => h) (S_si 19 16 (by decide)) (fun _ _ _ _ _ _ => trivial) (fun _ _ _ h => h.1) trivial (Or.inl ⟨by rfl, ?hy16⟩) ⟨h1, fun _ => hg⟩ ?rest16
      case hy16 =>
        intro w' hSw
        rw [HS1.out] at hSw
        obtain ⟨t0, t1, t2, t3, t4, t5, t6⟩ := hSw
        go_simp
        rfl
      simp only [Act.put, List.setIfInBounds_toArray, List.set_cons_zero, List.set_cons_succ]
      refine Hoist.take (i := 17) (T := S1) (G := fun _ => True) (v := ?v17) rfl (by kernel_rfl) (by kernel_rfl) (by kernel_rfl) (fun _ _ _ h => h) (S_si 19 17 (by decide)) (fun _ _ _ _ _ _ => trivial) (fun _ _ _ h => h.1) trivial (Or.inl ⟨by rfl, ?hy17⟩) ⟨h1, fun _ => hg⟩ ?rest17
      case hy17 =>
        intro w' hSw
        rw [HS1.out] at hSw
        obtain ⟨t0, t1, t2, t3, t4, t5, t6⟩ := hSw
        go_simp
        rfl
      simp only [Act.put, List.setIfInBounds_toArray, List.set_cons_zero, List.set_cons_succ]
      refine Hoist.only (i := 18) rfl (by kernel_rfl) ?_
      intro K hK
      go_simp
      obtain ⟨w4, e4⟩ : ∃ w4, w4 = (w3.alloc (.cells #[.pointer none, .string y.name, .int .u32 y0, .int .u32 y1, .int .u32 y.u, .int .u32 0, .int .u32 0, .int .u16 (IntKind.u16.wrap y.fl), .int .u8 (IntKind.u8.wrap y.k), .int .u8 0] 93)).drew := ⟨_, rfl⟩
      have hE4 : Blk w4 w3.heap.size 93 [.pointer none, .string y.name, .int .u32 y0, .int .u32 y1, .int .u32 y.u, .int .u32 0, .int .u32 0, .int .u16 (IntKind.u16.wrap y.fl), .int .u8 (IntKind.u8.wrap y.k), .int .u8 0] := by rw [e4]; exact (Blk.new w3 93 _).drew
      have B4 := Lib.hid (show Below w.heap.size w w4 by rw [e4]; exact below_drew (below_at B3.out _))
      have P4 := Lib.hid (show Blk w4 w.heap.size 50 [.slice none 0 0] by rw [e4]; exact (P3.out.alloc _).drew)
      have Q4 := Lib.hid (show Blk w4 p 50 [.slice (some ⟨gs, 0, none⟩) 1 1] by rw [e4]; exact (Q3.out.alloc _).drew)
      have G4 := Lib.hid (show Blk w4 gs 84 [v] by rw [e4]; exact (G3.out.alloc _).drew)
      have O4 := Lib.hid (show w4.ownsRow w.heap.size 93 10 v i (row (i * 10) (symsAt Y y0 y1)) by rw [e4]; exact own_keep O3.out (below_drew (below_at (Below.refl _ _) _)))
      have Y4 := Lib.hid (show Blk w4 h 37 [.string y.name, .int .u32 y.u, .int .i64 y.fl, .int .i64 y.k] by rw [e4]; exact (Y3.out.alloc _).drew)
      rw [← e4]
      clear e4 B3 P3 Q3 G3 O3 Y3 h1 hg
      have h1a : S1 w4 := by rw [HS1.out]; exact ⟨Q4.out.get 0 rfl, Y4.out.get 0 rfl, Y4.out.get 1 rfl, Y4.out.get 2 rfl, Y4.out.get 3 rfl, (HV.out _ B4.out).1, (HV.out _ B4.out).2⟩
      have hga : SG w4 := by rw [HSG.out]; exact G4.out.get 0 rfl
      refine hK _ _ ⟨h1a, fun _ => hga⟩ ?_
      clear hK K h1a hga
      refine Hoist.only (i := 19) rfl (by kernel_rfl) ?_
      intro K hK
      refine step_append_el (by rfl) (.tmp 18) (.tmp 31) 84 (by rfl) w.heap.size 93 i0 _ 10 48 Tryd.underlying84 hi hz0 hz1 hz2 rfl (by omega) v i _ (by rfl) O4.out w3.heap.size (by rfl) [.pointer none, .string y.name, .int .u32 y0, .int .u32 y1, .int .u32 y.u, .int .u32 0, .int .u32 0, .int .u16 (IntKind.u16.wrap y.fl), .int .u8 (IntKind.u8.wrap y.k), .int .u8 0] hE4 rfl (by simp [Value.oneCell']) (by simp only [maxLen]; omega) (by omega) B4.out.size ?_
      intro g' cap w5 hown5 hgrow hat hlt5
      have B5 := Lib.hid (below_of_only B4.out B4.out.size hgrow (fun k hk => own_below O4.out k hk))
      have P5 := Lib.hid (P4.out.grown hgrow (own_ne O4.out P4.out (by decide)))
      have Q5 := Lib.hid (Q4.out.grown hgrow (own_ne O4.out Q4.out (by decide)))
      have G5 := Lib.hid (G4.out.grown hgrow (own_ne O4.out G4.out (by decide)))
      have Y5 := Lib.hid (Y4.out.grown hgrow (own_ne O4.out Y4.out (by decide)))
      have O5 := Lib.hid (show w5.ownsRow w.heap.size 93 10 (.slice (some ⟨g', 0, none⟩) (i + 1) cap) (i + 1) (row ((i + 1) * 10) (symsAt Y y0 y1)) by rw [← syms_snoc, HYE.out]; exact hown5)
      have h1b : S1 w5 := by rw [HS1.out]; exact ⟨Q5.out.get 0 rfl, Y5.out.get 0 rfl, Y5.out.get 1 rfl, Y5.out.get 2 rfl, Y5.out.get 3 rfl, (HV.out _ B5.out).1, (HV.out _ B5.out).2⟩
      refine hK _ _ ⟨h1b, fun hL => absurd hL (by simp)⟩ ?_
      clear hK K hown5 hgrow hat hE4 B4 P4 Q4 G4 O4 Y4
      have d7 := G5.out.get 0 rfl
      have d8 := G5.out.frozen 0
      refine Hoist.only (i := 20) rfl (by kernel_rfl) ?_
      intro K hK
      go_simp
      refine hK _ _ ⟨h1b, fun hL => absurd hL (by simp)⟩ ?_
      clear hK K
      refine Hoist.only (i := 21) rfl (by kernel_rfl) ?_
      intro K hK
      go_simp
      obtain ⟨w6, e6⟩ : ∃ w6, w6 = w5.setCell ⟨gs, 0, none⟩ (.slice (some ⟨g', 0, none⟩) (i + 1) cap) := ⟨_, rfl⟩
      have B6 := Lib.hid (show Below w.heap.size w w6 by rw [e6]; exact B5.out.trans (below_of_only (Below.refl _ _) B5.out.size (only_setCell (World.grownBy.refl w5 (some gs)) (.inl rfl) _) (fun k hk => by injection hk with hk; omega)))
      have P6 := Lib.hid (show Blk w6 w.heap.size 50 [.slice none 0 0] by rw [e6]; exact P5.out.far (by show w.heap.size ≠ gs; omega) _)
      have Q6 := Lib.hid (show Blk w6 p 50 [.slice (some ⟨gs, 0, none⟩) 1 1] by rw [e6]; exact Q5.out.far (by show p ≠ gs; omega) _)
      have G6 := Lib.hid (show Blk w6 gs 84 [.slice (some ⟨g', 0, none⟩) (i + 1) cap] by rw [e6]; exact G5.out.set_ 0 _)
      have Y6 := Lib.hid (show Blk w6 h 37 [.string y.name, .int .u32 y.u, .int .i64 y.fl, .int .i64 y.k] by rw [e6]; exact Y5.out.far (by show h ≠ gs; omega) _)
      have O6 := Lib.hid (show w6.ownsRow w.heap.size 93 10 (.slice (some ⟨g', 0, none⟩) (i + 1) cap) (i + 1) (row ((i + 1) * 10) (symsAt Y y0 y1)) by rw [e6]; exact own_far O5.out 0 _ (own_ne O5.out G5.out (by decide)))
      rw [← e6]
      clear e6 h1b d7 d8 B5 P5 Q5 G5 Y5 O5
      have h1c : S1 w6 := by rw [HS1.out]; exact ⟨Q6.out.get 0 rfl, Y6.out.get 0 rfl, Y6.out.get 1 rfl, Y6.out.get 2 rfl, Y6.out.get 3 rfl, (HV.out _ B6.out).1, (HV.out _ B6.out).2⟩
      refine hK _ _ ⟨h1c, fun hL => absurd hL (by simp)⟩ ?_
      clear hK K h1c
      refine Hoist.over (by kernel_rfl) ?_ _
      go_wp2_with fail
      go_roundg (m - (i + 1))
      case measure => have := HI.out; omega
      case rel => exact ⟨i + 1, _, val_int (by omega), ⟨by have := HI.out; omega, B6.out, P6.out, Q6.out, G6.out, O6.out⟩⟩
    · obtain ⟨h0, h1, h2, h3, h4, h5⟩ := HA.out
      have him : i = m := by omega
      subst him
      have k0 := h3.get 0 rfl
      have k1 := h2.get 0 rfl
      have k2 := h2.frozen 0
      have HB := Lib.hid h1
      have HP := Lib.hid h2
      have HG := Lib.hid h4
      have HO := Lib.hid h5
      clear h0 h1 h2 h3 h4 h5 HA
      go_wp2_with fail
      have z0 := (HP.out.set_ 0 (.slice (some ⟨gs, 0, none⟩) 1 1)).get 0 rfl
      have B7 := HB.out.trans (below_of_only (Below.refl w.heap.size wr) HB.out.size (only_setCell (p := ⟨w.heap.size, 0, none⟩) (World.grownBy.refl wr (some w.heap.size)) (.inl rfl) (.slice (some ⟨gs, 0, none⟩) 1 1)) (fun k hk => by injection hk with hk; omega))
      have G7 := HG.out.far (p := ⟨w.heap.size, 0, none⟩) (by show gs ≠ w.heap.size; omega) (.slice (some ⟨gs, 0, none⟩) 1 1)
      have O7 := own_far HO.out (p := w.heap.size) 0 (.slice (some ⟨gs, 0, none⟩) 1 1) (own_ne HO.out HP.out (by decide))
      refine bodyPost_ret (by simp [results, Tryd.results21, z0, go_sem]; try rfl) rfl ?_
      exact ⟨B7, gs, rfl, v, by omega, G7, O7⟩
end Go.Proofs.YtofdoaollanbpaaDoor.Res
