/- The reference's reading of a JSON string that is one. The walk. -/
import Derived.Test.YtkhnkemmkedfcaaWtfG
namespace Go.Proofs.Ytkhnkemmkedfcaa.Wtf
open Go.RowKit Go.Proofs.Ytkhnkemmkedfcaa.Aid Go.Proofs.Ytkhnkemmkedfcaa.Runes Go.Proofs.Ytkhnkemmkedfcaa.Bytes
attribute [local go_sem ↓] Go.wp_at_zero Go.wp_at_succ
set_option linter.unusedVariables false
theorem slice_mid (u : ByteArray) (a b : Nat) (hab : a ≤ b) (hb : b ≤ u.size) (w : World) : (Instr.slice 9 (.string u) (some (.int .i64 a)) (some (.int .i64 b)) none).run Try.prog w = .ok (.string (u.extract a b)) w := by
  have h1 : (b : Int) ≤ (u.size : Int) := by omega
  have h2 : (0 : Int) ≤ (b : Int) := by omega
  have h3 : (0 : Int) ≤ (a : Int) := by omega
  have h4 : (a : Int) ≤ (b : Int) := by omega
  have ht : (b : Int).toNat = b := by omega
  have ht' : (a : Int).toNat = a := by omega
  simp [Instr.slice, run_underlying Try.underlying9, Instr.sliceBounds, run_sliceBound, *]
/-- The inside of a text from a place on. -/
def ins (q : ByteArray) (a : Nat) : List Nat := ((nats q).take (q.size - 1)).drop a
theorem ins_length (q : ByteArray) (a : Nat) : (ins q a).length = q.size - 1 - a := by rw [ins, List.length_drop, List.length_take, nats_length]; omega
theorem ins_getD (q : ByteArray) (a : Nat) (h : a < q.size - 1) : (ins q a).getD 0 0 = byt q a := by
  rw [← getD_nats, ins, List.getD, List.getD, List.getElem?_drop, List.getElem?_take_of_lt (by omega), Nat.add_zero]
theorem ins_drop (q : ByteArray) (a n : Nat) : (ins q a).drop n = ins q (a + n) := by rw [ins, List.drop_drop]; rfl
theorem nats_ins (q : ByteArray) (a : Nat) : nats (q.extract a (q.size - 1)) = ins q a := by
  rw [nats_extract, cut, ins, List.drop_take]
/-- What the call hands back. -/
def Read (us : List Nat) (w : World) (e : Ending) (w' : World) : Prop :=
  Below w.heap.size w w' ∧ ∃ v, e = .returned (.tuple #[v, .bool true]) ∧ w'.ownsRow w.heap.size 41 1 v us.length (ucells us)
set_option maxRecDepth 100000 in
set_option maxHeartbeats 4000000 in
theorem jsonString (q : ByteArray) (us : List Nat) (w : World) (hs : q.size ≤ 34359738368) (h2 : 2 ≤ q.size) (hq0 : byt q 0 = 34) (hq1 : byt q (q.size - 1) = 34) (hp : parse (ins q 1) = some us) :
    Calls Try.prog 15 #[.string q] w (Read us w) := by
  obtain ⟨i0, hi, hz0, hz1, hz2⟩ := info_parts info41
  obtain ⟨E, hE⟩ : ∃ E, E = q.size - 1 := ⟨_, rfl⟩
  have e1 : (q.size : Int) - 1 = (E : Int) := by omega
  have t0 : ¬ (q.size : Int) < 2 := by omega
  have t1 : (0 : Int) < q.size := by omega
  have t2 : (E : Int) < q.size := by omega
  have g1 : 0 < q.size := by omega
  have g2 : E < q.size := by omega
  have eb0 : (q[0]'g1).toNat = 34 := by rw [← hq0, byt_eq q 0 g1]
  have eb1 : (q[E]'g2).toNat = 34 := by rw [← hq1, ← hE, byt_eq q _ g2]
  have hsl := fun w => slice_to q E (by omega) w
  have hEb : E ≤ 34359738368 := by omega
  have HE := Lib.hid hE
  have HP := Lib.hid hp
  have HS1 := Lib.hid (show (q.extract 0 E).size = E from extract_size0 q 0 E (by omega) (by omega))
  have HN1 := Lib.hid (show ∀ a, (nats (q.extract 0 E)).drop a = ins q a by intro a; rw [hE, nats_ins, ins_drop, Nat.zero_add])
  obtain ⟨D, hD⟩ : ∃ D, D = q.extract 0 E := ⟨_, rfl⟩
  rw [← hD] at hsl HS1 HN1
  have E1 : 1 ≤ E := by omega
  clear hE hp hq0 hq1 h2 hD
  go_enter Try.func15, Try.ntmps15
  go_wp2_with fail
  go_loopw [4, 6] (fun out iv wr => ∃ (a : Nat) (done rest : List Nat), iv = .int .i64 a ∧ 1 ≤ a ∧ a ≤ E ∧ parse (ins q a) = some rest ∧ us = done ++ rest ∧ wr.ownsRow w.heap.size 41 1 out done.length (ucells done) ∧ done.length ≤ a ∧ Below w.heap.size w wr) (fun _ iv _ => E - (intOf iv).toNat)
  case atStart => exact ⟨1, [], us, rfl, by omega, E1, HP.out, rfl, own_nil _ _ _ _, by simp, Below.refl _ _⟩
  case round =>
    obtain ⟨a, done, rest, rfl, ha1, haE, hpar, hus, hown, hlen, hbel⟩ := hrel
    have HUS := Lib.hid hus
    have HOWN := Lib.hid hown
    have HBEL := Lib.hid hbel
    clear hus hown hbel
    by_cases hlt : a < E
    · have d1 : (a : Int) < (E : Int) := by omega
      have d2 : (a : Int) < (q.size : Int) := by omega
      have g3 : a < q.size := by omega
      have hne : ins q a ≠ [] := by
        intro h
        have h' := ins_length q a
        rw [h, List.length_nil] at h'
        have := HE.out
        omega
      have hg0 := ins_getD q a (by have := HE.out; omega)
      obtain ⟨b, hb⟩ : ∃ b : Nat, b = byt q a := ⟨_, rfl⟩
      have eb : (q[a]'g3).toNat = b := by rw [hb, byt_eq q _ g3]
      rw [← hb] at hg0
      by_cases h92 : b = 92
      · have t92 : ((b : Int) == 92) = true := by simp; omega
        obtain ⟨u, n, hj⟩ : ∃ u n, jesc (ins q (a + 1)) = (u, n) := ⟨_, _, rfl⟩
        have hd1 : (ins q a).drop 1 = ins q (a + 1) := ins_drop q a 1
        have hn0 : 0 < n := by
          by_cases hn : n = 0
          · rw [parse_bad hne (by rw [hg0, h92]) (by rw [hd1, hj]; exact hn)] at hpar
            cases hpar
          · omega
        rw [parse_esc hne (by rw [hg0, h92]) (by rw [hd1, hj]; exact hn0), hd1, hj, ins_drop] at hpar
        obtain ⟨r2, hr2, hr3⟩ := Option.map_eq_some_iff.1 hpar
        have hjl := jesc_le (ins q (a + 1))
        rw [hj, ins_length] at hjl
        have hnl := hjl.1
        simp only at hnl
        have HX := Lib.hid (fun w => jsonEscape D (a + 1) u n w (by have := HS1.out; omega) (by rw [HN1.out]; exact hj) hn0)
        have hne0 : ((n : Int) == 0) = false := by simp; omega
        have HR2 := Lib.hid hr2
        have HU2 := Lib.hid (show us = (done ++ [u]) ++ r2 by rw [HUS.out, ← hr3]; simp)
        have hn5 : n ≤ 5 := hjl.2
        have HNL := Lib.hid (show a + 1 + n ≤ E by have := HE.out; omega)
        have HEN2 := Lib.hid (show ucells done ++ [.int .u16 (u : Int)] = ucells (done ++ [u]) by rw [ucells_append]; simp [ucells])
        clear hpar hg0 hb h92 hj hjl hr2 hr3 hne hd1 hnl
        go_wp2_with fail
        refine (HX.out _).mono ?_
        rintro e w' ⟨rfl, rfl⟩
        go_wp2_with (at_builtin; refine wpList_append_list rfl _ _ 22 rfl w.heap.size 41 i0 (.int .u16 0) 2 Try.underlying22 hi hz0 hz1 hz2 rfl _ done.length (ucells done) rfl HOWN.out [.int .u16 (u : Int)] 1 rfl rfl ?c1 ?c2 ?c3 ?c4 ?_)
        case c1 => simp [Value.oneCell']
        case c2 => unfold maxLen; omega
        case c3 => omega
        case c4 => exact HBEL.out.size
        intro v' w' hown' hgrow
        rw [HEN2.out] at hown'
        have hdl : (done ++ [u]).length = done.length + 1 := by simp
        rw [← hdl] at hown'
        have HOW := Lib.hid hown'
        have HGB := Lib.hid (HBEL.out.grown hgrow HBEL.out.size (fun k hk => own_below HOWN.out k hk))
        have HDL := Lib.hid hdl
        clear hown' hgrow hdl
        go_wp2_with fail
        go_roundw
        case rel => exact ⟨a + (1 + n), done ++ [u], r2, val_int (by omega), by omega, by have := HNL.out; omega, HR2.out, HU2.out, HOW.out, by have := HDL.out; omega, HGB.out⟩
        case measure => have := HNL.out; simp [intOf]; omega
      · have t92 : ((b : Int) == 92) = false := by simp; omega
        by_cases hgood : 0 < (lrune (ins q a)).2 ∧ 32 ≤ (lrune (ins q a)).1 ∧ (lrune (ins q a)).1 ≠ 34
        · rw [parse_raw hne (by rw [hg0]; exact h92) hgood] at hpar
          have hsl2 := fun w => slice_mid q a E (by omega) (by omega) w
          have hnx : nats (q.extract a E) = ins q a := by rw [HE.out]; exact nats_ins q a
          have hxs : (q.extract a E).size = E - a := extract_size0 q a E (by omega) (by omega)
          obtain ⟨C, hC⟩ : ∃ C, C = q.extract a E := ⟨_, rfl⟩
          rw [← hC] at hsl2 hnx hxs
          have HR := Lib.hid (fun w => wtfRune C w (by omega))
          rw [hnx] at HR
          obtain ⟨r, n, hrn⟩ : ∃ r n, lrune (ins q a) = (r, n) := ⟨_, _, rfl⟩
          rw [hrn] at HR hpar hgood
          have hn0 : 0 < n := hgood.1
          have hr32 : 32 ≤ r := hgood.2.1
          have hr34 : r ≠ 34 := hgood.2.2
          rw [ins_drop] at hpar
          obtain ⟨r2, hr2, hr3⟩ := Option.map_eq_some_iff.1 hpar
          have ho := lrune_pos hrn hn0
          have hn4 := ho.1
          have HNL := Lib.hid (show a + n ≤ E by have := ho.2.1; rw [ins_length] at this; have := HE.out; omega)
          have hrm := ho.2.2.2.1
          have HO4 := Lib.hid ho.2.2.2.2.2.1
          have hne0 : ((n : Int) == 0) = false := by simp; omega
          have f32 : ¬ (r : Int) < 32 := by omega
          have f34 : ((r : Int) == 34) = false := by simp; omega
          have HR2 := Lib.hid hr2
          have HU2 := Lib.hid (show us = (done ++ enc16 r) ++ r2 by rw [HUS.out, ← hr3]; simp)
          clear hpar hg0 hb h92 hrn ho hr2 hr3 hne hgood hr32 hr34 hnx hC
          go_wp2_with fail
          refine (HR.out _).mono ?_
          rintro e w' ⟨rfl, nd, rfl⟩
          have HDR := Lib.hid (below_drewN HBEL.out nd)
          have HOD := Lib.hid (own_keep HOWN.out (below_drewN (Below.refl _ _) nd))
          go_upto_region 16 with fail
          clear f32 f34 hne0
          by_cases h16 : 65536 ≤ r
          · have t16 : (65536 : Int) ≤ r := by omega
            obtain ⟨x, hx⟩ : ∃ x : Nat, x = r - 65536 := ⟨_, rfl⟩
            have e1 : (r : Int) - 65536 = (x : Int) := by omega
            have hxb : x < 1048576 := by omega
            have hm := and1023 x (by omega)
            obtain ⟨y, hy⟩ : ∃ y : Nat, y = x / 1024 := ⟨_, rfl⟩
            obtain ⟨z, hz⟩ : ∃ z : Nat, z = x % 1024 := ⟨_, rfl⟩
            rw [← hz] at hm
            have e2 : (x : Int) / 1024 = (y : Int) := by omega
            have y1 : y < 1024 := by omega
            have z1 : z < 1024 := by omega
            have HEN := Lib.hid (show enc16 r = [55296 + y, 56320 + z] by rw [enc16, if_pos h16, ← hx, ← hy, ← hz])
            have HEN2 := Lib.hid (show ucells done ++ [.int .u16 (55296 + (y : Int)), .int .u16 (56320 + (z : Int))] = ucells (done ++ enc16 r) by rw [HEN.out, ucells_append]; simp [ucells])
            clear hx hy hz h16
            go_wp2_with (at_builtin; refine wpList_append_list rfl _ _ 22 rfl w.heap.size 41 i0 (.int .u16 0) 2 Try.underlying22 hi hz0 hz1 hz2 rfl _ done.length (ucells done) rfl HOD.out [.int .u16 (55296 + (y : Int)), .int .u16 (56320 + (z : Int))] 2 rfl rfl ?c1 ?c2 ?c3 ?c4 ?_)
            case c1 => simp [Value.oneCell']
            case c2 => unfold maxLen; omega
            case c3 => omega
            case c4 => exact HDR.out.size
            intro v' w' hown' hgrow
            rw [HEN2.out] at hown'
            have hdl : (done ++ enc16 r).length = done.length + 2 := by rw [HEN.out, List.length_append]; rfl
            rw [← hdl] at hown'
            have HOW := Lib.hid hown'
            have HGB := Lib.hid (HDR.out.grown hgrow HDR.out.size (fun k hk => own_below HOD.out k hk))
            have HDL := Lib.hid hdl
            clear hown' hgrow hdl
            go_wp2_with fail
            go_roundw
            case rel => exact ⟨a + n, done ++ enc16 r, r2, val_int (by omega), by omega, HNL.out, HR2.out, HU2.out, HOW.out, by have := HDL.out; have := HO4.out; omega, HGB.out⟩
            case measure => have := HNL.out; simp [intOf]; omega
          · have t16 : ¬ (65536 : Int) ≤ r := by omega
            have HEN := Lib.hid (show enc16 r = [r] from if_neg h16)
            have HEN2 := Lib.hid (show ucells done ++ [.int .u16 (r : Int)] = ucells (done ++ enc16 r) by rw [HEN.out, ucells_append]; simp [ucells])
            have r16 : r < 65536 := by omega
            clear h16
            go_wp2_with (at_builtin; refine wpList_append_list rfl _ _ 22 rfl w.heap.size 41 i0 (.int .u16 0) 2 Try.underlying22 hi hz0 hz1 hz2 rfl _ done.length (ucells done) rfl HOD.out [.int .u16 (r : Int)] 1 rfl rfl ?c1 ?c2 ?c3 ?c4 ?_)
            case c1 => simp [Value.oneCell']
            case c2 => unfold maxLen; omega
            case c3 => omega
            case c4 => exact HDR.out.size
            intro v' w' hown' hgrow
            rw [HEN2.out] at hown'
            have hdl : (done ++ enc16 r).length = done.length + 1 := by rw [HEN.out, List.length_append]; rfl
            rw [← hdl] at hown'
            have HOW := Lib.hid hown'
            have HGB := Lib.hid (HDR.out.grown hgrow HDR.out.size (fun k hk => own_below HOD.out k hk))
            have HDL := Lib.hid hdl
            clear hown' hgrow hdl
            go_wp2_with fail
            go_roundw
            case rel => exact ⟨a + n, done ++ enc16 r, r2, val_int (by omega), by omega, HNL.out, HR2.out, HU2.out, HOW.out, by have := HDL.out; have := HO4.out; omega, HGB.out⟩
            case measure => have := HNL.out; simp [intOf]; omega
        · rw [parse_no hne (by rw [hg0]; exact h92) hgood] at hpar
          cases hpar
    · have hz : a = E := by omega
      have HF := Lib.hid (show us = done by
        have hnil : ins q a = [] := List.eq_nil_of_length_eq_zero (by rw [ins_length]; have := HE.out; omega)
        rw [hnil, parse_nil] at hpar
        injection hpar with hpar
        rw [HUS.out, ← hpar, List.append_nil])
      have d1 : ¬ (a : Int) < (E : Int) := by omega
      clear hlt hz hpar
      go_wp2_with fail
      go_returns
      rw [HF.out]
      exact ⟨HBEL.out, _, rfl, HOWN.out⟩
end Go.Proofs.Ytkhnkemmkedfcaa.Wtf
