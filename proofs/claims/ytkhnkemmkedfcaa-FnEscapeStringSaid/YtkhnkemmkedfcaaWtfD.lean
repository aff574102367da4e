/- The reference's code units of a text of WTF-8. The walk. -/
import Derived.Test.YtkhnkemmkedfcaaWtfC
import Derived.Deep.DeepCutAuto
namespace Go.Proofs.Ytkhnkemmkedfcaa.Wtf
open Go.RowKit Go.Proofs.Ytkhnkemmkedfcaa.Aid Go.Proofs.Ytkhnkemmkedfcaa.Runes Go.Proofs.Ytkhnkemmkedfcaa.Bytes
attribute [local go_sem ↓] Go.wp_at_zero Go.wp_at_succ
set_option linter.unusedVariables false
/-- append of elements of one cell each, which the statement has just laid into a block of their own: told over the world ahead of that block. -/
theorem wpList_append_list {P : Program} {W : World} {ops : Array Oper} {rest : List Oper} {o : Oper} {a : Act} {Q : Exit → Act → World → Prop} (hgd : o.guard = none) (s x : Operand) (t : TypeId)
    (ho : o.op = .call { callee := .builtin .append, args := #[s, x], argTypes := #[t, t] })
    (base : Nat) (e : TypeId) (i : TypeInfo) (z : Value) (bytes : Nat) (ht : P.underlying t = some (.slice e)) (hi : P.info? e = some i) (hz : i.zero = some z)
    (hsize : i.size = 1) (hby : i.bytes = bytes) (hzs : z.cells.size = 1)
    (v : Value) (n : Nat) (xs : List Value) (hs : a.eval s = v) (hown : W.ownsRow base e 1 v n xs)
    (us : List Value) (m : Nat) (hm : us.length = m) (hx : a.eval x = .slice (some ⟨W.heap.size, 0, none⟩) m m) (h1 : ∀ u ∈ us, u.oneCell' = true)
    (h63 : n + m ≤ maxLen) (hbytes : (n + m) * bytes ≤ 140737488355328) (hbase : base ≤ W.heap.size)
    (h : ∀ v' w', w'.ownsRow base e 1 v' (n + m) (xs ++ us) → W.grownBy w' v.ownBlock → wpList P ops Q rest (a.put o.dst v') w') :
    wpList P ops Q (o :: rest) a (W.alloc (.cells us.toArray e)) := by
  subst hm
  refine wpList_append_own (W.alloc (.cells us.toArray e)) hgd s x t ho base e i z 1 bytes ht hi hz hsize hby hzs (by omega) v n xs hs (hown.alloc _) ⟨W.heap.size, 0, none⟩ us.length us.length us hx (by omega) ?_ h1 h63 hbytes (by simp; omega) ?_
  · intro j y hj
    rw [add_at, Nat.zero_add]
    exact (Blk.new W e us).get j hj
  · intro v' w' h2 h3 _
    exact h v' w' h2 ⟨h3.os, h3.tape, h3.output, Nat.le_trans (by simp) h3.size, fun k hk hr => (h3.block k (by simp; omega) hr).trans (Below.heap_alloc W _ k hk)⟩
def ucells (l : List Nat) : List Value := l.map fun (n : Nat) => .int .u16 (n : Int)
theorem ucells_append (a b : List Nat) : ucells (a ++ b) = ucells a ++ ucells b := by simp [ucells]
theorem info41 : (Try.prog.info? 41).map (fun i => (i.zero, i.size, i.bytes)) = some (some (.int .u16 0), 1, 2) := by kernel_rfl
theorem slice_from (u : ByteArray) (a : Nat) (ha : a ≤ u.size) (w : World) : (Instr.slice 9 (.string u) (some (.int .i64 a)) none none).run Try.prog w = .ok (.string (u.extract a u.size)) w := by
  have h1 : (a : Int) ≤ (u.size : Int) := by omega
  have hx := run_sliceBound (P := Try.prog) w .i64 (a : Int) u.size BoundsCode.sliceB (by omega) (by omega)
  simp [Instr.slice, run_underlying Try.underlying9, Instr.sliceBounds, *]
theorem nats_rest (s : ByteArray) (a : Nat) : nats (s.extract a s.size) = (nats s).drop a := by
  rw [nats_extract, cut, List.take_of_length_le (by rw [List.length_drop, nats_length]; omega)]
/-- What the call hands back. -/
def Units (o : Option (List Nat)) (w : World) (e : Ending) (w' : World) : Prop :=
  Below w.heap.size w w' ∧ match o with
  | some us => ∃ v, e = .returned (.tuple #[v, .bool true]) ∧ w'.ownsRow w.heap.size 41 1 v us.length (ucells us) ∧ us.length ≤ 2147483647
  | none => e = .returned (.tuple #[.slice none 0 0, .bool false])
theorem and1023 (x : Nat) (h : x < 2 ^ 63) : bits .and .i64 (x : Int) 1023 = ((x % 1024 : Nat) : Int) := by
  have := bits_mask .i64 63 (by decide) wraps_i64 10 (by decide) (x : Int) (by omega) (by exact_mod_cast h)
  rw [show ((2 : Int) ^ 10 - 1) = 1023 from rfl] at this
  rw [this]
  omega
set_option maxRecDepth 100000 in
set_option maxHeartbeats 4000000 in
theorem wtfUnits (s : ByteArray) (w : World) (hs : s.size ≤ 2147483647) : Calls Try.prog 14 #[.string s] w (Units (units 0 (nats s)) w) := by
  obtain ⟨i0, hi, hz0, hz1, hz2⟩ := info_parts info41
  obtain ⟨U, hU⟩ : ∃ U, U = units 0 (nats s) := ⟨_, rfl⟩
  rw [← hU]
  have HU := Lib.hid hU
  clear hU
  go_enter Try.func14, Try.ntmps14
  go_wp2_with fail
  go_loopw [0, 4, 5] (fun sv out lv wr => ∃ (cur : ByteArray) (last : Nat) (done : List Nat), sv = .string cur ∧ lv = .int .i64 last ∧ last ≤ 1114111 ∧ U = (units last (nats cur)).map (done ++ ·) ∧ wr.ownsRow w.heap.size 41 1 out done.length (ucells done) ∧ done.length + cur.size ≤ s.size ∧ Below w.heap.size w wr) (fun sv _ _ _ => match sv with | .string c => c.size | _ => 0)
  case atStart => exact ⟨s, 0, [], rfl, rfl, by omega, by rw [HU.out]; simp, own_nil _ _ _ _, by simp, Below.refl _ _⟩
  case round =>
    obtain ⟨cur, last, done, rfl, rfl, hlast, hrec, hown, hlen, hbel⟩ := hrel
    have HREC := Lib.hid hrec
    have HOWN := Lib.hid hown
    have HBEL := Lib.hid hbel
    clear hrec hown hbel
    by_cases hpos : 0 < cur.size
    · have hne : nats cur ≠ [] := by
        intro h
        have := nats_length cur
        rw [h, List.length_nil] at this
        omega
      have i0' : (0 : Int) < cur.size := by omega
      have HR := Lib.hid (fun w => wtfRune cur w (by omega))
      obtain ⟨r, n, hrn⟩ : ∃ r n, lrune (nats cur) = (r, n) := ⟨_, _, rfl⟩
      rw [hrn] at HR
      by_cases hn : n = 0
      · have HE := Lib.hid (show U = none by rw [HREC.out, units_none hne (by rw [hrn]; exact hn)]; rfl)
        subst hn
        clear hrn hne
        go_wp2_with fail
        refine (HR.out _).mono ?_
        rintro e w1 ⟨rfl, nd, rfl⟩
        go_wp2_with fail
        go_returns
        rw [HE.out]
        exact ⟨below_drewN HBEL.out _, rfl⟩
      · have hn0 : 0 < n := by omega
        have ho := lrune_pos hrn hn0
        have HT := Lib.hid (fun w => trail_walk r w)
        have HL := Lib.hid (fun w => lead_walk last w)
        have hnc : (nats cur).length = cur.size := nats_length cur
        have hn4 := ho.1
        have hnl : n ≤ cur.size := by have := ho.2.1; omega
        have hrm := ho.2.2.2.1
        have HO4 := Lib.hid ho.2.2.2.2.2.1
        obtain ⟨B, hB⟩ : ∃ B : Bool, B = (decide (n = 3) && trail r && lead last) := ⟨_, rfl⟩
        have HBB := Lib.hid hB
        clear hB ho hnc
        have hne0 : ((n : Int) == 0) = false := by simp; omega
        have HRN := Lib.hid hrn
        have HNE := Lib.hid hne
        clear hrn hne hn
        go_wp2_with fail
        refine (HR.out _).mono ?_
        rintro e w1 ⟨rfl, nd, rfl⟩
        go_upto_region 5 with fail
        go_cut [29] (fun c wx => c = .bool B ∧ wx = wr.drewN nd)
        case first =>
          by_cases q3 : n = 3
          · have t3 : ((n : Int) == 3) = true := by simp; omega
            by_cases qt : trail r = true
            · have HT2 := Lib.hid (show ∀ w, Calls Try.prog 25 #[.int .i64 r] w fun e w' => e = .returned (.bool true) ∧ w' = w from fun w => by rw [← qt]; exact HT.out w)
              have HE := Lib.hid (show B = lead last by rw [HBB.out, qt, q3]; rfl)
              clear q3 qt
              go_wp2_with fail
              refine (HT2.out _).mono ?_
              rintro e w2 ⟨rfl, rfl⟩
              go_wp2_with fail
              refine (HL.out _).mono ?_
              rintro e w2 ⟨rfl, rfl⟩
              rw [← HE.out]
              go_wp2_with fail
              go_meet
              exact ⟨rfl, rfl⟩
            · have HT2 := Lib.hid (show ∀ w, Calls Try.prog 25 #[.int .i64 r] w fun e w' => e = .returned (.bool false) ∧ w' = w from fun w => by rw [← show trail r = false by simpa using qt]; exact HT.out w)
              have HE := Lib.hid (show B = false by rw [HBB.out]; simp [qt])
              clear q3 qt
              go_wp2_with fail
              refine (HT2.out _).mono ?_
              rintro e w2 ⟨rfl, rfl⟩
              go_wp2_with fail
              go_meet
              exact ⟨by rw [HE.out], rfl⟩
          · have t3 : ((n : Int) == 3) = false := by simp; omega
            have HE := Lib.hid (show B = false by rw [HBB.out]; simp [q3])
            clear q3
            go_wp2_with fail
            go_meet
            exact ⟨by rw [HE.out], rfl⟩
        case rest =>
          obtain ⟨rfl, rfl⟩ := hcut
          cases hBv : B
          · have HP := Lib.hid (show ¬ (n = 3 ∧ trail r = true ∧ lead last = true) by
              intro h
              have := HBB.out
              rw [hBv] at this
              simp [h] at this)
            have HN := Lib.hid (show U = (units r (nats (cur.extract n cur.size))).map ((done ++ enc16 r) ++ ·) by
              rw [HREC.out, units_next HNE.out (by rw [HRN.out]; exact hn0) (by rw [HRN.out]; exact HP.out), HRN.out, nats_rest]
              cases units r ((nats cur).drop n) <;> simp)
            have hcsz : (cur.extract n cur.size).size = cur.size - n := extract_size0 cur n cur.size (by omega) (by omega)
            have hsl := fun w => slice_from cur n (by omega) w
            obtain ⟨C, hC⟩ : ∃ C, C = cur.extract n cur.size := ⟨_, rfl⟩
            rw [← hC] at HN hcsz hsl
            have HCZ := Lib.hid hcsz
            have HDR := Lib.hid (below_drewN HBEL.out nd)
            have HOD := Lib.hid (own_keep HOWN.out (below_drewN (Below.refl _ _) nd))
            clear hC hcsz hBv
            by_cases h16 : 65536 ≤ r
            · have t16 : (65536 : Int) ≤ r := by omega
              obtain ⟨x, hx⟩ : ∃ x : Nat, x = r - 65536 := ⟨_, rfl⟩
              have e1 : (r : Int) - 65536 = (x : Int) := by omega
              have hxb : x < 1048576 := by omega
              have hm := and1023 x (by omega)
              obtain ⟨y, hy⟩ : ∃ y : Nat, y = x / 1024 := ⟨_, rfl⟩
              obtain ⟨z, hz⟩ : ∃ z : Nat, z = x % 1024 := ⟨_, rfl⟩
              rw [← hz] at hm
              have e2 : (x : Int) / 1024 = (y : Int) := by omega
              have y1 : y < 1024 := by omega
              have z1 : z < 1024 := by omega
              have HEN := Lib.hid (show enc16 r = [55296 + y, 56320 + z] by rw [enc16, if_pos h16, ← hx, ← hy, ← hz])
              have HEN2 := Lib.hid (show ucells done ++ [.int .u16 (55296 + (y : Int)), .int .u16 (56320 + (z : Int))] = ucells (done ++ enc16 r) by rw [HEN.out, ucells_append]; simp [ucells])
              clear hx hy hz h16
              go_wp2_with (at_builtin; refine wpList_append_list rfl _ _ 22 rfl w.heap.size 41 i0 (.int .u16 0) 2 Try.underlying22 hi hz0 hz1 hz2 rfl _ done.length (ucells done) rfl HOD.out [.int .u16 (55296 + (y : Int)), .int .u16 (56320 + (z : Int))] 2 rfl rfl ?c1 ?c2 ?c3 ?c4 ?_)
              case c1 => simp [Value.oneCell']
              case c2 => unfold maxLen; omega
              case c3 => omega
              case c4 => exact HDR.out.size
              intro v' w' hown' hgrow
              rw [HEN2.out] at hown'
              have hdl : (done ++ enc16 r).length = done.length + 2 := by rw [HEN.out, List.length_append]; rfl
              rw [← hdl] at hown'
              have HOW := Lib.hid hown'
              have HGB := Lib.hid (HDR.out.grown hgrow HDR.out.size (fun k hk => own_below HOD.out k hk))
              have HDL := Lib.hid hdl
              clear hown' hgrow hdl
              go_wp2_with fail
              go_roundw
              case rel => exact ⟨C, r, done ++ enc16 r, rfl, rfl, hrm, HN.out, HOW.out, by have := HCZ.out; have := HDL.out; have := HO4.out; omega, HGB.out⟩
              case measure => have := HCZ.out; simp only; omega
            · have t16 : ¬ (65536 : Int) ≤ r := by omega
              have HEN := Lib.hid (show enc16 r = [r] from if_neg h16)
              have HEN2 := Lib.hid (show ucells done ++ [.int .u16 (r : Int)] = ucells (done ++ enc16 r) by rw [HEN.out, ucells_append]; simp [ucells])
              have r16 : r < 65536 := by omega
              clear h16
              go_wp2_with (at_builtin; refine wpList_append_list rfl _ _ 22 rfl w.heap.size 41 i0 (.int .u16 0) 2 Try.underlying22 hi hz0 hz1 hz2 rfl _ done.length (ucells done) rfl HOD.out [.int .u16 (r : Int)] 1 rfl rfl ?c1 ?c2 ?c3 ?c4 ?_)
              case c1 => simp [Value.oneCell']
              case c2 => unfold maxLen; omega
              case c3 => omega
              case c4 => exact HDR.out.size
              intro v' w' hown' hgrow
              rw [HEN2.out] at hown'
              have hdl : (done ++ enc16 r).length = done.length + 1 := by rw [HEN.out, List.length_append]; rfl
              rw [← hdl] at hown'
              have HOW := Lib.hid hown'
              have HGB := Lib.hid (HDR.out.grown hgrow HDR.out.size (fun k hk => own_below HOD.out k hk))
              have HDL := Lib.hid hdl
              clear hown' hgrow hdl
              go_wp2_with fail
              go_roundw
              case rel => exact ⟨C, r, done ++ enc16 r, rfl, rfl, hrm, HN.out, HOW.out, by have := HCZ.out; have := HDL.out; have := HO4.out; omega, HGB.out⟩
              case measure => have := HCZ.out; simp only; omega
          · have HE := Lib.hid (show U = none by
              have := HBB.out
              rw [hBv] at this
              have h3 := this.symm
              simp only [Bool.and_eq_true, decide_eq_true_eq] at h3
              rw [HREC.out, units_pair HNE.out (by rw [HRN.out]; exact hn0) (by rw [HRN.out]; exact ⟨h3.1.1, h3.1.2, h3.2⟩)]
              rfl)
            clear hBv
            go_wp2_with fail
            go_returns
            rw [HE.out]
            exact ⟨below_drewN HBEL.out _, rfl⟩
    · have hz : cur.size = 0 := by omega
      have HE := Lib.hid (show U = some done by
        have hnil : nats cur = [] := List.eq_nil_of_length_eq_zero (by rw [nats_length]; exact hz)
        rw [HREC.out, hnil, units_nil]
        simp)
      have i0' : ¬ (0 : Int) < cur.size := by omega
      clear hpos hz
      go_wp2_with fail
      go_returns
      rw [HE.out]
      exact ⟨HBEL.out, _, rfl, HOWN.out, by omega⟩
end Go.Proofs.Ytkhnkemmkedfcaa.Wtf
