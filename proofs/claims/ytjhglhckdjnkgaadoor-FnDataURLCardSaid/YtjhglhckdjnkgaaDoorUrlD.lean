/- A text fetched, a data URL read: the reference's functions. The walks. -/
import Derived.Test.YtjhglhckdjnkgaaDoorUrlC
import Derived.IntWalk
namespace Go.Proofs.YtjhglhckdjnkgaaDoor.Url
open Go.RowKit Go.Proofs.YtjhglhckdjnkgaaDoor.Aid Go.Proofs.YtjhglhckdjnkgaaDoor.Runes
attribute [local go_sem ↓] Go.wp_at_zero Go.wp_at_succ
set_option linter.unusedVariables false
theorem hexDigit_is {b : Nat} {v : Int} (h : hexI b = v) (hb : b < 256) (w : World) : Calls Tryd.prog 55 #[.int .u8 b] w fun e w' => e = .returned (.int .i64 v) ∧ w' = w := by
  rw [← h]
  exact hexDigit_walk b hb w
/-- A piece out of a text. -/
theorem slice_mid (u : ByteArray) (a b : Nat) (h : a ≤ b) (hb : b ≤ u.size) (w : World) : (Instr.slice 9 (.string u) (some (.int .i64 a)) (some (.int .i64 b)) none).run Tryd.prog w = .ok (.string (u.extract a b)) w := by
  have h2 : (0 : Int) ≤ (b : Int) := by omega
  have h3 : (a : Int) ≤ ((b : Int).toNat : Int) := by omega
  have h4 : ¬ (((b : Int)).toNat : Int) < a := by omega
  have h5 : max (a : Int) 0 ≤ (b : Int) := by omega
  have h1 : (b : Int) ≤ (u.size : Int) := by omega
  have hx := run_sliceBound (P := Tryd.prog) w .i64 (a : Int) (b : Int).toNat BoundsCode.sliceB (by omega) (by omega)
  have ht : (b : Int).toNat = b := by omega
  rw [ht] at hx
  simp [Instr.slice, run_underlying Tryd.underlying9, Instr.sliceBounds, run_sliceBound, *]
theorem slice_one (u : ByteArray) (k : Nat) (h : k < u.size) (w : World) : (Instr.slice 9 (.string u) (some (.int .i64 k)) (some (.int .i64 ((k : Int) + 1))) none).run Tryd.prog w = .ok (.string (u.extract k (k + 1))) w :=
  slice_mid u k (k + 1) (by omega) (by omega) w
theorem extract_next (u : ByteArray) (k : Nat) (h : k < u.size) : u.extract 0 k ++ u.extract k (k + 1) = u.extract 0 (k + 1) := by
  have e : nats (u.extract 0 k ++ u.extract k (k + 1)) = nats (u.extract 0 (k + 1)) := by
    rw [nats_append, nats_extract, nats_extract, nats_extract, cut_cat u 0 k (k + 1) (by omega) (by omega) (by omega)]
  rw [← str_nats (u.extract 0 k ++ u.extract k (k + 1)), e, str_nats]
theorem extract_size0 (u : ByteArray) (a b : Nat) (h : a ≤ b) (hb : b ≤ u.size) : (u.extract a b).size = b - a := by rw [ByteArray.size_extract]; omega
theorem extract_all (u : ByteArray) : u.extract 0 u.size = u := by
  rw [← str_nats (u.extract 0 u.size), nats_extract, cut, List.drop_zero, List.take_of_length_le (by rw [nats_length]; omega), str_nats]
theorem extract_zero (u : ByteArray) : u.extract 0 0 = ⟨#[]⟩ := by
  rw [← str_nats (u.extract 0 0), nats_extract, cut_self]
  rfl
theorem extract_one (u : ByteArray) (k : Nat) (h : k < u.size) : u.extract k (k + 1) = str [byt u k] := by
  rw [← str_nats (u.extract k (k + 1)), nats_extract, cut_next u k k (by omega) h, cut_self]
  rfl
theorem or_four (a b : Nat) (ha : a < 16) (hb : b < 16) : bits .or .i64 ((a : Int) * 16) (b : Int) = ((16 * a + b : Nat) : Int) := by
  have := bits_join .i64 63 (by decide) wraps_i64 4 ((a : Int) * 16) (b : Int) (by omega) (by omega) (by omega) (by omega) (by omega) (by omega)
  rw [this]
  omega
/-- One byte as a text, out of the block that the statement has just laid. -/
theorem conv_one (x : Nat) (hx : x < 256) (w : World) : (convert 56 9 (.slice (some ⟨w.heap.size, 0, none⟩) 1 1)).run Tryd.prog (w.alloc (.cells #[.int .u8 x] 5)) = .ok (.string (str [x])) (w.alloc (.cells #[.int .u8 x] 5)) := by
  rw [run_convert_bytes_arg (w.alloc (.cells #[.int .u8 x] 5)) 56 5 Tryd.underlying56 Tryd.underlying5 w.heap.size 0 1 1 [(x : Int)] rfl (fun i hi => ?_) 9 Tryd.underlying9]
  · simp only [strOfNums, str, List.map_cons, List.map_nil, Int.toNat_natCast]
  · match i, hi with
    | 0, _ => exact (Blk.new w 5 [.int .u8 x]).get 0 rfl
theorem info5 : (Tryd.prog.info? 5).map (fun i => (i.zero, i.size, i.bytes)) = some (some (.int .u8 0), 1, 1) := by kernel_rfl
set_option maxRecDepth 100000 in
set_option maxHeartbeats 2000000 in
theorem fetched_walk (u : ByteArray) (w : World) (hs : u.size ≤ 1000000) (hc : ∀ b ∈ nats u, ctl b = false) (hl : ∀ c, (nats u).getLast? = some c → 32 < c) :
    Calls Tryd.prog 30 #[.string u] w fun e w' => e = .returned (.string (str (dec (nats u)))) ∧ Below w.heap.size w w' := by
  have HC := Lib.hid hc
  have HL := Lib.hid hl
  obtain ⟨i0, hi, hz0, hz1, hz2⟩ := info_parts info5
  clear hc hl
  go_enter Tryd.func30, Tryd.ntmps30
  go_wp2_with fail
  go_loop [3, 4] (fun kept i => ∃ k : Nat, k ≤ u.size ∧ i = .int .i64 k ∧ kept = .string (u.extract 0 k)) (fun _ i => u.size - (intOf i).toNat)
  case atStart => exact ⟨0, Nat.zero_le _, rfl, by rw [extract_zero]⟩
  case round =>
    obtain ⟨k, hk, rfl, rfl⟩ := hrel
    by_cases hlt : k < u.size
    · have hg := nats_get u k hlt
      have hcb := HC.out (byt u k) (List.mem_of_getElem? hg)
      rw [byt_eq u k hlt] at hcb
      obtain ⟨b, eb⟩ : ∃ b : Nat, (u[k]'hlt).toNat = b := ⟨_, rfl⟩
      rw [eb] at hcb
      simp only [ctl, Bool.or_eq_false_iff, decide_eq_false_iff_not] at hcb
      have t1 : ((b : Int) != 9) = true := by simp; omega
      have t2 : ((b : Int) != 10) = true := by simp; omega
      have t3 : ((b : Int) != 13) = true := by simp; omega
      have i1 : (k : Int) < u.size := by omega
      have hso := slice_one u k hlt
      have HN := Lib.hid (extract_next u k hlt)
      obtain ⟨A, hA⟩ : ∃ A, A = u.extract 0 k := ⟨_, rfl⟩
      obtain ⟨C, hC⟩ : ∃ C, C = u.extract k (k + 1) := ⟨_, rfl⟩
      have a1 : A.size = k := by rw [hA, extract_size0 u 0 k (by omega) hk]; omega
      have c1 : C.size = 1 := by rw [hC, extract_size0 u k (k + 1) (by omega) (by omega)]; omega
      have a2 : A.size ≤ 1000000 := by omega
      have c2 : C.size ≤ 1 := by omega
      rw [← hA, ← hC] at HN
      rw [← hC] at hso
      rw [← hA]
      clear hg hcb a1 c1 hA hC
      go_wp2_with fail
      go_round
      case rel => exact ⟨k + 1, by omega, by go_num, by rw [HN.out]⟩
      case measure => simp [intOf]; omega
    · have hge : (u.size : Int) ≤ k := by omega
      have he : u.extract 0 k = u := by rw [show k = u.size from by omega]; exact extract_all u
      rw [he]
      clear he hlt
      go_wp2_with fail
      go_loop [3] (fun v => v = .string u) (fun _ => 0)
      case atStart => rfl
      case round =>
        obtain rfl := hrel
        by_cases h0 : u.size = 0
        · have h0' : ¬ (0 : Int) < u.size := by omega
          have HZ := Lib.hid h0
          clear h0
          go_wp2_with fail
          go_loopw [5, 6] (fun out i wr => ∃ (k : Nat) (o : List Nat), k ≤ u.size ∧ i = .int .i64 k ∧ out = .string (str o) ∧ o.length ≤ k ∧ o ++ dec ((nats u).drop k) = dec (nats u) ∧ Below w.heap.size w wr) (fun _ i _ => u.size - (intOf i).toNat)
          case atStart => exact ⟨0, [], Nat.zero_le _, rfl, rfl, Nat.le_refl _, rfl, Below.refl _ _⟩
          case round =>
            obtain ⟨k, o, hk, rfl, rfl, ho, hdec, hbel⟩ := hrel
            have HB := Lib.hid hbel
            have hos := str_size o
            obtain ⟨A, hA⟩ : ∃ A, A = str o := ⟨_, rfl⟩
            rw [← hA] at hos ⊢
            have a2 : A.size ≤ 1000000 := by omega
            have HA := Lib.hid hA
            have HO := Lib.hid ho
            clear hbel hos hA ho
            by_cases hlt : k < u.size
            · exfalso
              have := HZ.out
              omega
            · have hge3 : (u.size : Int) ≤ k := by omega
              have HE := Lib.hid (show o = dec (nats u) by rw [← hdec, List.drop_eq_nil_of_le (by rw [nats_length]; omega), dec, List.append_nil])
              clear hdec hlt
              go_wp2_with fail
              go_returns
              exact ⟨by rw [HA.out, HE.out]; rfl, HB.out⟩
        · have h0' : (0 : Int) < u.size := by omega
          have hlt1 : u.size - 1 < u.size := by omega
          have e1 : ((u.size : Int) - 1).toNat = u.size - 1 := by omega
          have e2 : (0 : Int) ≤ (u.size : Int) - 1 := by omega
          have hlast : (nats u).getLast? = some (byt u (u.size - 1)) := by rw [List.getLast?_eq_getElem?, nats_length, nats_get u _ hlt1]
          have h32 := HL.out _ hlast
          rw [byt_eq u _ hlt1] at h32
          obtain ⟨b, eb⟩ : ∃ b : Nat, (u[u.size - 1]'hlt1).toNat = b := ⟨_, rfl⟩
          rw [eb] at h32
          have h32' : ¬ (b : Int) ≤ 32 := by omega
          clear hlast h0
          go_wp2_with fail
          go_loopw [5, 6] (fun out i wr => ∃ (k : Nat) (o : List Nat), k ≤ u.size ∧ i = .int .i64 k ∧ out = .string (str o) ∧ o.length ≤ k ∧ o ++ dec ((nats u).drop k) = dec (nats u) ∧ Below w.heap.size w wr) (fun _ i _ => u.size - (intOf i).toNat)
          case atStart => exact ⟨0, [], Nat.zero_le _, rfl, rfl, Nat.le_refl _, rfl, Below.refl _ _⟩
          case round =>
            obtain ⟨k, o, hk, rfl, rfl, ho, hdec, hbel⟩ := hrel
            have HB := Lib.hid hbel
            have hos := str_size o
            obtain ⟨A, hA⟩ : ∃ A, A = str o := ⟨_, rfl⟩
            rw [← hA] at hos ⊢
            have a2 : A.size ≤ 1000000 := by omega
            have HA := Lib.hid hA
            have HO := Lib.hid ho
            clear hbel hos hA ho
            by_cases hlt : k < u.size
            · have hdn := drop_next u k hlt
              rw [hdn] at hdec
              obtain ⟨b, hb⟩ : ∃ b : Nat, b = byt u k := ⟨_, rfl⟩
              have eb : (u[k]'hlt).toNat = b := by rw [hb, byt_eq u k hlt]
              have b255 := byt_lt u k
              rw [← hb] at hdec b255
              have hso := slice_one u k hlt
              have h1 := extract_one u k hlt
              rw [h1, ← hb] at hso
              have HB1 := Lib.hid hb
              have i1 : (k : Int) < u.size := by omega
              have htw := two_at u k
              clear hdn h1 hb
              have hcs := str_size [b]
              obtain ⟨C, hC⟩ : ∃ C, C = str [b] := ⟨_, rfl⟩
              rw [← hC] at hso hcs
              have c2 : C.size ≤ 1 := by rw [hcs]; exact Nat.le_refl _
              have HC1 := Lib.hid hC
              clear hcs hC
              by_cases q35 : b = 35
              · have t1 : ((b : Int) != 35) = false := by simp; omega
                have HE := Lib.hid (show o = dec (nats u) by rw [← hdec, q35, dec_hash, List.append_nil])
                clear hdec q35 htw
                go_wp2_with fail
                go_returns
                exact ⟨by rw [HA.out, HE.out]; rfl, HB.out⟩
              have t1 : ((b : Int) != 35) = true := by simp; omega
              by_cases q37 : b = 37
              · have t2 : ((b : Int) == 37) = true := by simp; omega
                by_cases hk2 : k + 2 < u.size
                · have i2 : (k : Int) + 2 < u.size := by omega
                  have j1 : ((k : Int) + 1).toNat = k + 1 := by omega
                  have j2 : ((k : Int) + 2).toNat = k + 2 := by omega
                  have g1 : k + 1 < u.size := by omega
                  have w1 : IntKind.i64.wrap ((k : Int) + 1) = (k : Int) + 1 := IntWalk.i64_in _ (by omega)
                  have w2 : IntKind.i64.wrap ((k : Int) + 2) = (k : Int) + 2 := IntWalk.i64_in _ (by omega)
                  have p1 : (0 : Int) ≤ (k : Int) + 1 := by omega
                  have p2 : (0 : Int) ≤ (k : Int) + 2 := by omega
                  have p3 : (k : Int) + 1 < u.size := by omega
                  have hd1 := drop_next u (k + 1) g1
                  have hd2 := drop_next u (k + 2) hk2
                  obtain ⟨x, hx⟩ : ∃ x : Nat, x = byt u (k + 1) := ⟨_, rfl⟩
                  obtain ⟨y, hy⟩ : ∃ y : Nat, y = byt u (k + 2) := ⟨_, rfl⟩
                  have ex : (u[k + 1]'g1).toNat = x := by rw [hx, byt_eq u _ g1]
                  have ey : (u[k + 2]'hk2).toNat = y := by rw [hy, byt_eq u _ hk2]
                  have x255 := byt_lt u (k + 1)
                  have y255 := byt_lt u (k + 2)
                  rw [← hx] at x255 hd1 htw
                  rw [← hy] at y255 hd2 htw
                  clear hx hy
                  rcases hvx : hexv x with _ | v1
                  · have hi1 : hexI x = -1 := by simp [hexI, hvx]
                    have HX := Lib.hid (fun w => hexDigit_is hi1 x255 w)
                    have HY := Lib.hid (fun w => hexDigit_walk y y255 w)
                    clear hi1
                    have HD := Lib.hid (show o ++ ([b] ++ dec ((nats u).drop (k + 1))) = dec (nats u) by rw [← hdec, q37, dec_not _ (by rw [htw]; simp [isHex, hvx])]; rfl)
                    have HVX := Lib.hid hvx
                    clear hdec q35 q37 htw hvx hd1 hd2
                    go_wp2_with fail
                    go_quiet ((first | (go_at_call 55; with_reducible exact Calls.quiet_of_same (HX.out _)) | (go_at_call 55; with_reducible exact Calls.quiet_of_same (HY.out _))))
                    go_wp2_with fail
                    go_roundw
                    case rel =>
                      refine ⟨k + 1, o ++ [b], by omega, by go_num, by rw [HA.out, HC1.out, str_append], by rw [List.length_append]; have := HO.out; simp; omega, ?_, below_drewN HB.out _⟩
                      rw [List.append_assoc]
                      exact HD.out
                    case measure => simp [intOf]; omega
                  · have v1b := hexv_lt hvx
                    have hi1 : hexI x = (v1 : Int) := by simp [hexI, hvx]
                    have HX := Lib.hid (fun w => hexDigit_is hi1 x255 w)
                    clear hi1
                    rcases hvy : hexv y with _ | v2
                    · have hi2 : hexI y = -1 := by simp [hexI, hvy]
                      have HY := Lib.hid (fun w => hexDigit_is hi2 y255 w)
                      clear hi2
                      have HD := Lib.hid (show o ++ ([b] ++ dec ((nats u).drop (k + 1))) = dec (nats u) by rw [← hdec, q37, dec_not _ (by rw [htw]; simp [isHex, hvy])]; rfl)
                      clear hdec q35 q37 htw hvx hvy hd1 hd2
                      go_wp2_with fail
                      go_quiet ((first | (go_at_call 55; with_reducible exact Calls.quiet_of_same (HX.out _)) | (go_at_call 55; with_reducible exact Calls.quiet_of_same (HY.out _))))
                      go_wp2_with fail
                      go_roundw
                      case rel =>
                        refine ⟨k + 1, o ++ [b], by omega, by go_num, by rw [HA.out, HC1.out, str_append], by rw [List.length_append]; have := HO.out; simp; omega, ?_, below_drewN HB.out _⟩
                        rw [List.append_assoc]
                        exact HD.out
                      case measure => simp [intOf]; omega
                    · have v2b := hexv_lt hvy
                      have hi2 : hexI y = (v2 : Int) := by simp [hexI, hvy]
                      have HY := Lib.hid (fun w => hexDigit_is hi2 y255 w)
                      clear hi2
                      have HD := Lib.hid (show o ++ ([16 * v1 + v2] ++ dec ((nats u).drop (k + 3))) = dec (nats u) by rw [← hdec, q37, hd1, hd2, dec_hex _ _ _ _ _ hvx hvy]; rfl)
                      have hor := or_four v1 v2 v1b v2b
                      have vlt : 16 * v1 + v2 < 256 := by omega
                      obtain ⟨z, hz⟩ : ∃ z, z = 16 * v1 + v2 := ⟨_, rfl⟩
                      rw [← hz] at hor vlt HD
                      have hcs := str_size [z]
                      obtain ⟨Z, hZ⟩ : ∃ Z, Z = str [z] := ⟨_, rfl⟩
                      have hcv : ∀ (w : World) (n : Nat), (convert 56 9 (.slice (some ⟨w.heap.size, 0, none⟩) 1 1)).run Tryd.prog ((w.drewN n).alloc (.cells #[.int .u8 z] 5)) = .ok (.string Z) ((w.drewN n).alloc (.cells #[.int .u8 z] 5)) := by
                        intro w n
                        rw [hZ]
                        exact conv_one z vlt (w.drewN n)
                      rw [← hZ] at hcs
                      have z2 : Z.size ≤ 1 := by rw [hcs]; exact Nat.le_refl _
                      have HZ1 := Lib.hid hZ
                      clear hdec q35 q37 htw hvx hvy hd1 hd2 hz hcs hZ
                      go_wp2_with fail
                      go_quiet ((first | (go_at_call 55; with_reducible exact Calls.quiet_of_same (HX.out _)) | (go_at_call 55; with_reducible exact Calls.quiet_of_same (HY.out _))))
                      go_wp2_with fail
                      go_roundw
                      case rel =>
                        refine ⟨k + 3, o ++ [z], by omega, by go_num, by rw [HA.out, HZ1.out, str_append], by rw [List.length_append]; have := HO.out; simp; omega, ?_, (below_drewN HB.out _).alloc (by have := HB.out.size; simpa using this) _⟩
                        rw [List.append_assoc]
                        exact HD.out
                      case measure => simp [intOf]; omega
                · have i2 : (u.size : Int) ≤ (k : Int) + 2 := by omega
                  have HD := Lib.hid (show o ++ ([b] ++ dec ((nats u).drop (k + 1))) = dec (nats u) by rw [← hdec, q37, dec_not _ (by rw [htw]; simp [hk2])]; rfl)
                  clear hdec q35 q37 htw hk2
                  go_wp2_with fail
                  go_roundw
                  case rel =>
                    refine ⟨k + 1, o ++ [b], by omega, by go_num, by rw [HA.out, HC1.out, str_append], by rw [List.length_append]; have := HO.out; simp; omega, ?_, HB.out⟩
                    rw [List.append_assoc]
                    exact HD.out
                  case measure => simp [intOf]; omega
              · have t2 : ((b : Int) == 37) = false := by simp; omega
                have HD := Lib.hid (show o ++ ([b] ++ dec ((nats u).drop (k + 1))) = dec (nats u) by rw [← hdec, dec_plain b _ q35 q37]; rfl)
                clear hdec q35 q37 htw
                go_wp2_with fail
                go_roundw
                case rel =>
                  refine ⟨k + 1, o ++ [b], by omega, by go_num, by rw [HA.out, HC1.out, str_append], by rw [List.length_append]; have := HO.out; simp; omega, ?_, HB.out⟩
                  rw [List.append_assoc]
                  exact HD.out
                case measure => simp [intOf]; omega
            · have hge3 : (u.size : Int) ≤ k := by omega
              have HE := Lib.hid (show o = dec (nats u) by rw [← hdec, List.drop_eq_nil_of_le (by rw [nats_length]; omega), dec, List.append_nil])
              clear hdec hlt
              go_wp2_with fail
              go_returns
              exact ⟨by rw [HA.out, HE.out]; rfl, HB.out⟩
end Go.Proofs.YtjhglhckdjnkgaaDoor.Url
