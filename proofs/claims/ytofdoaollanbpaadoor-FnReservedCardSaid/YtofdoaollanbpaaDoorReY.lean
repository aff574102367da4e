/- The law on the reserved names. The walk. -/
import Derived.Test.YtofdoaollanbpaaDoorReX
namespace Go.Proofs.YtofdoaollanbpaaDoor.Res
open Go.RowKit Go.Proofs.YtofdoaollanbpaaDoor.Aid
attribute [local go_sem ↓] Go.wp_at_zero Go.wp_at_succ
set_option linter.unusedVariables false
set_option linter.unusedSimpArgs false
variable {H : Type}
set_option maxRecDepth 100000 in
theorem topOf (A : Option Addr) (n c : Nat) (S : Nat → Sc) (w : World) (h : RSc w A n S) (hn : 0 < n) (hs : (S 0).Small) :
    Calls Tryd.prog 10 #[.slice A n c] w fun e w' => Below w.heap.size w w' ∧ ∃ B k kc, e = .returned (.slice B k kc) ∧ k = (S 0).ownN ∧ Reads w' B k (fun j => .int .i64 ((S 0).ownAt j)) ∧ k ≤ 4294967295 := by
  obtain ⟨hIn, b, o, hA, hb, c0, c1, c2, c3, c4, c5, c6⟩ := h 0 hn
  subst hA
  have hn' : (0 : Int) < n := by omega
  have HO := Lib.hid (scopeOwn (S 0) w hIn hs.2.2.1 hs.2.2.2)
  clear hIn h hs
  rw [Nat.zero_mul, Nat.add_zero] at c0 c1 c2 c3 c4 c5 c6
  go_enter Tryd.func10, Tryd.ntmps10
  go_wp2_with fail
  refine HO.out.mono ?_
  rintro e w1 ⟨b1, B, k, kc, rfl, hO, hk⟩
  have HR := Lib.hid (Sc.own_reads hO)
  have HB := Lib.hid b1
  clear hO b1
  go_wp2_with fail
  go_returns
  exact ⟨HB.out, B, k, kc, rfl, HR.out.1, HR.out.2, hk⟩
/-- The words that may not name a variable. -/
def wordList : List ByteArray := [⟨#[98, 114, 101, 97, 107]⟩, ⟨#[99, 97, 115, 101]⟩, ⟨#[99, 97, 116, 99, 104]⟩, ⟨#[99, 108, 97, 115, 115]⟩, ⟨#[99, 111, 110, 115, 116]⟩, ⟨#[99, 111, 110, 116, 105, 110, 117, 101]⟩, ⟨#[100, 101, 98, 117, 103, 103, 101, 114]⟩, ⟨#[100, 101, 102, 97, 117, 108, 116]⟩, ⟨#[100, 101, 108, 101, 116, 101]⟩, ⟨#[100, 111]⟩, ⟨#[101, 108, 115, 101]⟩, ⟨#[101, 110, 117, 109]⟩, ⟨#[101, 120, 112, 111, 114, 116]⟩, ⟨#[101, 120, 116, 101, 110, 100, 115]⟩, ⟨#[102, 97, 108, 115, 101]⟩, ⟨#[102, 105, 110, 97, 108, 108, 121]⟩, ⟨#[102, 111, 114]⟩, ⟨#[102, 117, 110, 99, 116, 105, 111, 110]⟩, ⟨#[105, 102]⟩, ⟨#[105, 109, 112, 111, 114, 116]⟩, ⟨#[105, 110]⟩, ⟨#[105, 110, 115, 116, 97, 110, 99, 101, 111, 102]⟩, ⟨#[110, 101, 119]⟩, ⟨#[110, 117, 108, 108]⟩, ⟨#[114, 101, 116, 117, 114, 110]⟩, ⟨#[115, 117, 112, 101, 114]⟩, ⟨#[115, 119, 105, 116, 99, 104]⟩, ⟨#[116, 104, 105, 115]⟩, ⟨#[116, 104, 114, 111, 119]⟩, ⟨#[116, 114, 117, 101]⟩, ⟨#[116, 114, 121]⟩, ⟨#[116, 121, 112, 101, 111, 102]⟩, ⟨#[118, 97, 114]⟩, ⟨#[118, 111, 105, 100]⟩, ⟨#[119, 104, 105, 108, 101]⟩, ⟨#[119, 105, 116, 104]⟩, ⟨#[105, 109, 112, 108, 101, 109, 101, 110, 116, 115]⟩, ⟨#[105, 110, 116, 101, 114, 102, 97, 99, 101]⟩, ⟨#[108, 101, 116]⟩, ⟨#[112, 97, 99, 107, 97, 103, 101]⟩, ⟨#[112, 114, 105, 118, 97, 116, 101]⟩, ⟨#[112, 114, 111, 116, 101, 99, 116, 101, 100]⟩, ⟨#[112, 117, 98, 108, 105, 99]⟩, ⟨#[115, 116, 97, 116, 105, 99]⟩, ⟨#[121, 105, 101, 108, 100]⟩]
def wordAt (i : Nat) : ByteArray := wordList.getD i ⟨#[]⟩
/-- A text of the list. -/
def tsAt (ts : List (List UInt8)) (i : Nat) : ByteArray := ⟨(ts.getD i []).toArray⟩
theorem Listed.reads {w' : World} {base g cap : Nat} {ts : List (List UInt8)} {DK DS : DataW H} {s : Sc} {Y : Nat → Sy} (h : Listed w' base g cap ts DK DS s Y) : Reads w' (some ⟨g, 0, none⟩) ts.length (fun i => .string (tsAt ts i)) :=
  Reads.of_own h.own fun i hi => by
    rw [List.getElem?_map, List.getElem?_eq_getElem hi]
    simp [tsAt, encStr, List.getD, hi]
theorem tsAt_mem {ts : List (List UInt8)} {x : ByteArray} (h : x.data.toList ∈ ts) : ∃ i, i < ts.length ∧ tsAt ts i = x := by
  obtain ⟨i, hi, he⟩ := List.getElem_of_mem h
  refine ⟨i, hi, ?_⟩
  unfold tsAt
  rw [List.getD, List.getElem?_eq_getElem hi]
  simp [he]
theorem space_four {fl k : Int} (hf : fl = 0 ∨ fl = 1) (h : space fl k (bits .and .i64 fl 1 != 0) = 4) : (k == 0 || fl == 1) = true := by
  rcases hf with rfl | rfl
  · by_cases q : k = 0
    · simp [q]
    · exfalso
      rw [space, if_neg q, if_neg (by decide)] at h
      split at h
      · cases h
      · split at h
        · cases h
        · split at h <;> cases h
  · simp
theorem less_lt : ∀ (x y : List UInt8), x < y → Op.bytesLess x y = true
  | [], [], h => absurd h (by simp)
  | _ :: _, [], h => absurd h (by simp)
  | [], _ :: _, _ => by simp [Op.bytesLess]
  | a :: x, b :: y, h => by
    rw [Op.bytesLess]
    rw [List.cons_lt_cons_iff] at h
    rcases h with h | ⟨rfl, h⟩
    · simp [h]
    · simp [less_lt x y h]
theorem less_of {x y : List UInt8} (h : ¬ y ≤ x) : Op.bytesLess x y = true := less_lt x y (by simpa using h)
theorem words_get : ∀ i, i < 45 → (wordList.map Value.string)[i]? = some (.string (wordAt i)) := by
  intro i hi
  have hl : i < wordList.length := hi
  rw [List.getElem?_map, List.getElem?_eq_getElem hl]
  simp [wordAt, List.getD, hl]
set_option maxRecDepth 100000 in
set_option maxHeartbeats 8000000 in
theorem law (A : Option Addr) (n c : Nat) (S : Nat → Sc) (B : Option Addr) (m mc : Nat) (Y : Nat → Sy) (y0 y1 : Int) (kb nk sb ns : Nat) (DK DS : DataW H) (w : World) (h : RSc w A n S) (hY : RSy w B m Y) (hL : Laid w kb nk sb ns DK DS y0 y1) (hn : n ≤ 9223372036854775807) (hm : m ≤ 9223372036854775807)
    (hw : ∀ i, i < 45 → Maps.has DK (.string (wordAt i).data.toList) = true ∨ Maps.has DS (.string (wordAt i).data.toList) = true) (hwh : Maps.has DK (.string [119, 104, 105, 108, 101]) = true) :
    Calls Tryd.prog 3 #[.slice A n c, .slice B m mc] w fun e w' => Below w.heap.size w w' ∧ e = .returned (.bool true) := by
  have HH := Lib.hid (fun W (hb : Below w.heap.size w W) => h.below hb)
  have HY := Lib.hid (fun W (hb : Below w.heap.size w W) => hY.below hb)
  have HL := Lib.hid (fun W (hb : Below w.heap.size w W) => hL.below hb)
  have HZ6 := Lib.hid (zzFits6 A n c S w h hn)
  have HZ1 := Lib.hid (fun W (hb : Below w.heap.size w W) => zzFits1 B m mc Y W (hY.below hb) hm)
  have HMO := Lib.hid (fun W (hb : Below w.heap.size w W) => modest A n c S B m mc Y W (h.below hb))
  have HRES := Lib.hid (fun (A : Option Addr) n c S B m mc Y W => reserved (H := H) A n c S B m mc Y y0 y1 kb nk sb ns DK DS W)
  have HLI := Lib.hid listed
  have HW := Lib.hid hw
  have HWH := Lib.hid hwh
  clear h hY hL hw hwh
  go_enter Tryd.func3, Tryd.ntmps3
  go_wp2_with fail
  refine HZ6.out.mono ?_
  rintro e w1 ⟨b1, z, rfl, hz⟩
  have HB1 := Lib.hid b1
  have HZ := Lib.hid hz
  clear b1 hz HZ6
  cases z
  · go_wp2_with fail
    go_returns
    exact ⟨HB1.out, rfl⟩
  go_wp2_with fail
  refine (HZ1.out _ HB1.out).mono ?_
  rintro e w2 ⟨b2, z, rfl, hz⟩
  have HB2 := Lib.hid (up HB1.out b2)
  have HZS := Lib.hid hz
  clear b2 hz HB1 HZ1
  cases z
  · go_wp2_with fail
    go_returns
    exact ⟨HB2.out, rfl⟩
  go_wp2_with fail
  refine (HMO.out _ HB2.out (HZ.out trivial).1 (HY.out _ HB2.out) (HZS.out trivial).1 (HZ.out trivial).2 (HZS.out trivial).2).mono ?_
  rintro e w3 ⟨b3, z, rfl, hz⟩
  have HB3 := Lib.hid (up HB2.out b3)
  have HMT := Lib.hid hz
  clear b3 hz HB2 HMO
  cases z
  · clear HMT HZ HZS
    have HNE := Lib.hid nested
    go_wp2_with fail
    refine (HNE.out _).mono ?_
    rintro e w4 ⟨b4, s, rfl, hs1, hs2⟩
    have HB4 := Lib.hid (up HB3.out b4)
    have HS1 := Lib.hid hs1
    have HS2 := Lib.hid hs2
    clear b4 hs1 hs2 HB3
    go_wp2_with fail
    refine (HRES.out _ 3 3 (exS s) _ 3 3 exY _ HS1.out HS2.out (ex_good s) (HL.out _ HB4.out) ⟨_, HWH.out⟩).mono ?_
    rintro e w5 ⟨b5, g, cap, ts, rfl, hl⟩
    have HB5 := Lib.hid (up HB4.out b5)
    have HLS := Lib.hid hl
    clear b5 hl HB4 HS1 HS2
    have hlen := HLS.out.few
    go_wp2_with fail
    refine (HLI.out _ ts.length cap (tsAt ts) _ _ HLS.out.reads (by omega)).mono ?_
    rintro e w6 ⟨z, rfl, rfl, hz⟩
    have hzt : z = true := hz.2 (tsAt_mem (x := ⟨#[119, 104, 105, 108, 101]⟩) (HLS.out.k1 _ HWH.out))
    subst hzt
    clear hz
    go_wp2_with fail
    go_returns
    exact ⟨HB5.out, rfl⟩
  · have hmo := HMT.out rfl
    have HGD := Lib.hid (show Good S n Y m from ⟨hmo.n60, hmo.m200, hmo.pos, (HZ.out trivial).2, hmo.fit, fun j hj => ⟨hmo.plain j hj, (HZS.out trivial).2 j hj⟩, fun j hj he => by
      have h1 := hmo.calm j hj he
      have h2 := (hmo.fit j hj).named.1
      unfold Sc.ownN at h1
      omega⟩)
    have hn60 := hmo.n60
    have hm200 := hmo.m200
    have hpos := hmo.pos
    clear hmo HMT HZ HZS
    go_wp2_with fail
    refine (HRES.out A n c S B m mc Y _ (HH.out _ HB3.out) (HY.out _ HB3.out) HGD.out (HL.out _ HB3.out) ⟨_, HWH.out⟩).mono ?_
    rintro e w4 ⟨b4, g, cap, ts, rfl, hl⟩
    have HB4 := Lib.hid (up HB3.out b4)
    have HR4 := Lib.hid hl.reads
    have HK1 := Lib.hid hl.k1
    have HK2 := Lib.hid hl.k2
    have HME := Lib.hid hl.mem
    have HGE := Lib.hid hl.gen
    have HND := Lib.hid hl.nodup
    have HSO := Lib.hid hl.sorted
    have hfew := hl.few
    have HS0 := Lib.hid (HGD.out.small 0 hpos)
    have HF0 := Lib.hid (HGD.out.fit 0 hpos)
    clear b4 hl HB3
    go_wp2_with fail
    refine (topOf A n c S _ (HH.out _ HB4.out) hpos HS0.out).mono ?_
    rintro e w5 ⟨b5, TB, tk, tkc, rfl, htk, hTR, htb⟩
    have HB5 := Lib.hid (up HB4.out b5)
    have HR5 := Lib.hid (HR4.out.below b5)
    have HTR := Lib.hid hTR
    have HTK := Lib.hid htk
    clear b5 hTR HB4 HR4 htk
    go_wp2_with fail
    go_loopg [35] tk (fun q jv wx => ∃ (j : Nat), jv = .int .i64 j ∧ Aside (j + q = tk ∧ Below w5.heap.size w5 wx))
    case atStart => exact ⟨0, rfl, ⟨by omega, Below.refl _ _⟩⟩
    case round =>
      obtain ⟨j, rfl, hA⟩ := hrel
      have HI := Lib.hid hA.out.1
      have HX := Lib.hid hA.out.2
      clear hA
      by_cases hj : j < tk
      · obtain ⟨jb, jo, hJA, hjb, hjc⟩ := (HTR.out.below HX.out) j hj
        subst hJA
        have hj' : (j : Int) < tk := by omega
        obtain ⟨g0, g1⟩ := HF0.out.own j (by have := HTK.out; omega)
        obtain ⟨a, ha⟩ : ∃ a : Nat, (S 0).ownAt j = a := ⟨((S 0).ownAt j).toNat, by omega⟩
        have ham : a < m := by omega
        have HAE := Lib.hid ha
        simp only [ha] at hjc
        have HBX := Lib.hid (up HB5.out HX.out)
        obtain ⟨yb, yo, hBA, hyb, hys, c0, c1, c2, c3⟩ := HY.out _ HBX.out a ham
        subst hBA
        have HKEPT := Lib.hid (show (Y a).kept = true → (Y a).name.data.toList ∈ ts from fun hk => by
          have hl0 : ¬ 0 ≤ (S 0).l := fun h => by
            have h1 := (HF0.out.lab h).2.1
            have h2 := (HF0.out.top rfl).2
            omega
          have hjn := HTK.out
          unfold Sc.ownN at hjn
          rw [if_neg hl0] at hjn
          have hae := HAE.out
          unfold Sc.ownAt at hae
          by_cases q : j < (S 0).rn
          · rw [if_pos q] at hae
            have := HME.out j (by have := HF0.out.named.1; omega)
            rw [hae] at this
            simpa using this (by simpa using hk)
          · rw [if_neg q, if_pos (by omega)] at hae
            have := HGE.out (j - (S 0).rn) (by omega)
            rw [hae] at this
            simpa using this (by simpa using hk))
        have hplain := (HGD.out.plain a ham).1
        have HSP := Lib.hid (scopeSpace (Y a).name (Y a).u (Y a).fl (Y a).k)
        clear ha g0 g1 hys
        go_wp2_with fail
        refine (HSP.out _).mono ?_
        rintro e w6 ⟨b6, rfl⟩
        have HX6 := Lib.hid (up HX.out b6)
        have d0 := bcell b6 hyb c0
        obtain ⟨sp, hsp⟩ : ∃ sp, space (Y a).fl (Y a).k (bits .and .i64 (Y a).fl 1 != 0) = sp := ⟨_, rfl⟩
        rw [hsp]
        have HSPE := Lib.hid hsp
        clear hsp b6 c0 c1 c2 c3
        by_cases h4 : sp = 4
        · have t4 : (sp == 4) = true := by simp [h4]
          have hk := HKEPT.out (space_four hplain.2.2 (HSPE.out.trans h4))
          have HMEM := Lib.hid (tsAt_mem hk)
          clear h4 hk
          go_wp2_with fail
          refine (HLI.out _ ts.length cap (tsAt ts) _ _ (HR5.out.below HX6.out) (by omega)).mono ?_
          rintro e w7 ⟨z, rfl, rfl, hz⟩
          have hzt : z = true := hz.2 HMEM.out
          subst hzt
          clear hz
          go_wp2_with fail
          go_roundg (tk - (j + 1))
          case measure => have := HI.out; omega
          case rel => exact ⟨j + 1, val_int (by omega), ⟨by have := HI.out; omega, HX6.out⟩⟩
        · have t4 : (sp == 4) = false := by simp [h4]
          clear h4
          go_wp2_with fail
          go_roundg (tk - (j + 1))
          case measure => have := HI.out; omega
          case rel => exact ⟨j + 1, val_int (by omega), ⟨by have := HI.out; omega, HX6.out⟩⟩
      · have HBX := Lib.hid (up HB5.out HX.out)
        have HRX := Lib.hid (HR5.out.below HX.out)
        obtain ⟨wz, hwz⟩ : ∃ wz, wz = wr := ⟨_, rfl⟩
        rw [← hwz] at HBX HRX ⊢
        clear hwz HX HI
        go_wp2_with fail
        go_loopg [8] ts.length (fun q iv wx => ∃ (i : Nat), iv = .int .i64 i ∧ Aside (1 ≤ i ∧ i ≤ ts.length + 1 ∧ i + q = ts.length + 1 ∧ Below wz.heap.size wz wx))
        case atStart => exact ⟨1, rfl, ⟨by omega, by omega, by omega, Below.refl _ _⟩⟩
        case round =>
          obtain ⟨i, rfl, hA⟩ := hrel
          have hi1 := hA.out.1
          have HI := Lib.hid hA.out.2.2.1
          have HX := Lib.hid hA.out.2.2.2
          clear hA
          by_cases hil : i < ts.length
          · have hil' : (i : Int) < ts.length := by omega
            obtain ⟨i1, hi1e⟩ : ∃ i1, i1 + 1 = i := ⟨i - 1, by omega⟩
            have HIE := Lib.hid hi1e
            obtain ⟨ga, go_, hGA, hgb, hgc⟩ := (HRX.out.below HX.out) i1 (by omega)
            obtain ⟨gb, go2, hGA2, _, hgd⟩ := (HRX.out.below HX.out) i hil
            injection hGA with hGA
            injection hGA with q0 q1
            subst q0 q1
            injection hGA2 with hGA2
            injection hGA2 with q0 q1
            subst q0 q1
            have hx1 : (i : Int) - 1 = (i1 : Int) := by omega
            have hx2 : (i1 : Int) < ts.length := by omega
            have hx3 : i1 < ts.length := by omega
            have hlt : ¬ (tsAt ts i).toList ≤ (tsAt ts i1).toList := by
              have p1 := List.pairwise_iff_getElem.1 HSO.out i1 i (by omega) hil (by omega)
              have p2 := List.pairwise_iff_getElem.1 HND.out i1 i (by omega) hil (by omega)
              intro h
              rw [ByteArray.toList_eq, ByteArray.toList_eq] at h
              simp only [tsAt, List.getD, List.getElem?_eq_getElem hil, List.getElem?_eq_getElem (show i1 < ts.length by omega), Option.getD_some] at h
              exact p2 (List.le_antisymm (of_decide_eq_true p1) (by simpa using h))
            have HLT := Lib.hid hlt
            rw [Nat.zero_add] at hgc hgd
            clear hlt hi1e
            have hbl := less_of HLT.out
            go_wp2_with fail
            go_quiet (fail)
            go_wp2_with fail
            go_roundg (ts.length - i)
            case measure => have := HI.out; omega
            case rel => exact ⟨i + 1, val_int (by omega), ⟨by omega, by omega, by have := HI.out; omega, below_drewN HX.out _⟩⟩
          · have HBY := Lib.hid (up HBX.out HX.out)
            have HRY := Lib.hid (HRX.out.below HX.out)
            clear HX HI hi1
            go_upto_region 18 with fail
            obtain ⟨w8, e8⟩ : ∃ w8, w8 = wr.alloc (.cells #[.string ⟨#[98, 114, 101, 97, 107]⟩, .string ⟨#[99, 97, 115, 101]⟩, .string ⟨#[99, 97, 116, 99, 104]⟩, .string ⟨#[99, 108, 97, 115, 115]⟩, .string ⟨#[99, 111, 110, 115, 116]⟩, .string ⟨#[99, 111, 110, 116, 105, 110, 117, 101]⟩, .string ⟨#[100, 101, 98, 117, 103, 103, 101, 114]⟩, .string ⟨#[100, 101, 102, 97, 117, 108, 116]⟩, .string ⟨#[100, 101, 108, 101, 116, 101]⟩, .string ⟨#[100, 111]⟩, .string ⟨#[101, 108, 115, 101]⟩, .string ⟨#[101, 110, 117, 109]⟩, .string ⟨#[101, 120, 112, 111, 114, 116]⟩, .string ⟨#[101, 120, 116, 101, 110, 100, 115]⟩, .string ⟨#[102, 97, 108, 115, 101]⟩, .string ⟨#[102, 105, 110, 97, 108, 108, 121]⟩, .string ⟨#[102, 111, 114]⟩, .string ⟨#[102, 117, 110, 99, 116, 105, 111, 110]⟩, .string ⟨#[105, 102]⟩, .string ⟨#[105, 109, 112, 111, 114, 116]⟩, .string ⟨#[105, 110]⟩, .string ⟨#[105, 110, 115, 116, 97, 110, 99, 101, 111, 102]⟩, .string ⟨#[110, 101, 119]⟩, .string ⟨#[110, 117, 108, 108]⟩, .string ⟨#[114, 101, 116, 117, 114, 110]⟩, .string ⟨#[115, 117, 112, 101, 114]⟩, .string ⟨#[115, 119, 105, 116, 99, 104]⟩, .string ⟨#[116, 104, 105, 115]⟩, .string ⟨#[116, 104, 114, 111, 119]⟩, .string ⟨#[116, 114, 117, 101]⟩, .string ⟨#[116, 114, 121]⟩, .string ⟨#[116, 121, 112, 101, 111, 102]⟩, .string ⟨#[118, 97, 114]⟩, .string ⟨#[118, 111, 105, 100]⟩, .string ⟨#[119, 104, 105, 108, 101]⟩, .string ⟨#[119, 105, 116, 104]⟩, .string ⟨#[105, 109, 112, 108, 101, 109, 101, 110, 116, 115]⟩, .string ⟨#[105, 110, 116, 101, 114, 102, 97, 99, 101]⟩, .string ⟨#[108, 101, 116]⟩, .string ⟨#[112, 97, 99, 107, 97, 103, 101]⟩, .string ⟨#[112, 114, 105, 118, 97, 116, 101]⟩, .string ⟨#[112, 114, 111, 116, 101, 99, 116, 101, 100]⟩, .string ⟨#[112, 117, 98, 108, 105, 99]⟩, .string ⟨#[115, 116, 97, 116, 105, 99]⟩, .string ⟨#[121, 105, 101, 108, 100]⟩] 9) := ⟨_, rfl⟩
            have HB8 := Lib.hid (show Below w.heap.size w w8 by rw [e8]; exact below_at HBY.out _)
            have HR8 := Lib.hid (show Reads w8 (some ⟨g, 0, none⟩) ts.length (fun i => .string (tsAt ts i)) by rw [e8]; exact HRY.out.below (below_at (Below.refl _ _) _))
            have HWD := Lib.hid (show Reads w8 (some ⟨wr.heap.size, 0, none⟩) 45 (fun i => .string (wordAt i)) by
              rw [e8]
              exact reads_blk (Blk.new wr 9 (wordList.map Value.string)) 45 words_get)
            rw [← e8]
            clear e8 HBY HRY
            go_wp2_with fail
            go_loopg [75] 45 (fun q kv wx => ∃ (k : Nat), kv = .int .i64 k ∧ Aside (k + q = 45) ∧ wx = w8)
            case atStart => exact ⟨0, rfl, by show 0 + 45 = 45; rfl, rfl⟩
            case round =>
              obtain ⟨k, hk, hA, hwx⟩ := hrel
              subst hk hwx
              by_cases hk : k < 45
              · have hk' : (k : Int) < 45 := by omega
                obtain ⟨wb, wo, hWA, hwb, hwc⟩ := HWD.out k hk
                injection hWA with hWA
                injection hWA with q0 q1
                subst q0 q1
                rw [Nat.zero_add] at hwc
                simp only at hwc
                have HMEM := Lib.hid (tsAt_mem (show (wordAt k).data.toList ∈ ts from by
                  rcases HW.out k hk with h | h
                  · exact HK1.out _ h
                  · exact HK2.out _ h))
                obtain ⟨x, hx⟩ : ∃ x, wordAt k = x := ⟨_, rfl⟩
                rw [hx] at hwc HMEM
                clear hx
                go_wp2_with fail
                refine (HLI.out _ ts.length cap (tsAt ts) _ _ HR8.out (by omega)).mono ?_
                rintro e w9 ⟨z, rfl, rfl, hz⟩
                have hzt : z = true := hz.2 HMEM.out
                subst hzt
                clear hz
                go_wp2_with fail
                go_roundg (45 - (k + 1))
                case measure => have := hA.out; omega
                case rel => exact ⟨k + 1, val_int (by omega), by show k + 1 + (45 - (k + 1)) = 45; omega, rfl⟩
              · go_wp2_with fail
                go_returns
                exact ⟨HB8.out, rfl⟩
end Go.Proofs.YtofdoaollanbpaaDoor.Res
