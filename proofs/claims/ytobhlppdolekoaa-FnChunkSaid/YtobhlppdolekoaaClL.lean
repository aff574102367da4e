/- FnChunk: the law. The walk. -/
import Derived.Test.YtobhlppdolekoaaClJ
import Derived.Test.YtobhlppdolekoaaRows
import Derived.Deep.Slices
import Derived.Deep.Fields
import Derived.ChangeSame
import Derived.ChangeSlices
import Derived.SliceStrings
namespace Go.Proofs.Ytobhlppdolekoaa.Ch
open Go.RowKit Go.Proofs.Ytobhlppdolekoaa.Aid Go.Proofs.Ytobhlppdolekoaa.Bytes Go.Proofs.Ytobhlppdolekoaa.Runes Go.Proofs.Ytobhlppdolekoaa.Wtf
attribute [local go_sem ↓] Go.wp_at_zero Go.wp_at_succ
set_option linter.unusedVariables false
set_option linter.unusedSimpArgs false
theorem names_ok {src out : ByteArray} {ms : List Mk} {ns : List ByteArray} (hf : MFit src out ms) (h : ∀ s ∈ ns, ∃ k ∈ ms, k.name = s) : ∀ s ∈ ns, wf s 0 = true ∧ s.size ≤ 1000 := by
  intro s hs
  obtain ⟨k, hk, rfl⟩ := h s hs
  obtain ⟨_, _, _, _, h5, h6⟩ := hf.each k hk
  exact ⟨h6, by omega⟩
/-- What is known of the text of mappings. -/
structure Plain (src out : ByteArray) (ms : List Mk) (l : List It) (r : Sm) (x y : Nat) (ns : List ByteArray) (E : List Mp) : Prop where
  six : (endS zeroS l).six = [.int .i64 x, .int .i64 r.gc, .int .i64 r.src, .int .i64 r.ol, .int .i64 r.oc, .int .i64 r.nm]
  mps : mps zeroS l = E
  good : Good zeroS l
  size : (itext l).length ≤ 2000000
  byte : ∀ b ∈ itext l, b < 256
  many : E.length ≤ 2000000
  order : InOrder E
  each : ∀ m ∈ E, From src out ns ms m
  led : Led src out ms E
  len : ns.length ≤ 500
  names : ∀ s ∈ ns, wf s 0 = true ∧ s.size ≤ 1000
theorem chunkTold (src out : ByteArray) (ms : List Mk) (asc : Bool) (A : Option Addr) (cm n : Nat) (hn : n = ms.length) (x y : Nat) (hx : x = (placeOf out out.size).1) (hy : y = (placeOf out out.size).2) (w : World) (hm : Marks w A ms) (hf : MFit src out ms) :
    Calls Try.prog 6 #[.string src, .string out, .slice A n cm, .bool asc] w fun e w' => ∃ dv nv r l ns E, e = .returned (.tuple #[dv, nv, .agg #[.int .i64 x, .int .i64 r.gc, .int .i64 r.src, .int .i64 r.ol, .int .i64 r.oc, .int .i64 r.nm, .bool r.has], .int .i64 y, .bool true]) ∧ w'.ownsRow w.heap.size 5 1 dv (itext l).length (ncells (itext l)) ∧ w'.ownsRow w.heap.size 9 1 nv ns.length (qtexts asc ns) ∧ Plain src out ms l r x y ns E ∧ Below w.heap.size w w' := by
  rw [hn]
  refine (chunkOf src out ms asc A cm w hm hf).mono ?_
  rintro e w' ⟨a, dv, nv, ns, E, n0, rfl, h1, h2, ht, hb⟩
  obtain ⟨l, hi, he⟩ := ht.maps
  rw [hi.text] at h1
  have h3 := ht.n0
  have h4 := ht.lim.len
  rw [hi.text] at h4
  obtain ⟨g1, g2, g3, g4, g5, g6⟩ := hi.st
  have hgl := ht.gl
  have hgc := ht.gcol
  rw [← hx] at hgl
  rw [← hy] at hgc
  refine ⟨dv, nv, a.st, l, ns, E, ?_, h1, h2, ⟨?_, he, hi.good, by omega, by have := ht.lim.byte; rw [hi.text] at this; exact this, ?_, ht.order, ht.each, ht.led, ht.len, names_ok hf ht.names⟩, hb⟩
  · rw [hgc]
    unfold stCells
    rw [hgl]
  · unfold Sm.six
    rw [g1, g2, g3, g4, g5, g6, hgl]
  · have e1 := mps_len l zeroS
    have e2 := itext_len l
    rw [he] at e1
    omega
theorem mapsTold {src out : ByteArray} {ms : List Mk} {l : List It} {r : Sm} {x y : Nat} {ns : List ByteArray} {E : List Mp} (h : Plain src out ms l r x y ns E) (w : World) :
    Calls Try.prog 7 #[.string (str (itext l))] w fun e w' => ∃ v, e = .returned (.tuple #[v, .agg #[.int .i64 x, .int .i64 r.gc, .int .i64 r.src, .int .i64 r.ol, .int .i64 r.oc, .int .i64 r.nm], .bool true]) ∧ w'.ownsRow w.heap.size 42 6 v E.length (mcells E) ∧ Below w.heap.size w w' := by
  have hs := h.size
  refine (mappings (str (itext l)) l w (nats_str _ h.byte) (by rw [str_size]; omega) h.good).mono ?_
  rintro e w' ⟨v, rfl, h1, h2⟩
  rw [h.mps] at h1
  exact ⟨v, by rw [h.six], h1, h2⟩
set_option maxRecDepth 100000 in
set_option maxHeartbeats 16000000 in
theorem law (src out : ByteArray) (A : Option Addr) (n c : Nat) (Y : Nat → Mr) (asc : Bool) (w : World) (hR : RMk w A n Y) (hn : n ≤ 9223372036854775807) (hs : src.size ≤ 140737488351232) (ho : out.size ≤ 140737488351232) :
    Calls Try.prog 3 #[.string src, .string out, .slice A n c, .bool asc] w fun e w' => e = .returned (.bool true) ∧ Below w.heap.size w w' := by
  have HZ := Lib.hid (fun (W : World) (hb : Below w.heap.size w W) => zzFits11 A n c Y W (hR.below hb) hn)
  have HMF := Lib.hid (fun (W : World) (hb : Below w.heap.size w W) => marksFit src out A n c Y W (hR.below hb) hn hs ho)
  have HRM := Lib.hid (fun (W : World) (hb : Below w.heap.size w W) => hR.below hb)
  have HHS := Lib.hid hs
  have HHO := Lib.hid ho
  have HHN := Lib.hid hn
  clear hR hn hs ho
  go_enter Try.func3, Try.ntmps3
  go_upto_region 1 with fail
  go_cut [41] (fun t wx => ∃ z, t = .bool z ∧ Below w.heap.size w wx)
  case first =>
    by_cases c1 : (2147483647 : Int) < (src.size : Int)
    · go_wp2_with fail
      go_meet
      exact ⟨true, rfl, Below.refl _ _⟩
    by_cases c2 : (2147483647 : Int) < (out.size : Int)
    · go_wp2_with fail
      go_meet
      exact ⟨true, rfl, Below.refl _ _⟩
    go_wp2_with fail
    refine (HZ.out w (Below.refl _ _)).mono ?_
    rintro e w1 ⟨hb1, z, rfl⟩
    have HB1 := Lib.hid hb1
    clear hb1
    go_wp2_with fail
    go_meet
    exact ⟨_, rfl, HB1.out⟩
  case rest =>
    obtain ⟨z, rfl, hb⟩ := hcut
    obtain ⟨W1, hW1⟩ : ∃ W1, W1 = wc := ⟨_, rfl⟩
    rw [← hW1] at hb ⊢
    clear hW1
    have HB1 := Lib.hid hb
    clear hb
    cases z with
    | true =>
      go_wp2_with fail
      go_returns
      exact ⟨rfl, HB1.out⟩
    | false =>
      have HMF1 := Lib.hid (HMF.out W1 HB1.out)
      go_upto_region 3 with fail
      go_wp2_with fail
      refine (HMF1.out).mono ?_
      rintro e w2 ⟨hb2, z, rfl, hz⟩
      have HB2 := Lib.hid (up HB1.out hb2)
      have HZ2 := Lib.hid hz
      clear hb2 hz HMF1
      cases z with
      | false =>
        go_wp2_with fail
        go_returns
        exact ⟨rfl, HB2.out⟩
      | true =>
        obtain ⟨ms, hms⟩ : ∃ ms, ms = mkOf n Y := ⟨_, rfl⟩
        have HFT : Hid (MFit src out ms) := Lib.hid (by rw [hms]; exact (HZ2.out rfl).fit)
        have HMK : Hid (∀ W, Below w.heap.size w W → Marks W A ms) := Lib.hid (by rw [hms]; exact fun W hb => (HZ2.out rfl).marks (HRM.out W hb))
        have HN : Hid (n = ms.length) := Lib.hid (by rw [hms, mkOf_len])
        clear hms
        obtain ⟨x, hx⟩ : ∃ x, x = (placeOf out out.size).1 := ⟨_, rfl⟩
        obtain ⟨y, hy⟩ : ∃ y, y = (placeOf out out.size).2 := ⟨_, rfl⟩
        have HX := Lib.hid hx
        have HY := Lib.hid hy
        clear hx hy
        have HCT := Lib.hid (chunkTold src out ms asc A c n HN.out x y HX.out HY.out w2 (HMK.out w2 HB2.out) HFT.out)
        go_upto_region 5 with fail
        go_wp2_with fail
        refine (HCT.out).mono ?_
        rintro e w3 ⟨dv, nv, r, l, ns, E, rfl, hd, hq, hpl, hb3⟩
        have HB3 := Lib.hid (up HB2.out hb3)
        have HD := Lib.hid hd
        have HQ := Lib.hid hq
        have HPL := Lib.hid hpl
        clear hd hq hpl hb3 HCT
        go_upto_region 6 with fail
        obtain ⟨W4, hW4⟩ : ∃ W4, W4 = w3.alloc (.cells #[.int .i64 x, .int .i64 r.gc, .int .i64 r.src, .int .i64 r.ol, .int .i64 r.oc, .int .i64 r.nm, .bool r.has] 28) := ⟨_, rfl⟩
        have b4 : Below w3.heap.size w3 W4 := by rw [hW4]; exact below_at (Below.refl _ _) _
        have HK11 : Hid (Blk W4 w3.heap.size 28 [.int .i64 x, .int .i64 r.gc, .int .i64 r.src, .int .i64 r.ol, .int .i64 r.oc, .int .i64 r.nm, .bool r.has]) := Lib.hid (by rw [hW4]; exact Blk.new w3 28 [.int .i64 x, .int .i64 r.gc, .int .i64 r.src, .int .i64 r.ol, .int .i64 r.oc, .int .i64 r.nm, .bool r.has])
        rw [← hW4]
        clear hW4
        obtain ⟨b11, hb11⟩ : ∃ b11, b11 = w3.heap.size := ⟨_, rfl⟩
        rw [← hb11] at HK11 ⊢
        have HB4 := Lib.hid (up HB3.out b4)
        have hcv := conv_bytes (own_keep HD.out b4)
        have HQ4 := Lib.hid (own_keep HQ.out b4)
        have HMT := Lib.hid (mapsTold HPL.out W4)
        obtain ⟨T, hT⟩ : ∃ T, T = str (itext l) := ⟨_, rfl⟩
        rw [← hT] at hcv HMT
        clear b4 hb11 hT
        go_wp2_with fail
        refine (HMT.out).mono ?_
        rintro e w5 ⟨lv, rfl, hown, hb5⟩
        obtain ⟨Al, cl, hlv⟩ := own_slice hown
        subst hlv
        have HO5 := Lib.hid hown
        have HB5 := Lib.hid (up HB4.out hb5)
        have HK115 := Lib.hid (HK11.out.below hb5 HK11.out.lt)
        have HQ5 := Lib.hid (own_keep HQ4.out hb5)
        clear hown hb5 hcv HMT HK11 HQ4 HD HQ
        go_upto_region 7 with fail
        obtain ⟨W6, hW6⟩ : ∃ W6, W6 = w5.alloc (.cells #[.int .i64 x, .int .i64 r.gc, .int .i64 r.src, .int .i64 r.ol, .int .i64 r.oc, .int .i64 r.nm] 33) := ⟨_, rfl⟩
        have b6 : Below w5.heap.size w5 W6 := by rw [hW6]; exact below_at (Below.refl _ _) _
        have HK15 : Hid (Blk W6 w5.heap.size 33 [.int .i64 x, .int .i64 r.gc, .int .i64 r.src, .int .i64 r.ol, .int .i64 r.oc, .int .i64 r.nm]) := Lib.hid (by rw [hW6]; exact Blk.new w5 33 [.int .i64 x, .int .i64 r.gc, .int .i64 r.src, .int .i64 r.ol, .int .i64 r.oc, .int .i64 r.nm])
        rw [← hW6]
        clear hW6
        obtain ⟨b15, hb15⟩ : ∃ b15, b15 = w5.heap.size := ⟨_, rfl⟩
        rw [← hb15] at HK15 ⊢
        have HB6 := Lib.hid (up HB5.out b6)
        have HO6 := Lib.hid (own_keep HO5.out b6)
        have HK116 := Lib.hid (HK115.out.below b6 HK115.out.lt)
        have HCA := Lib.hid (called _ nv asc ns W6 (own_keep HQ5.out b6) (by have := HPL.out.len; omega) HPL.out.names)
        clear b6 hb15 HO5 HK115 HQ5
        go_wp2_with fail
        refine (HCA.out).mono ?_
        rintro e w7 ⟨nv2, rfl, hown7, hb7⟩
        obtain ⟨An, cn, hnv2⟩ := own_slice hown7
        subst hnv2
        have HB7 := Lib.hid (up HB6.out hb7)
        have HN7 := Lib.hid (NAt.of hown7)
        have HO7 := Lib.hid (own_keep HO6.out hb7)
        have HK117 := Lib.hid (HK116.out.below hb7 HK116.out.lt)
        have HK157 := Lib.hid (HK15.out.below hb7 HK15.out.lt)
        have HPLC := Lib.hid (placeWalk out out.size w7 (Nat.le_refl _) (by have := HFT.out.outs; omega))
        rw [← HX.out, ← HY.out] at HPLC
        clear hown7 hb7 HO6 HK116 HK15 HCA
        go_upto_region 8 with fail
        go_wp2_with fail
        refine (HPLC.out).mono ?_
        rintro e w8 ⟨rfl, hb8⟩
        have HB8 := Lib.hid (up HB7.out hb8)
        have HN8 := Lib.hid (HN7.out.below hb8)
        have HO8 := Lib.hid (own_keep HO7.out hb8)
        have HK118 := Lib.hid (HK117.out.below hb8 HK117.out.lt)
        have HK158 := Lib.hid (HK157.out.below hb8 HK157.out.lt)
        clear hb8 HO7 HK117 HK157 HPLC HN7
        go_upto_region 9 with fail
        obtain ⟨W9, hW9⟩ : ∃ W9, W9 = w8.alloc (.cells #[.int .i64 x, .int .i64 y] 39) := ⟨_, rfl⟩
        have b9 : Below w8.heap.size w8 W9 := by rw [hW9]; exact below_at (Below.refl _ _) _
        have k19 : Blk W9 w8.heap.size 39 [.int .i64 x, .int .i64 y] := by rw [hW9]; exact Blk.new w8 39 [.int .i64 x, .int .i64 y]
        rw [← hW9]
        clear hW9
        obtain ⟨b19, hb19⟩ : ∃ b19, b19 = w8.heap.size := ⟨_, rfl⟩
        rw [← hb19] at k19 ⊢
        have HB9 := Lib.hid (up HB8.out b9)
        have HN9 := Lib.hid (HN8.out.below b9)
        have HO9 := Lib.hid (own_keep HO8.out b9)
        have k11 := HK118.out.below b9 HK118.out.lt
        have k15 := HK158.out.below b9 HK158.out.lt
        have z0 : W9.cell? ⟨b19, 0, none⟩ = some (.int .i64 x) := k19.get 0 rfl
        have z1 : W9.cell? ⟨b19, 1, none⟩ = some (.int .i64 y) := k19.get 1 rfl
        have s0 : W9.cell? ⟨b11, 0, none⟩ = some (.int .i64 x) := k11.get 0 rfl
        have s1 : W9.cell? ⟨b11, 1, none⟩ = some (.int .i64 r.gc) := k11.get 1 rfl
        have s2 : W9.cell? ⟨b11, 2, none⟩ = some (.int .i64 r.src) := k11.get 2 rfl
        have s3 : W9.cell? ⟨b11, 3, none⟩ = some (.int .i64 r.ol) := k11.get 3 rfl
        have s4 : W9.cell? ⟨b11, 4, none⟩ = some (.int .i64 r.oc) := k11.get 4 rfl
        have s5 : W9.cell? ⟨b11, 5, none⟩ = some (.int .i64 r.nm) := k11.get 5 rfl
        have t0 : W9.cell? ⟨b15, 0, none⟩ = some (.int .i64 x) := k15.get 0 rfl
        have t1 : W9.cell? ⟨b15, 1, none⟩ = some (.int .i64 r.gc) := k15.get 1 rfl
        have t2 : W9.cell? ⟨b15, 2, none⟩ = some (.int .i64 r.src) := k15.get 2 rfl
        have t3 : W9.cell? ⟨b15, 3, none⟩ = some (.int .i64 r.ol) := k15.get 3 rfl
        have t4 : W9.cell? ⟨b15, 4, none⟩ = some (.int .i64 r.oc) := k15.get 4 rfl
        have t5 : W9.cell? ⟨b15, 5, none⟩ = some (.int .i64 r.nm) := k15.get 5 rfl
        have b19l := k19.lt
        have b11l := k11.lt
        have b15l := k15.lt
        clear b9 hb19 k19 k11 k15 HO8 HK118 HK158 HN8
        have HORD := Lib.hid (ordered _ (.slice Al E.length cl) E W9 HO9.out (by have := HPL.out.many; omega) HPL.out.order)
        go_wp2_with fail
        refine (HORD.out).mono ?_
        rintro e w10 ⟨rfl, hb10⟩
        have z0 := bcell hb10 b19l z0
        have z1 := bcell hb10 b19l z1
        have s0 := bcell hb10 b11l s0
        have s1 := bcell hb10 b11l s1
        have s2 := bcell hb10 b11l s2
        have s3 := bcell hb10 b11l s3
        have s4 := bcell hb10 b11l s4
        have s5 := bcell hb10 b11l s5
        have t0 := bcell hb10 b15l t0
        have t1 := bcell hb10 b15l t1
        have t2 := bcell hb10 b15l t2
        have t3 := bcell hb10 b15l t3
        have t4 := bcell hb10 b15l t4
        have t5 := bcell hb10 b15l t5
        have HB10 := Lib.hid (up HB9.out hb10)
        have HN10 := Lib.hid (HN9.out.below hb10)
        have HO10 := Lib.hid (own_keep HO9.out hb10)
        clear hb10 b19l b11l b15l HO9 HN9
        have HNL := Lib.hid HPL.out.len
        have HEL := Lib.hid HPL.out.many
        go_upto_if 141 with fail
        go_cut [8] (fun t wx => wx = w10)
        case first =>
          go_wp2_with fail
          go_meet
          rfl
        case rest =>
          obtain rfl := hcut
          apply_assumption
          exact lawMaps src out ns ms E _ An cn ns.length A c n Al cl E.length w _ _ rfl HN.out rfl HFT.out HPL.out.led HPL.out.each HNL.out HN10.out (HMK.out _ HB10.out) HO10.out (by have := HEL.out; omega) HB10.out (fun w' hb => ⟨rfl, hb⟩)
end Go.Proofs.Ytobhlppdolekoaa.Ch
/- The law's arguments, opened to what the walk asks. No program is walked. -/
namespace Go.Proofs.Ytobhlppdolekoaa.Ch
open Go.RowKit Go.Proofs.Ytobhlppdolekoaa.Aid
open Go.ChangeShapes Go.WideShapes Go.Deep
set_option linter.unusedVariables false
section
variable {H : Type} {enc : TypeId × Value → H} {P : Program} {w : World} {base : Nat} {spare : Nat → Bool} {held : Bool}
/-- A slice of structs, opened field by field (the guide's, extra-structs). -/
theorem open_slice_fields {t e : TypeId} {fs : Array Field} {fuel : Nat} {cs : List Value} {x : DataW H × List MemPlace} (ht : P.underlying t = some (.slice e)) (he : P.underlying e = some (.struct fs))
    (hone : oneCellFields P fs = true) (hC : P.cellsOf e = fs.size) (h : DataW.trod enc P w base spare held fuel t cs = some x) :
    (cs = [.slice none 0 0] ∧ x = (.nil, [])) ∨
    ∃ (a : Addr) (len cap m : Nat) (D : Nat → DataW H) (Pl : Nat → List MemPlace), cs = [.slice (some a) len cap] ∧ base ≤ a.block ∧ len ≤ cap ∧ cap ≤ maxLen ∧ m = (if spare a.block then cap else len) ∧
      x = (.slice ((List.range len).map D) ((List.range (m - len)).map fun j => D (len + j)), MemPlace.row a (m * fs.size) ++ (List.range m).flatMap Pl) ∧
      ∀ i, i < m → ∃ (ys : List (DataW H × List MemPlace)) (n : Nat), D i = .agg (ys.map (·.1)) ∧ Pl i = ys.flatMap (·.2) ∧ ys.length = fs.size ∧
        ∀ (j : Nat) (f : Field), fs[j]? = some f → ∃ (v : Value) (y : DataW H × List MemPlace), w.cell? (a.add (i * fs.size + j)) = some v ∧ ys[j]? = some y ∧ DataW.trod enc P w base spare held n f.type [v] = some y := by
  rcases open_slice ht h with h0 | ⟨a, len, cap, m, n, D, Pl, hcs, hb, hl, hm, hmm, hx, hi⟩
  · exact .inl h0
  · refine .inr ⟨a, len, cap, m, D, Pl, hcs, hb, hl, hm, hmm, by rw [hC] at hx; exact hx, fun i him => ?_⟩
    obtain ⟨cs', hc, ht'⟩ := hi i him
    rw [hC] at hc
    obtain ⟨ys, n', hn', hy, hlen, hyl, hf⟩ := DataW.trod_struct he ht'
    obtain ⟨_, hcl, hat⟩ := World.cells?_some hc
    simp only [Prod.mk.injEq] at hy
    refine ⟨ys, n', hy.1, hy.2, hyl, fun j f hj => ?_⟩
    obtain ⟨ho, hk⟩ := hone_of hone j f hj
    have hjl : j < fs.size := (Array.getElem?_eq_some_iff.1 hj).1
    have hcell := hat j hjl
    have hv : cs'[j]? = some (cs'[j]'(by omega)) := List.getElem?_eq_getElem (by omega)
    have h1 := hf j f hj
    rw [ho, hk] at h1
    have hone' : (cs'.drop j).take 1 = [cs'[j]'(by omega)] := by
      rw [List.drop_eq_getElem_cons (by omega)]
      rfl
    rw [hone'] at h1
    have hys : ys[j]? = some (ys[j]'(by omega)) := List.getElem?_eq_getElem (by omega)
    refine ⟨_, _, ?_, hys, h1.trans hys⟩
    rw [← Go.Deep.add_add, hcell, hv]
end
section
variable {H : Type} {enc : TypeId × Value → H} {W : World} {spare : Nat → Bool} {held : Bool} {fuel : Nat}
theorem plain_addr {a : Addr} {v : Value} (h : W.cell? (a.add 0) = some v) : ∃ b o, a = ⟨b, o, none⟩ ∧ b < W.heap.size := by
  obtain ⟨b, o, s⟩ := a
  cases s with
  | none =>
    rw [add_at] at h
    exact ⟨b, o, rfl, World.block_lt_of_cell? W _ h⟩
  | some k =>
    exfalso
    unfold Addr.add at h
    rw [if_pos rfl] at h
    unfold World.cell? at h
    split at h <;> simp at h
theorem one_num {q : IntKind} {t : TypeId} (ht : Try.prog.underlying t = some (.int q)) {v : Value} {x : DataW H × List MemPlace} (h : DataW.trod enc Try.prog W 0 spare held fuel t [v] = some x) : ∃ n, v = .int q n := by
  obtain ⟨n, e, _⟩ := DataW.trod_int ht h
  injection e with e
  exact ⟨n, e⟩
theorem open_marks {A : Option Addr} {n c : Nat} {x : DataW H × List MemPlace} (h : DataW.trod enc Try.prog W 0 spare held fuel 22 [.slice A n c] = some x) :
    n ≤ 9223372036854775807 ∧ ∃ Y, RMk W A n Y := by
  rcases open_slice_fields Try.underlying22 Try.underlying45 (by kernel_rfl) (by kernel_rfl) h with ⟨hcs, _⟩ | ⟨a, l, cap, m, D, Pl, hcs, _, hl, hm, hmm, _, hi⟩
  · injection hcs with hcs
    injection hcs with h1 h2 h3
    subst h1 h2 h3
    exact ⟨by omega, fun _ => ⟨0, 0, ByteArray.empty⟩, fun i hi => by omega⟩
  · injection hcs with hcs
    injection hcs with h1 h2 h3
    subst h1 h2 h3
    refine ⟨Nat.le_trans hl hm, ?_⟩
    have hall : ∀ i, ∃ y : Mr, i < n → ∃ b o, some a = some ⟨b, o, none⟩ ∧ b < W.heap.size ∧ y.name.size ≤ 9223372036854775807 ∧
        W.cell? ⟨b, o + i * 3, none⟩ = some (.int .i64 y.at) ∧ W.cell? ⟨b, o + i * 3 + 1, none⟩ = some (.int .i64 y.loc) ∧ W.cell? ⟨b, o + i * 3 + 2, none⟩ = some (.string y.name) := by
      intro i
      by_cases hin : i < n
      · obtain ⟨ys, q, _, _, _, hf⟩ := hi i (by rw [hmm]; split <;> omega)
        obtain ⟨v0, y0, c0, _, t0⟩ := hf 0 _ rfl
        obtain ⟨v1, y1, c1, _, t1⟩ := hf 1 _ rfl
        obtain ⟨v2, y2, c2, _, t2⟩ := hf 2 _ rfl
        obtain ⟨s, e0, _, hs⟩ := DataW.trod_string Try.underlying9 t2
        injection e0 with e0
        obtain ⟨n1, rfl⟩ := one_num Try.underlying3 t0
        obtain ⟨n2, rfl⟩ := one_num Try.underlying3 t1
        subst e0
        obtain ⟨v0', hv0'⟩ : ∃ v, W.cell? (a.add 0) = some v := by
          obtain ⟨ys', q', _, _, _, hf'⟩ := hi 0 (by rw [hmm]; split <;> omega)
          obtain ⟨v0', y0', c0', _⟩ := hf' 0 _ rfl
          rw [Nat.zero_mul, Nat.add_zero] at c0'
          exact ⟨v0', c0'⟩
        obtain ⟨b, o, ha, hb⟩ := plain_addr hv0'
        subst ha
        rw [add_at] at c0 c1 c2
        exact ⟨⟨n1, n2, s⟩, fun _ => ⟨b, o, rfl, hb, hs, c0, c1, c2⟩⟩
      · exact ⟨⟨0, 0, ByteArray.empty⟩, fun h => absurd h hin⟩
    obtain ⟨Y, hY⟩ := Classical.axiomOfChoice hall
    exact ⟨Y, fun i hi => hY i hi⟩
theorem lawRow {x : DataW H × List MemPlace} (src out : ByteArray) (A : Option Addr) (n c : Nat) (asc : Bool) (V : World) (hs : src.size ≤ 140737488351232) (ho : out.size ≤ 140737488351232) (h : DataW.trod enc Try.prog V 0 spare held fuel 22 [.slice A n c] = some x) :
    Calls Try.prog 3 #[.string src, .string out, .slice A n c, .bool asc] V fun e w' => e = .returned (.bool true) ∧ Below V.heap.size V w' := by
  obtain ⟨hn, Y, hR⟩ := open_marks h
  exact law src out A n c Y asc V hR hn hs ho
end
end Go.Proofs.Ytobhlppdolekoaa.Ch
