/- impl.Reserved. The walk. -/
import Derived.Test.YtofdoaollanbpaaDoorReV
import Derived.Sort.OwnSorted
namespace Go.Proofs.YtofdoaollanbpaaDoor.Res
open Go.RowKit Go.Proofs.YtofdoaollanbpaaDoor.Aid
attribute [local go_sem ↓] Go.wp_at_zero Go.wp_at_succ
set_option linter.unusedVariables false
set_option linter.unusedSimpArgs false
variable {H : Type}
theorem info9 : (Tryd.prog.info? 9).map (fun i => (i.zero, i.size, i.bytes)) = some (some (.string ⟨#[]⟩), 1, 16) := by kernel_rfl
/-- What scopes and symbols must be for all below. -/
structure Good (S : Nat → Sc) (n : Nat) (Y : Nat → Sy) (m : Nat) : Prop where
  n60 : n ≤ 60
  m200 : m ≤ 200
  pos : 0 < n
  small : ∀ i, i < n → (S i).Small
  fit : ∀ i, i < n → Fit (S i) Y m i
  plain : ∀ j, j < m → (Y j).Plain ∧ (Y j).name.size ≤ 2147483647
  calm : ∀ j, j < n → (S j).ev = true → (S j).n = 0 ∧ (S j).gn = 0
/-- The laid variables in a world. -/
structure Laid (w : World) (kb nk sb ns : Nat) (DK DS : DataW H) (y0 y1 : Int) : Prop where
  ok : w.ownsMap Tryd.prog 9 (plainElem Tryd.prog 138) kb nk DK
  os : w.ownsMap Tryd.prog 9 (plainElem Tryd.prog 4) sb ns DS
  c0 : w.cell? ⟨0, 0, none⟩ = some (.map (some kb))
  c1 : w.cell? ⟨1, 0, none⟩ = some (.map (some sb))
  v0 : w.cell? ⟨2, 0, none⟩ = some (.int .u32 y0)
  v1 : w.cell? ⟨2, 1, none⟩ = some (.int .u32 y1)
  low : 3 ≤ w.heap.size
  nk100 : nk ≤ 100
  ns100 : ns ≤ 100
theorem Laid.below {w w' : World} {kb nk sb ns : Nat} {DK DS : DataW H} {y0 y1 : Int} (h : Laid w kb nk sb ns DK DS y0 y1) (hb : Below w.heap.size w w') : Laid w' kb nk sb ns DK DS y0 y1 := by
  have := h.low
  exact ⟨h.ok.kept (only_of_below hb none) (by simp), h.os.kept (only_of_below hb none) (by simp), bcell hb (by omega) h.c0, bcell hb (by omega) h.c1, bcell hb (by omega) h.v0, bcell hb (by omega) h.v1, Nat.le_trans h.low hb.size, h.nk100, h.ns100⟩
theorem sorted_le (l : List (List UInt8)) : (l.mergeSort fun x y => decide (x ≤ y)).Pairwise fun x y => decide (x ≤ y) = true :=
  List.pairwise_mergeSort (fun a b c h1 h2 => by simp only [decide_eq_true_eq] at *; exact List.le_trans h1 h2) (fun a b => by simp only [Bool.or_eq_true, decide_eq_true_eq]; exact List.le_total a b) l
/-- The list that comes back. -/
structure Listed (w' : World) (base g cap : Nat) (ts : List (List UInt8)) (DK DS : DataW H) (s : Sc) (Y : Nat → Sy) : Prop where
  own : w'.ownsRow base 9 1 (.slice (some ⟨g, 0, none⟩) ts.length cap) ts.length (ts.map encStr)
  nodup : ts.Nodup
  sorted : ts.Pairwise fun x y => decide (x ≤ y) = true
  few : ts.length ≤ 4294967600
  k1 : ∀ x, Maps.has DK (.string x) = true → x ∈ ts
  k2 : ∀ x, Maps.has DS (.string x) = true → x ∈ ts
  mem : ∀ k, k < s.n → (Y (s.refs k).toNat).kept = true → (Y (s.refs k).toNat).name.data.toList ∈ ts
  gen : ∀ k, k < s.gn → (Y (s.gens k).toNat).kept = true → (Y (s.gens k).toNat).name.data.toList ∈ ts
set_option maxRecDepth 100000 in
set_option maxHeartbeats 8000000 in
theorem reserved (A : Option Addr) (n c : Nat) (S : Nat → Sc) (B : Option Addr) (m mc : Nat) (Y : Nat → Sy) (y0 y1 : Int) (kb nk sb ns : Nat) (DK DS : DataW H) (w : World) (h : RSc w A n S) (hY : RSy w B m Y) (hG : Good S n Y m) (hL : Laid w kb nk sb ns DK DS y0 y1) (hne : ∃ x, Maps.has DK (.string x) = true) :
    Calls Tryd.prog 8 #[.slice A n c, .slice B m mc] w fun e w' => Below w.heap.size w w' ∧ ∃ g cap ts, e = .returned (.slice (some ⟨g, 0, none⟩) ts.length cap) ∧ Listed w' w.heap.size g cap ts DK DS (S 0) Y := by
  obtain ⟨i0, hi0, hz0, hz1, hz2⟩ := info_parts info9
  have HV := Lib.hid (valid A n c S B m mc Y w h hG.n60 hG.pos hG.small hG.fit)
  have HM := Lib.hid (fun W (hb : Below w.heap.size w W) => module_ (H := H) A n c S Y m y0 y1 W (h.below hb) hG.n60 hG.pos hG.m200 hG.small hG.fit (hL.below hb).v0 (hL.below hb).v1 (hL.below hb).low)
  have HT := Lib.hid (fun W (hb : Below w.heap.size w W) => table B m mc Y y0 y1 W (hY.below hb) hG.m200 (hL.below hb).v0 (hL.below hb).v1 (hL.below hb).low)
  have HGD := Lib.hid hG
  have HLD := Lib.hid hL
  have HNE := Lib.hid hne
  have hp0 := hG.pos
  have f0 := hG.fit 0 hp0
  have HR0 := Lib.hid (show ∀ k, k < (S 0).n → 0 ≤ (S 0).refs k ∧ (S 0).refs k < m from fun k hk => f0.refs k (by have := f0.named.1; omega))
  have HG0 := Lib.hid f0.gens
  clear h hY hG hL hne f0
  go_enter Tryd.func8, Tryd.ntmps8
  go_wp2_with fail
  refine HV.out.mono ?_
  rintro e w1 ⟨b1, rfl⟩
  have HB1 := Lib.hid b1
  clear b1 HV
  go_wp2_with fail
  refine (HM.out _ HB1.out).mono ?_
  rintro e w2 ⟨b2, F, rfl, hF⟩
  have HB2 := Lib.hid (up HB1.out b2)
  have HF2 := Lib.hid hF
  have HS2 := Lib.hid b2.size
  clear b2 hF
  go_wp2_with fail
  obtain ⟨w3, e3⟩ : ∃ w3, w3 = w2.alloc (.cells #[.pointer (some ⟨F.P 0, 0, none⟩)] 45) := ⟨_, rfl⟩
  have HB3 := Lib.hid (show Below w.heap.size w w3 by rw [e3]; exact below_at HB2.out _)
  have HF3 := Lib.hid (show Forest w3 w1.heap.size F S n by rw [e3]; exact HF2.out.below (below_at (Below.refl _ _) _))
  have HH3 := Lib.hid (show Blk w3 w2.heap.size 45 [.pointer (some ⟨F.P 0, 0, none⟩)] by rw [e3]; exact Blk.new w2 45 _)
  rw [← e3]
  clear e3 HB2 HF2 HS2
  refine (HT.out _ HB3.out).mono ?_
  rintro e w4 ⟨b4, gs, rfl, hT⟩
  obtain ⟨TA, tc, hTab⟩ := Tab.of hT
  have HB4 := Lib.hid (up HB3.out b4)
  have HTB := Lib.hid hTab
  have HF4 := Lib.hid (HF3.out.below b4)
  have HH4 := Lib.hid (HH3.out.below b4 HH3.out.lt)
  have HL4 := Lib.hid (HLD.out.below HB4.out)
  clear b4 hT hTab HF3 HH3 HB3
  go_wp2_with fail
  refine (compute w4 w1.heap.size n gs tc m w2.heap.size TA S Y y0 y1 kb nk sb ns DK DS HF4.out HGD.out.n60 HGD.out.pos HTB.out HL4.out.ok HL4.out.os HL4.out.c0 HL4.out.c1 HL4.out.low HH4.out HGD.out.calm HR0.out HG0.out HGD.out.plain HGD.out.m200 HLD.out.nk100 HLD.out.ns100 (HGD.out.small 0 hp0)).mono ?_
  rintro e w5 ⟨b5, bN, nn, N, rfl, hK, hnn⟩
  have HB5 := Lib.hid (up HB4.out b5)
  have HK5 := Lib.hid hK
  have HS5 := Lib.hid (HB4.out.size)
  have hmem := hK.nm.1
  have HSZ := Lib.hid (Nat.le_trans (size_le hK.nm.1) hnn)
  clear b5 hK HB4 HF4 HH4 HL4 HTB
  go_wp2_with (first
    | (at_range; refine wpList_range_own _ rfl _ 43 rfl 9 35 key9 Tryd.underlying43 _ bN nn _ rfl hmem ?_; intro w6 hrg hg6 hs6)
    | fail)
  go_frame
  have HBL := Lib.hid (show w.heap.size ≤ bN from Nat.le_trans HS5.out HK5.out.low)
  obtain ⟨r, hr⟩ : ∃ r, r = w5.heap.size := ⟨_, rfl⟩
  have HRL := Lib.hid (show w.heap.size ≤ r from by rw [hr]; exact HB5.out.size)
  have HB6 := Lib.hid (HB5.out.trans (below_of_only (Below.refl w.heap.size w5) HB5.out.size hg6 (fun g hg => by cases hg)))
  rw [← hr] at hrg ⊢
  have HRG := Lib.hid hrg
  clear hrg hg6 hs6 hr hmem
  go_loopg [5, 6] (Maps.size N) (fun k ov sv wr => Aside (∃ (left : Lit → Bool) (ss : List (List UInt8)), wr.ranges Tryd.prog 9 (plainElem Tryd.prog 35) bN r nn N left k ∧ ss.length + k ≤ Maps.size N ∧ wr.ownsRow w.heap.size 9 1 ov ss.length (ss.map encStr) ∧ Collected N left ss ∧ Below w.heap.size w wr))
  case atStart => exact ⟨_, [], HRG.out, by simp, own_nil _ _ _ _, Collected.start N, HB6.out⟩
  case round =>
    clear HRG HB6
    obtain ⟨left, ss, h1, h2, h3, h4, h5⟩ := hrel.out
    have HR := Lib.hid h1
    have HO := Lib.hid h3
    have HC := Lib.hid h4
    have HB := Lib.hid h5
    have hrg := h1
    clear h1 h3 h4 h5 hrel
    go_wp2_with (first
      | (at_next; refine wpList_next_ranges _ rfl _ rfl 9 key9 (plainElem Tryd.prog 35) encStr (Value.int .u32) (fun key kl hk => by obtain ⟨x, hx, _⟩ := Maps.keyOf_str Tryd.underlying9 hk; exact ⟨x, hx⟩) (fun v y hv => by obtain ⟨c, rfl, _⟩ := plainElem_int_inv Tryd.underlying35 hv; exact ⟨c, rfl⟩) bN r nn _ _ _ rfl hrg ?_ ?_)
      | fail)
    · intro hc0 hl0
      clear hrg
      have HL := Lib.hid (show ∀ x, x ∈ ss ↔ Maps.has N (.string x) = true from fun x => by rw [HC.out.2 x, hl0]; simp)
      clear hl0
      obtain ⟨x0, hx0⟩ := HNE.out
      have hx1 := (HL.out x0).2 (HK5.out.k1 _ hx0)
      have hpos : 0 < ss.length := List.length_pos_of_mem hx1
      rcases HO.out.2 with ⟨_, hnil⟩ | ⟨g, cap, cur, hov, hbase, hb, q1, q2, q3, q4⟩
      · exfalso
        omega
      · subst hov
        have hH : Go.Sort.Holds encStr wr g 0 ss.toArray := holds_of_block hb (by simpa using q4)
        have hgl : g < wr.heap.size := (Array.getElem?_eq_some_iff.1 hb).1
        have HSORT := Lib.hid (Tryd.slices_Sort_string g 0 cap ss wr hH hgl (by have := HSZ.out; omega))
        have HOWN := Lib.hid (fun n os => ownsRow_sorted (w := wr) (n := n) (os := os) (ss := ss) (ts := ss.mergeSort fun x y => decide (x ≤ y)) (by simp) hbase hb q1 q2 q3)
        have HBB := Lib.hid (fun n os => HB.out.grown (grownBy_sorted (w := wr) (g := g) (n := n) (os := os) (ss.mergeSort fun x y => decide (x ≤ y)).toArray) HB.out.size (fun k hk => by injection hk with hk; omega))
        have hfew : ss.length ≤ 4294967600 := by have := HSZ.out; omega
        have HK := Lib.hid hx1
        clear hH hgl hbase hb q1 q2 q3 q4 hx0 hx1
        go_wp2_with fail
        refine HSORT.out.mono ?_
        rintro e w' ⟨rfl, nq, os, rfl⟩
        go_wp2_with fail
        go_returns
        exact ⟨HBB.out nq os, g, cap, ss.mergeSort (fun x y => decide (x ≤ y)), by rw [List.length_mergeSort]; rfl, by
          refine ⟨by rw [List.length_mergeSort]; exact HOWN.out nq os, (List.mergeSort_perm ss _).nodup_iff.2 HC.out.1, sorted_le ss, by rw [List.length_mergeSort]; exact hfew, fun x hx => ?_, fun x hx => ?_, fun k hk hke => ?_, fun k hk hke => ?_⟩
          · rw [List.mem_mergeSort]; exact (HL.out x).2 (HK5.out.k1 _ hx)
          · rw [List.mem_mergeSort]; exact (HL.out x).2 (HK5.out.k2 _ hx)
          · rw [List.mem_mergeSort]; exact (HL.out _).2 (HK5.out.mem k hk hke)
          · rw [List.mem_mergeSort]; exact (HL.out _).2 (HK5.out.gen k hk hke)⟩
    · intro x c kl yd yp w7 cnt1 hkey hlk hv hat hrg1 hlt hg1 hs1 hen
      obtain ⟨x', ex, hkl, _⟩ := Maps.keyOf_str Tryd.underlying9 hkey
      obtain rfl : x = x' := encStr_inj ex
      subst hkl
      have hown := HO.out.kept hg1 (.inr (row_ne_iter HO.out hrg).symm)
      have HOW := Lib.hid hown
      have HRG := Lib.hid hrg1
      have HCC := Lib.hid (HC.out.step hlk hat)
      have HB7 := Lib.hid (HB.out.grown hg1 HB.out.size (fun k hk => by injection hk with hk; have := HRL.out; omega))
      have hm1 : ss.length + 1 ≤ maxLen := by have := HSZ.out; simp only [maxLen]; omega
      have hm2 : (ss.length + 1) * 16 ≤ 140737488355328 := by have := HSZ.out; omega
      clear hrg hkey hlk hv hat hrg1 hg1 hs1 hown ex
      go_wp2_with (first
        | (at_builtin; refine wpList_append_one rfl _ _ 28 rfl w.heap.size 9 i0 _ 16 Tryd.underlying28 hi0 hz0 hz1 hz2 rfl _ _ _ rfl HOW.out (encStr x) rfl rfl hm1 hm2 HB7.out.size ?_; intro v1 w8 hown1 hgrow1 _)
        | fail)
      have HRG8 := Lib.hid (HRG.out.kept hgrow1 (map_ne_row HRG.out.owns HOW.out) (row_ne_iter HOW.out HRG.out))
      go_roundg cnt1
      case measure => exact hlt
      case rel => exact ⟨_, ss ++ [x], HRG8.out, by simp; omega, by simpa using hown1, HCC.out, below_of_only HB7.out HB7.out.size hgrow1 (fun k hk => own_below HOW.out k hk)⟩
end Go.Proofs.YtofdoaollanbpaaDoor.Res
