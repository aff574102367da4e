/- All names that are reserved. The walk. -/
import Derived.Test.YtofdoaollanbpaaDoorReU
namespace Go.Proofs.YtofdoaollanbpaaDoor.Res
open Go.RowKit Go.Proofs.YtofdoaollanbpaaDoor.Aid
attribute [local go_sem ↓] Go.wp_at_zero Go.wp_at_succ
set_option linter.unusedVariables false
set_option linter.unusedSimpArgs false
variable {H : Type}
theorem plain_u8 {v : Value} {y : DataW H × List MemPlace} (h : plainElem Tryd.prog 138 v = some y) : ∃ c : Int, v = .int .u8 c := by
  obtain ⟨c, rfl, _⟩ := plainElem_int_inv Tryd.underlying138 h
  exact ⟨c, rfl⟩
def boolV (k : Nat) : Value := .bool (k == 1)
set_option maxRecDepth 100000 in
theorem plain_bool {v : Value} {y : DataW H × List MemPlace} (h : plainElem Tryd.prog 4 v = some y) : ∃ c : Nat, v = boolV c := by
  unfold plainElem at h
  rw [Tryd.underlying4] at h
  cases v <;> simp at h
  rename_i c
  cases c
  · exact ⟨0, rfl⟩
  · exact ⟨1, rfl⟩
/-- A list of words is being laid into the names. -/
structure Lay (w wr : World) (e b r nk bN n gs : Nat) (D N : DataW H) (left : Lit → Bool) (k : Nat) (Old : Lit → Prop) : Prop where
  rg : wr.ranges Tryd.prog 9 (plainElem Tryd.prog e) b r nk D left k
  nm : Names wr bN n N
  low : Below w.heap.size w wr
  b50 : Blk wr w.heap.size 50 [.slice (some ⟨gs, 0, none⟩) 1 1]
  bl : w.heap.size < bN
  rl : bN < r
  kb : b < w.heap.size
  dn : ∀ l, Maps.has D l = true → left l = false → Maps.has N l = true
  old : ∀ l, Old l → Maps.has N l = true
theorem Lay.step {w wr w1 w2 : World} {e b r nk bN n gs k k1 : Nat} {D N : DataW H} {left : Lit → Bool} {Old : Lit → Prop} (h : Lay w wr e b r nk bN n gs D N left k Old) (x : ByteArray) (d : DataW H)
    (hrg : w1.ranges Tryd.prog 9 (plainElem Tryd.prog e) b r nk D (fun z => left z && !z.sameKey (key x)) k1) (hg : wr.grownBy w1 (some r)) (hN : w2.ownsMap Tryd.prog 9 (plainElem Tryd.prog 35) bN (n + 1) (N.put (key x) d)) (hg2 : w1.grownBy w2 (some bN)) :
    Lay w w2 e b r nk bN (n + 1) gs D (N.put (key x) d) (fun z => left z && !z.sameKey (key x)) k1 Old := by
  have q1 := h.bl
  have q2 := h.rl
  have q3 := h.kb
  have hb1 := below_of_only h.low h.low.size hg (fun g hg => by injection hg with hg; omega)
  refine ⟨hrg.kept hg2 (fun e => by injection e with e; omega) (fun e => by injection e with e; omega), ⟨hN, h.nm.2.put _ _⟩, below_of_only hb1 hb1.size hg2 (fun g hg => by injection hg with hg; omega), (h.b50.grown hg (fun e => by injection e with e; omega)).grown hg2 (fun e => by injection e with e; omega), q1, q2, q3, fun l hl hlf => ?_, fun l hl => put_has h.nm.2 _ _ _ (.inl (h.old l hl))⟩
  by_cases c : l = key x
  · exact put_has h.nm.2 _ _ _ (.inr c)
  · simp only [Maps.sameKey_ne c, Bool.not_false, Bool.and_true] at hlf
    exact put_has h.nm.2 _ _ _ (.inl (h.dn l hl hlf))
/-- What the caller of the renamer gets. -/
structure Kept (w' : World) (base bN nn : Nat) (N DK DS : DataW H) (s : Sc) (Y : Nat → Sy) : Prop where
  low : base ≤ bN
  nm : Names w' bN nn N
  k1 : ∀ l, Maps.has DK l = true → Maps.has N l = true
  k2 : ∀ l, Maps.has DS l = true → Maps.has N l = true
  mem : ∀ k, k < s.n → (Y (s.refs k).toNat).kept = true → Maps.has N (key (Y (s.refs k).toNat).name) = true
  gen : ∀ k, k < s.gn → (Y (s.gens k).toNat).kept = true → Maps.has N (key (Y (s.gens k).toNat).name) = true
set_option maxRecDepth 100000 in
set_option maxHeartbeats 8000000 in
theorem compute {F : Fo H} (w : World) (base n gs cap m h : Nat) (A : Option Addr) (S : Nat → Sc) (Y : Nat → Sy) (y0 y1 : Int) (kb nk sb ns : Nat) (DK DS : DataW H) (hF : Forest w base F S n) (hn : n ≤ 60) (hn0 : 0 < n) (ht : Tab w gs A cap Y m y0 y1)
    (hk : w.ownsMap Tryd.prog 9 (plainElem Tryd.prog 138) kb nk DK) (hs : w.ownsMap Tryd.prog 9 (plainElem Tryd.prog 4) sb ns DS) (hkc : w.cell? ⟨0, 0, none⟩ = some (.map (some kb))) (hsc : w.cell? ⟨1, 0, none⟩ = some (.map (some sb))) (hb3 : 3 ≤ w.heap.size)
    (hh : Blk w h 45 [.pointer (some ⟨F.P 0, 0, none⟩)]) (hcalm : ∀ j, j < n → (S j).ev = true → (S j).n = 0 ∧ (S j).gn = 0) (hr : ∀ k, k < (S 0).n → 0 ≤ (S 0).refs k ∧ (S 0).refs k < m) (hg : ∀ k, k < (S 0).gn → 0 ≤ (S 0).gens k ∧ (S 0).gens k < m)
    (hp : ∀ k, k < m → (Y k).Plain ∧ (Y k).name.size ≤ 2147483647) (hm : m ≤ 200) (hbig : nk ≤ 100) (hbig2 : ns ≤ 100) (hsm : (S 0).Small) :
    Calls Tryd.prog 19 #[.slice (some ⟨h, 0, none⟩) 1 1, .agg #[.slice (some ⟨gs, 0, none⟩) 1 1]] w fun e w' => Below w.heap.size w w' ∧ ∃ bN nn N, e = .returned (.map (some bN)) ∧ Kept w' w.heap.size bN nn N DK DS (S 0) Y ∧ nn ≤ 4294967600 := by
  have hmm := @run_makeMap Tryd.prog
  have HF := Lib.hid hF
  have HT := Lib.hid ht
  have HK := Lib.hid hk
  have HS := Lib.hid hs
  have HKC := Lib.hid (fun W (hb : Below w.heap.size w W) => (⟨bcell hb (by omega) hkc, bcell hb (by omega) hsc⟩ : W.cell? ⟨0, 0, none⟩ = some (.map (some kb)) ∧ W.cell? ⟨1, 0, none⟩ = some (.map (some sb))))
  have HH := Lib.hid hh
  have HCA := Lib.hid hcalm
  have HR := Lib.hid hr
  have HG := Lib.hid hg
  have HP := Lib.hid hp
  have HSM := Lib.hid hsm
  have HSK := Lib.hid (size_le hk)
  have HSS := Lib.hid (size_le hs)
  clear hF ht hk hs hkc hsc hh hcalm hr hg hp hsm
  go_enter Tryd.func19, Tryd.ntmps19
  go_upto_region 2 with fail
  obtain ⟨w1, e1⟩ : ∃ w1, w1 = (w.alloc (.cells #[.slice (some ⟨gs, 0, none⟩) 1 1] 50)).alloc (.map #[] 0) := ⟨_, rfl⟩
  have B1 := Lib.hid (show Below w.heap.size w w1 by rw [e1]; exact below_at (below_at (Below.refl _ _) _) _)
  have L1 := Lib.hid (show Blk w1 w.heap.size 50 [.slice (some ⟨gs, 0, none⟩) 1 1] by rw [e1]; exact (Blk.new w 50 _).alloc _)
  have N1 := Lib.hid (show Names (H := H) w1 (w.heap.size + 1) 0 (.map []) by
    rw [e1]
    have := World.ownsMap_made (H := H) (w.alloc (.cells #[.slice (some ⟨gs, 0, none⟩) 1 1] 50)) Tryd.prog 9 (plainElem Tryd.prog 35)
    rw [show (w.alloc (.cells #[.slice (some ⟨gs, 0, none⟩) 1 1] 50)).heap.size = w.heap.size + 1 from by simp] at this
    exact ⟨this, Maps.isMap_empty⟩)
  obtain ⟨bN, hbN⟩ : ∃ bN, bN = w.heap.size + 1 := ⟨_, rfl⟩
  have HBL := Lib.hid (show w.heap.size < bN by omega)
  rw [← hbN] at N1
  rw [← e1, ← hbN]
  clear e1 hbN
  obtain ⟨g0, _⟩ := HKC.out _ B1.out
  have hmem := HK.out.kept (only_of_below B1.out none) (by simp)
  go_wp2_with (first
    | (at_range; refine wpList_range_own _ rfl _ 63 rfl 9 138 key9 Tryd.underlying63 _ kb nk _ rfl hmem ?_; intro w2 hrg hg2 hs2)
    | fail)
  go_frame
  have HLY := Lib.hid (show Lay w w2 138 kb w1.heap.size nk bN 0 gs DK (.map []) (Maps.has DK) (Maps.size DK) (fun _ => False) from
    ⟨hrg, ⟨N1.out.1.kept hg2 (by simp), N1.out.2⟩, B1.out.trans (below_of_only (Below.refl w.heap.size w1) B1.out.size hg2 (fun g hg => by cases hg)), L1.out.grown hg2 (by simp), HBL.out, N1.out.1.lt, HK.out.lt, fun l hl h => (by rw [hl] at h; cases h), fun l h => h.elim⟩)
  obtain ⟨r, hr⟩ : ∃ r, r = w1.heap.size := ⟨_, rfl⟩
  rw [← hr] at HLY ⊢
  clear hmem hrg hg2 hs2 hr g0 B1 L1 N1
  go_loopg [6] (Maps.size DK) (fun k sv wr => Aside (∃ left n1 N1, Lay w wr 138 kb r nk bN n1 gs DK N1 left k (fun _ => False) ∧ n1 + k ≤ nk))
  case atStart => exact ⟨_, _, _, HLY.out, by have := HSK.out; omega⟩
  case round =>
    clear HLY
    obtain ⟨left, n1, N1, hL, hk1⟩ := hrel.out
    have HL := Lib.hid hL
    have hrg := hL.rg
    clear hL hrel
    go_wp2_with (first
      | (at_next; refine wpList_next_ranges _ rfl _ rfl 9 key9 (plainElem Tryd.prog 138) Value.string (Value.int .u8) (fun key kl hk => by obtain ⟨x, hx, _⟩ := WideMaps.string_of_keyOf Tryd.underlying9 hk; exact ⟨x, hx⟩) (fun v y hv => plain_u8 hv) kb r nk _ _ _ rfl hrg ?_ ?_)
      | fail)
    · intro hc0 hl0
      subst hc0
      have HN := Lib.hid (show ∀ l, Maps.has DK l = true → Maps.has N1 l = true from fun l hl => HL.out.dn l hl (hl0 l))
      have HNM := Lib.hid HL.out.nm
      have HB := Lib.hid HL.out.low
      have HL5 := Lib.hid HL.out.b50
      clear HL hrg hl0
      go_upto_region 6 with fail
      obtain ⟨_, g1⟩ := HKC.out _ HB.out
      have hmem := HS.out.kept (only_of_below HB.out none) (by simp)
      go_wp2_with (first
        | (at_range; refine wpList_range_own _ rfl _ 64 rfl 9 4 key9 Tryd.underlying64 _ sb ns _ rfl hmem ?_; intro w2 hrg hg2 hs2)
        | fail)
      go_frame
      have HLY := Lib.hid (show Lay w w2 4 sb wr.heap.size ns bN n1 gs DS N1 (Maps.has DS) (Maps.size DS) (fun l => Maps.has DK l = true) from
        ⟨hrg, ⟨HNM.out.1.kept hg2 (by simp), HNM.out.2⟩, HB.out.trans (below_of_only (Below.refl w.heap.size wr) HB.out.size hg2 (fun g hg => by cases hg)), HL5.out.grown hg2 (by simp), HBL.out, HNM.out.1.lt, HS.out.lt, fun l hl h => (by rw [hl] at h; cases h), HN.out⟩)
      obtain ⟨r2, hr⟩ : ∃ r2, r2 = wr.heap.size := ⟨_, rfl⟩
      rw [← hr] at HLY ⊢
      clear hmem hrg hg2 hs2 hr g1 HN HNM HB HL5
      have HN1 := Lib.hid (show n1 ≤ nk by omega)
      clear hk1
      go_loopg [7] (Maps.size DS) (fun k sv wr => Aside (∃ left n2 N2, Lay w wr 4 sb r2 ns bN n2 gs DS N2 left k (fun l => Maps.has DK l = true) ∧ n2 + k ≤ nk + ns))
      case atStart => exact ⟨_, _, _, HLY.out, by have := HSS.out; have := HN1.out; omega⟩
      case round =>
        clear HLY
        obtain ⟨left, n2, N2, hL, hk1⟩ := hrel.out
        have HL := Lib.hid hL
        have hrg := hL.rg
        clear hL hrel
        go_wp2_with (first
          | (at_next; refine wpList_next_ranges _ rfl _ rfl 9 key9 (plainElem Tryd.prog 4) Value.string boolV (fun key kl hk => by obtain ⟨x, hx, _⟩ := WideMaps.string_of_keyOf Tryd.underlying9 hk; exact ⟨x, hx⟩) (fun v y hv => plain_bool hv) sb r2 ns _ _ _ rfl hrg ?_ ?_)
          | fail)
        · intro hc0 hl0
          subst hc0
          have HN := Lib.hid (show ∀ l, Maps.has DS l = true → Maps.has N2 l = true from fun l hl => HL.out.dn l hl (hl0 l))
          have HNO := Lib.hid HL.out.old
          have HNM := Lib.hid HL.out.nm
          have HB := Lib.hid HL.out.low
          have HL5 := Lib.hid HL.out.b50
          clear HL hrg hl0
          have HFX := Lib.hid (HF.out.below HB.out)
          have HTX := Lib.hid (HT.out.below HB.out)
          have h45 := (HH.out.below HB.out HH.out.lt).get 0 rfl
          have c50 := HL5.out.get 0 rfl
          go_wp2_with fail
          refine wp_loop_rounds 2 ?_
          rw [rounds_succ]
          go_wp2_with fail
          have h1 := HFX.out.one 0 hn0
          have hml : F.M 0 < w.heap.size := (HF.out.one 0 hn0).mem.lt
          have hCALL : Calls Tryd.prog 32 #[.pointer (some ⟨F.P 0, 0, none⟩), .agg #[.slice (some ⟨gs, 0, none⟩) 1 1], .map (some bN)] wr fun e w' => e = .returned (.tuple #[]) ∧ wr.grownBy w' (some bN) ∧ ∃ N', Names w' bN (n2 + (S 0).n + (S 0).gn) N' ∧ Done N2 N' (S 0) Y (fun _ => false) (S 0).gn := by
            obtain ⟨ev, hev⟩ : ∃ ev, (S 0).ev = ev := ⟨_, rfl⟩
            cases ev
            · exact compA wr base (S 0) 0 n gs cap m A Y y0 y1 bN n2 N2 h1 HTX.out HNM.out (by have := HBL.out; omega) hev HR.out HG.out HP.out hm (by have h1 := HSM.out.1; have h2 := HSM.out.2.2.2; omega) HSM.out.2.2.2
            · obtain ⟨q0, q1⟩ := HCA.out 0 hn0 hev
              refine (compB base n gs S (.map (some bN)) HCA.out hn n 0 wr (by omega) hn0 hev HFX.out).mono ?_
              rintro e w' ⟨rfl, b⟩
              exact ⟨rfl, only_of_below b _, N2, ⟨(HNM.out.1.kept (only_of_below b none) (by simp)).mono (by omega), HNM.out.2⟩, ⟨fun l hl => hl, fun k hk => by omega, fun k hk => by omega⟩⟩
          refine hCALL.mono ?_
          rintro e w5 ⟨rfl, hg5, N5, hn5, hd5⟩
          have HB5 := Lib.hid (HB.out.grown hg5 HB.out.size (fun k hk => by injection hk with hk; have := HBL.out; omega))
          have HKE := Lib.hid (show Kept w5 w.heap.size bN (n2 + (S 0).n + (S 0).gn) N5 DK DS (S 0) Y from ⟨by have := HBL.out; omega, hn5, fun l hl => hd5.old l (HNO.out l hl), fun l hl => hd5.old l (HN.out l hl), fun k hk => hd5.mem k hk rfl, fun k hk => hd5.gen k hk⟩)
          clear hCALL h1 hml hg5 hn5 hd5 h45 c50
          go_wp2_with fail
          rw [rounds_succ]
          go_wp2_with fail
          go_returns
          exact ⟨HB5.out, bN, _, N5, rfl, HKE.out, by have h1 := HSM.out.1; have h2 := HSM.out.2.2.2; omega⟩
        · intro x c kl yd yp w3 cnt1 hkey hlk hv hat hrg1 hlt hg1 hs1 hen
          obtain ⟨x', ex, hkl, hxl⟩ := WideMaps.string_of_keyOf Tryd.underlying9 hkey
          injection ex with ex
          subst ex
          replace hkl : kl = key x := hkl
          subst hkl
          have hroom : n2 < maxLen := by simp only [maxLen]; omega
          have hown1 := HL.out.nm.1.kept hg1 (fun e => by injection e with e; have := HL.out.rl; omega)
          have HRG := Lib.hid hrg1
          have HG1 := Lib.hid hg1
          clear hrg hkey hlk hv hat hrg1 hg1 hs1
          go_wp2_with (first
            | (at_mapUpdate; refine wpList_mapUpdate_own _ rfl _ _ _ 43 rfl 9 35 key9 Tryd.underlying43 _ bN n2 N2 rfl hown1 hroom _ _ _ rfl rfl (WideMaps.keyOf_string_mk Tryd.underlying9 hxl) _ [] (plainElem_int Tryd.underlying35 (by decide)) ?_; intro w5 hown5 hg5)
            | fail)
          go_frame
          have HL5 := Lib.hid (HL.out.step x _ HRG.out HG1.out hown5 hg5)
          clear hown5 hg5 hown1
          go_roundg cnt1
          case measure => exact hlt
          case rel => exact ⟨_, _, _, HL5.out, by omega⟩
    · intro x c kl yd yp w3 cnt1 hkey hlk hv hat hrg1 hlt hg1 hs1 hen
      obtain ⟨x', ex, hkl, hxl⟩ := WideMaps.string_of_keyOf Tryd.underlying9 hkey
      injection ex with ex
      subst ex
      replace hkl : kl = key x := hkl
      subst hkl
      have hroom : n1 < maxLen := by simp only [maxLen]; omega
      have hown1 := HL.out.nm.1.kept hg1 (fun e => by injection e with e; have := HL.out.rl; omega)
      have HRG := Lib.hid hrg1
      have HG1 := Lib.hid hg1
      clear hrg hkey hlk hv hat hrg1 hg1 hs1
      go_wp2_with (first
        | (at_mapUpdate; refine wpList_mapUpdate_own _ rfl _ _ _ 43 rfl 9 35 key9 Tryd.underlying43 _ bN n1 N1 rfl hown1 hroom _ _ _ rfl rfl (WideMaps.keyOf_string_mk Tryd.underlying9 hxl) _ [] (plainElem_int Tryd.underlying35 (by decide)) ?_; intro w5 hown5 hg5)
        | fail)
      go_frame
      have HL5 := Lib.hid (HL.out.step x _ HRG.out HG1.out hown5 hg5)
      clear hown5 hg5 hown1
      go_roundg cnt1
      case measure => exact hlt
      case rel => exact ⟨_, _, _, HL5.out, by omega⟩
end Go.Proofs.YtofdoaollanbpaaDoor.Res
