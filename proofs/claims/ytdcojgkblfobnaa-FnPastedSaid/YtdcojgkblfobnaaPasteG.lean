/- The statement FnPasted, walked: whatever the texts, it returns true. -/
import Derived.Test.YtdcojgkblfobnaaPasteF
import Derived.BigQuiet
namespace Go.Proofs.Ytdcojgkblfobnaa.Paste
open Go.RowKit Go.Proofs.Ytdcojgkblfobnaa.Aid
attribute [local go_sem ↓] Go.wp_at_zero Go.wp_at_succ
/-- A call came back with a truth value. -/
def IsB (e : Ending) : Prop := ∃ b, e = .returned (.bool b)
set_option maxHeartbeats 1000000 in
theorem fits5 (A : Option Addr) (n c : Nat) (z : List ByteArray) (w : World) (hA : Reads w A n fun i => .string (z.getD i ByteArray.empty)) :
    Calls Try.prog 31 #[.slice A n c] w fun e w' => IsB e ∧ w' = w := by
  have HA := Lib.hid hA
  clear hA
  go_enter Try.func31, Try.ntmps31
  go_wp2_with fail
  · go_returns
    exact ⟨⟨_, rfl⟩, rfl⟩
  · go_loopw [10] (fun v wr => ∃ k : Nat, k ≤ n ∧ v = .int .i64 k ∧ wr = w) (fun v _ => n - (intOf v).toNat)
    case atStart => exact ⟨0, Nat.zero_le _, rfl, rfl⟩
    case round =>
      obtain ⟨k, hk, rfl, rfl⟩ := hrel
      by_cases hlt : k < n
      · obtain ⟨ab, ao, rfl, hab, ce⟩ := HA.out k hlt
        have i0 : (0 : Int) ≤ (k : Int) := by omega
        have i1 : (k : Int) < n := by omega
        go_wp2_with fail
        · go_returns
          exact ⟨⟨_, rfl⟩, rfl⟩
        · go_roundw
          case rel => exact ⟨k + 1, by omega, by go_num, trivial⟩
          case measure => simp [intOf]; omega
      · obtain rfl : k = n := by omega
        go_wp2_with fail
        go_returns
        exact ⟨⟨_, rfl⟩, rfl⟩
theorem cat_bytes (z : List ByteArray) (k : Nat) (h : k < z.length) : (⟨(cat z k).toArray⟩ : ByteArray) ++ z.getD k ByteArray.empty = ⟨(cat z (k + 1)).toArray⟩ := by
  rw [cat_succ z k h]
  apply ByteArray.ext
  rw [ByteArray.data_append]
  apply Array.toList_inj.1
  simp
theorem cat_len (z : List ByteArray) (k : Nat) (hk : k ≤ z.length) (h : ∀ i, i < k → (z.getD i ByteArray.empty).size ≤ 1000) : (cat z k).length ≤ k * 1000 := by
  induction k with
  | zero => simp [cat]
  | succ k ih =>
    rw [cat_succ z k (by omega), List.length_append, ← size_list]
    have := ih (by omega) (fun i hi => h i (by omega))
    have := h k (by omega)
    omega
theorem size_lit (L : List UInt8) : (⟨L.toArray⟩ : ByteArray).size = L.length := by rw [size_list]
theorem lst_lit (L : List UInt8) : lst L = lastOf ⟨L.toArray⟩ 0 := by
  have h := lst_str [] (⟨L.toArray⟩ : ByteArray)
  rw [List.nil_append] at h
  exact h.symm
theorem pasted_u (A : Option Addr) (n c : Nat) (z : List ByteArray) (nl : Bool) (w : World) (U : ByteArray) (x : Int) (hA : Reads w A n fun i => .string (z.getD i ByteArray.empty)) (hz : z.length = n) (hn : n ≤ 100) (hs : ∀ i, i < z.length → (z.getD i ByteArray.empty).size ≤ 1000) (hU : ⟨(text z nl).toArray⟩ = U) (hx : lastOf U 0 = x) :
    Calls Try.prog 32 #[.slice A n c, .bool nl] w fun e w' => e = .returned (.tuple #[.string U, .int .i64 U.size, .int .u8 x]) ∧ Below w.heap.size w w' := by
  refine (pasted A n c z nl w hA hz hn hs).mono ?_
  rintro e w' ⟨rfl, h⟩
  rw [lst_lit, ← size_lit, hU, hx]
  exact ⟨rfl, h⟩
theorem text_a : (⟨(text [⟨#[97]⟩] false).toArray⟩ : ByteArray) = ⟨#[97]⟩ := rfl
theorem pasted_a (w : World) (g : Nat) (hg : Blk w g 9 [.string ⟨#[97]⟩]) :
    Calls Try.prog 32 #[.slice (some ⟨g, 0, none⟩) 1 1, .bool false] w fun e w' => e = .returned (.tuple #[.string ⟨#[97]⟩, .int .i64 1, .int .u8 97]) ∧ Below w.heap.size w w' := by
  refine (pasted_u (some ⟨g, 0, none⟩) 1 1 [⟨#[97]⟩] false w ⟨#[97]⟩ 97 (reads_blk hg 1 fun i hi => ?_) rfl (by omega) (fun i hi => ?_) text_a rfl).mono fun e w' h => h
  · obtain rfl : i = 0 := by omega
    rfl
  · have : i < 1 := hi
    obtain rfl : i = 0 := by omega
    show 1 ≤ 1000
    omega
theorem end_below {w1 wr w2 w3 : World} {o : Obj} (hb : Below w1.heap.size w1 wr) (hb2 : Below wr.heap.size wr w2) (hb3 : Below (w2.alloc o).heap.size (w2.alloc o) w3) : Below w1.heap.size w1 w3 := by
  have h12 : Below w1.heap.size w1 w2 := hb.trans (hb2.mono hb.size)
  have h13 : Below w1.heap.size w1 (w2.alloc o) := below_at h12 o
  exact h13.trans (hb3.mono h13.size)
set_option maxRecDepth 100000 in
set_option maxHeartbeats 4000000 in
theorem law (A : Option Addr) (n c : Nat) (z : List ByteArray) (nl : Bool) (w : World) (hA : Reads w A n fun i => .string (z.getD i ByteArray.empty)) (hz : z.length = n) (hn : n ≤ 9223372036854775807) (hs : ∀ i, i < z.length → (z.getD i ByteArray.empty).size ≤ 9223372036854775807) :
    Calls Try.prog 12 #[.slice A n c, .bool nl] w fun e w' => e = .returned (.bool true) ∧ Below w.heap.size w w' := by
  subst hz
  have HA := Lib.hid hA
  have HS := Lib.hid hs
  clear hA hs
  go_enter Try.func12, Try.ntmps12
  go_wp2_with fail
  refine (fits5 A z.length c z w HA.out).mono ?_
  rintro e w1 ⟨⟨b, rfl⟩, rfl⟩
  cases b
  · go_wp2_with fail
    go_returns
    exact ⟨rfl, Below.refl _ _⟩
  go_wp2_with fail
  go_loopw [5, 6] (fun s v wr => ∃ k : Nat, k ≤ z.length ∧ v = .int .i64 k ∧ s = .string ⟨(cat z k).toArray⟩ ∧ (∀ i, i < k → (z.getD i ByteArray.empty).size ≤ 1000) ∧ (0 < k → z.length ≤ 100) ∧ Below w1.heap.size w1 wr) (fun _ v _ => z.length - (intOf v).toNat)
  case atStart => exact ⟨0, Nat.zero_le _, rfl, by simp [cat], fun i hi => by omega, fun h => by omega, Below.refl _ _⟩
  case round =>
    obtain ⟨k, hk, rfl, rfl, h1, h2, hb⟩ := hrel
    by_cases hlt : k < z.length
    · obtain ⟨ab, ao, rfl, hab, ce⟩ := HA.out k hlt
      have cr : wr.cell? ⟨ab, ao + k, none⟩ = some (.string (z.getD k ByteArray.empty)) := bcell hb hab ce
      have i0 : (0 : Int) ≤ (k : Int) := by omega
      have i1 : (k : Int) < z.length := by omega
      have hsk := HS.out k hlt
      have hcb := cat_bytes z k hlt
      obtain ⟨s, es⟩ : ∃ s, s = z.getD k ByteArray.empty := ⟨_, rfl⟩
      rw [← es] at cr hsk hcb
      have ES := Lib.hid es
      have hcl := cat_len z k hk h1
      have H1 := Lib.hid h1
      clear ce es h1
      by_cases hbig : 1000 < s.size
      · have j0 : (1000 : Int) < s.size := by omega
        go_wp2_with fail
        go_returns
        exact ⟨rfl, hb⟩
      · have j0 : decide ((1000 : Int) < s.size) = false := by simp; omega
        have hno : ¬ 9223372036854775807 < (cat z k).length + s.size := by omega
        by_cases hmany : 100 < z.length
        · have j1 : (100 : Int) < z.length := by omega
          go_wp2_with fail
          go_returns
          exact ⟨rfl, hb⟩
        · have j1 : decide ((100 : Int) < z.length) = false := by simp; omega
          go_wp2_with fail
          go_roundw
          case rel =>
            refine ⟨k + 1, by omega, by go_num, rfl, ?_, fun _ => by omega, hb⟩
            intro i hi
            by_cases he : i = k
            · subst he
              rw [← ES.out]
              omega
            · exact H1.out i (by omega)
          case measure => simp [intOf]; omega
    · obtain rfl : k = z.length := by omega
      have hzn : z.length ≤ 100 := by
        rcases Nat.eq_zero_or_pos z.length with h | h
        · omega
        · exact h2 h
      obtain ⟨T, hT⟩ : ∃ T, T = cat z z.length := ⟨_, rfl⟩
      rw [← hT]
      have HT := Lib.hid hT
      have H1 := Lib.hid h1
      clear hT h1 h2
      have hTl : T.length ≤ 100000 := by
        rw [HT.out]
        have := cat_len z z.length (Nat.le_refl _) H1.out
        omega
      have hno : ¬ 9223372036854775807 < T.length + 1 := by omega
      have hr := Lib.hid (show Reads wr A z.length fun i => .string (z.getD i ByteArray.empty) from HA.out.below hb)
      have htl : ∀ nl, (text z nl).length ≤ 200000 := by
        intro nl
        have e : cat z z.length = T := HT.out.symm
        cases nl
        · show (cat z z.length).length ≤ 200000
          rw [e]
          omega
        · show (withEnd (cat z z.length)).length ≤ 200000
          rw [e]
          unfold withEnd
          split
          · rw [List.length_append]
            simp only [List.length_cons, List.length_nil]
            omega
          · omega
      cases nl
      · have eU : (⟨(text z false).toArray⟩ : ByteArray) = ⟨T.toArray⟩ := by rw [HT.out]; rfl
        have EU := Lib.hid eU
        have htl := htl false
        clear eU
        go_wp2_with fail
        generalize hU : (⟨T.toArray⟩ : ByteArray) = U at EU ⊢
        have hUs : U.size ≤ 200000 := by
          have h := congrArg ByteArray.size EU.out
          rw [size_lit] at h
          omega
        clear hU
        by_cases hp : 0 < U.size
        · have hx : lastOf U 0 = ((U[U.size - 1]'(by omega)).toNat : Int) := dif_pos hp
          have hp' : (0 : Int) < U.size := by omega
          refine (pasted_u A z.length c z false wr U _ hr.out rfl hzn H1.out EU.out hx).mono ?_
          clear hx
          rintro e w2 ⟨rfl, hb2⟩
          go_wp2_with fail
          refine (pasted_a (w2.alloc (.cells #[.string ⟨#[97]⟩] 9)) w2.heap.size (Blk.new w2 9 _)).mono ?_
          rintro e w3 ⟨rfl, hb3⟩
          have HB := Lib.hid (end_below hb hb2 hb3)
          clear hb2 hb3
          go_wp2_with fail
          go_returns
          exact ⟨rfl, HB.out⟩
        · have hx : lastOf U 0 = 0 := dif_neg hp
          have hp0 : U.size = 0 := by omega
          have hp' : (U.size : Int) = 0 := by omega
          have HX := Lib.hid hx
          clear hp
          refine (pasted_u A z.length c z false wr U _ hr.out rfl hzn H1.out EU.out HX.out).mono ?_
          clear hx
          rintro e w2 ⟨rfl, hb2⟩
          go_wp2_with fail
          refine (pasted_a (w2.alloc (.cells #[.string ⟨#[97]⟩] 9)) w2.heap.size (Blk.new w2 9 _)).mono ?_
          rintro e w3 ⟨rfl, hb3⟩
          have HB := Lib.hid (end_below hb hb2 hb3)
          clear hb2 hb3
          go_wp2_with fail
          go_returns
          exact ⟨rfl, HB.out⟩
      · have htl := htl true
        have ew : text z true = withEnd T := by rw [HT.out]; rfl
        by_cases h0 : 0 < T.length
        · have i0 : (0 : Int) < T.length := by omega
          by_cases h1 : lst T = 10
          · have eU : (⟨(text z true).toArray⟩ : ByteArray) = ⟨T.toArray⟩ := by rw [ew, withEnd, if_neg (fun h => h.2 h1)]
            have EU := Lib.hid eU
            have hl : (((⟨T.toArray⟩ : ByteArray)[T.length - 1]'(by rw [size_lit]; omega)).toNat : Int) = 10 := by rw [← h1, lst_lit, lastOf, dif_pos (by rw [size_lit]; omega)]; simp only [size_lit]
            clear eU h1 ew
            go_wp2_with fail
            generalize hU : (⟨T.toArray⟩ : ByteArray) = U at EU ⊢
            have hUs : U.size ≤ 200000 := by
              have h := congrArg ByteArray.size EU.out
              rw [size_lit] at h
              omega
            clear hU
            by_cases hp : 0 < U.size
            · have hx : lastOf U 0 = ((U[U.size - 1]'(by omega)).toNat : Int) := dif_pos hp
              have hp' : (0 : Int) < U.size := by omega
              refine (pasted_u A z.length c z true wr U _ hr.out rfl hzn H1.out EU.out hx).mono ?_
              clear hx
              rintro e w2 ⟨rfl, hb2⟩
              go_wp2_with fail
              refine (pasted_a (w2.alloc (.cells #[.string ⟨#[97]⟩] 9)) w2.heap.size (Blk.new w2 9 _)).mono ?_
              rintro e w3 ⟨rfl, hb3⟩
              have HB := Lib.hid (end_below hb hb2 hb3)
              clear hb2 hb3
              go_wp2_with fail
              go_returns
              exact ⟨rfl, HB.out⟩
            · have hx : lastOf U 0 = 0 := dif_neg hp
              have hp0 : U.size = 0 := by omega
              have hp' : (U.size : Int) = 0 := by omega
              have HX := Lib.hid hx
              clear hp
              refine (pasted_u A z.length c z true wr U _ hr.out rfl hzn H1.out EU.out HX.out).mono ?_
              clear hx
              rintro e w2 ⟨rfl, hb2⟩
              go_wp2_with fail
              refine (pasted_a (w2.alloc (.cells #[.string ⟨#[97]⟩] 9)) w2.heap.size (Blk.new w2 9 _)).mono ?_
              rintro e w3 ⟨rfl, hb3⟩
              have HB := Lib.hid (end_below hb hb2 hb3)
              clear hb2 hb3
              go_wp2_with fail
              go_returns
              exact ⟨rfl, HB.out⟩
          · have eU : (⟨(text z true).toArray⟩ : ByteArray) = (⟨T.toArray⟩ : ByteArray) ++ ⟨#[10]⟩ := by
              rw [ew, withEnd, if_pos ⟨h0, h1⟩]
              apply ByteArray.ext
              rw [ByteArray.data_append]
              apply Array.toList_inj.1
              simp
            have EU := Lib.hid eU
            have hl : ((((⟨T.toArray⟩ : ByteArray)[T.length - 1]'(by rw [size_lit]; omega)).toNat : Int) == 10) = false := by
              have e : (((⟨T.toArray⟩ : ByteArray)[T.length - 1]'(by rw [size_lit]; omega)).toNat : Int) = lst T := by rw [lst_lit, lastOf, dif_pos (by rw [size_lit]; omega)]; simp only [size_lit]
              rw [e]
              simpa using h1
            have hl' : ((((⟨T.toArray⟩ : ByteArray)[T.length - 1]'(by rw [size_lit]; omega)).toNat : Int) != 10) = true := by rw [bne, hl]; rfl
            clear eU h1 ew
            go_wp2_with fail
            generalize hU : ((⟨T.toArray⟩ : ByteArray) ++ ⟨#[10]⟩) = U at EU ⊢
            have hUs : U.size ≤ 200000 := by
              have h := congrArg ByteArray.size EU.out
              rw [size_lit] at h
              omega
            clear hU
            by_cases hp : 0 < U.size
            · have hx : lastOf U 0 = ((U[U.size - 1]'(by omega)).toNat : Int) := dif_pos hp
              have hp' : (0 : Int) < U.size := by omega
              refine (pasted_u A z.length c z true wr U _ hr.out rfl hzn H1.out EU.out hx).mono ?_
              clear hx
              rintro e w2 ⟨rfl, hb2⟩
              go_wp2_with fail
              refine (pasted_a (w2.alloc (.cells #[.string ⟨#[97]⟩] 9)) w2.heap.size (Blk.new w2 9 _)).mono ?_
              rintro e w3 ⟨rfl, hb3⟩
              have HB := Lib.hid (end_below hb hb2 hb3)
              clear hb2 hb3
              go_wp2_with fail
              go_returns
              exact ⟨rfl, HB.out⟩
            · have hx : lastOf U 0 = 0 := dif_neg hp
              have hp0 : U.size = 0 := by omega
              have hp' : (U.size : Int) = 0 := by omega
              have HX := Lib.hid hx
              clear hp
              refine (pasted_u A z.length c z true wr U _ hr.out rfl hzn H1.out EU.out HX.out).mono ?_
              clear hx
              rintro e w2 ⟨rfl, hb2⟩
              go_wp2_with fail
              refine (pasted_a (w2.alloc (.cells #[.string ⟨#[97]⟩] 9)) w2.heap.size (Blk.new w2 9 _)).mono ?_
              rintro e w3 ⟨rfl, hb3⟩
              have HB := Lib.hid (end_below hb hb2 hb3)
              clear hb2 hb3
              go_wp2_with fail
              go_returns
              exact ⟨rfl, HB.out⟩
        · have h00 : T = [] := List.eq_nil_of_length_eq_zero (by omega)
          have eU : (⟨(text z true).toArray⟩ : ByteArray) = ⟨#[]⟩ := by rw [ew, h00]; rfl
          have EU := Lib.hid eU
          clear ew
          subst h00
          go_wp2_with fail
          generalize hU : (⟨#[]⟩ : ByteArray) = U at EU ⊢
          have hUs : U.size ≤ 200000 := by
            have h := congrArg ByteArray.size EU.out
            rw [size_lit] at h
            omega
          clear hU
          by_cases hp : 0 < U.size
          · have hx : lastOf U 0 = ((U[U.size - 1]'(by omega)).toNat : Int) := dif_pos hp
            have hp' : (0 : Int) < U.size := by omega
            refine (pasted_u A z.length c z true wr U _ hr.out rfl hzn H1.out EU.out hx).mono ?_
            clear hx
            rintro e w2 ⟨rfl, hb2⟩
            go_wp2_with fail
            refine (pasted_a (w2.alloc (.cells #[.string ⟨#[97]⟩] 9)) w2.heap.size (Blk.new w2 9 _)).mono ?_
            rintro e w3 ⟨rfl, hb3⟩
            have HB := Lib.hid (end_below hb hb2 hb3)
            clear hb2 hb3
            go_wp2_with fail
            go_returns
            exact ⟨rfl, HB.out⟩
          · have hx : lastOf U 0 = 0 := dif_neg hp
            have hp0 : U.size = 0 := by omega
            have hp' : (U.size : Int) = 0 := by omega
            have HX := Lib.hid hx
            clear hp
            refine (pasted_u A z.length c z true wr U _ hr.out rfl hzn H1.out EU.out HX.out).mono ?_
            clear hx
            rintro e w2 ⟨rfl, hb2⟩
            go_wp2_with fail
            refine (pasted_a (w2.alloc (.cells #[.string ⟨#[97]⟩] 9)) w2.heap.size (Blk.new w2 9 _)).mono ?_
            rintro e w3 ⟨rfl, hb3⟩
            have HB := Lib.hid (end_below hb hb2 hb3)
            clear hb2 hb3
            go_wp2_with fail
            go_returns
            exact ⟨rfl, HB.out⟩
end Go.Proofs.Ytdcojgkblfobnaa.Paste
