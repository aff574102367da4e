/- The reference's string literals. The walk. -/
import Derived.Test.YtkhnkemmkedfcaaJsI
import Derived.Test.YtkhnkemmkedfcaaJsJ
namespace Go.Proofs.Ytkhnkemmkedfcaa.Js
open Go.RowKit Go.Proofs.Ytkhnkemmkedfcaa.Aid Go.Proofs.Ytkhnkemmkedfcaa.Runes Go.Proofs.Ytkhnkemmkedfcaa.Bytes Go.Proofs.Ytkhnkemmkedfcaa.Wtf Go.Proofs.Ytkhnkemmkedfcaa.Esc
attribute [local go_sem ↓] Go.wp_at_zero Go.wp_at_succ
set_option linter.unusedVariables false
/-- What the call hands back. -/
def JsPost (O : Option (List Nat)) (w : World) (e : Ending) (w' : World) : Prop :=
  Below w.heap.size w w' ∧ match O with
  | some us => ∃ v base, e = .returned (.tuple #[v, .bool true]) ∧ w'.ownsRow base 41 1 v us.length (ucells us)
  | none => e = .returned (.tuple #[.slice none 0 0, .bool false])
set_option maxRecDepth 100000 in
set_option maxHeartbeats 4000000 in
theorem jsString (s : ByteArray) (w : World) (hs : s.size ≤ 34359738368) (h0 : 0 < s.size) (hb0 : byt s 0 = 34) :
    Calls Try.prog 6 #[.string s] w (JsPost (js ((nats s).drop 1)) w) := by
  have HN := Lib.hid (next s w hs h0 hb0)
  cases hO : js ((nats s).drop 1) with
  | some us =>
    rw [hO] at HN
    have hbd := js_bound _ _ us rfl hO
    rw [List.length_drop, nats_length] at hbd
    have HW := Lib.hid (fun w => wide us w (by omega) hbd.2)
    clear hO hbd hb0
    obtain ⟨X, hX⟩ : ∃ X, X = str (ub us) := ⟨_, rfl⟩
    rw [← hX] at HW
    have HX := Lib.hid hX
    clear hX
    go_enter Try.func6, Try.ntmps6
    go_wp2_with fail
    refine HN.out.mono ?_
    rintro e W1 ⟨hb1, M, rfl⟩
    rw [← HX.out]
    have HB1 := Lib.hid hb1
    clear hb1
    obtain ⟨tb, htb⟩ : ∃ tb, tb = W1.heap.size := ⟨_, rfl⟩
    have htw : w.heap.size ≤ tb := by rw [htb]; exact HB1.out.size
    have HZN := Lib.hid (show Blk (W1.alloc (.cells #[.int .i64 0, .string ⟨#[]⟩, .string ⟨#[]⟩, .int .u64 0, .int .i64 0, .int .i64 0, .bool false, .bool false, .bool false] 37)) W1.heap.size 37 zer from Blk.new W1 37 zer)
    go_wp2_with (with_reducible refine wpList_store_blk rfl 37 (.tmp 4) (.tmp 6) rfl W1.heap.size zer (tokF 8 X M s.size false) 37 rfl rfl HZN.out (tokF_zer _ _ _ _ _) (size_tokF _ _ _ _ _) (tokF_one _ _ _ _ _) ?_)
    intro W2 H2 G2 S2
    have HB2 := Lib.hid ((HB1.out.alloc HB1.out.size (.cells zer.toArray 37)).grown G2 (HB1.out.alloc HB1.out.size (.cells zer.toArray 37)).size (fun k hk => by injection hk with hk; omega))
    have t0 := Blk.get H2 0 rfl
    have t1 := Blk.get H2 1 rfl
    have t4 := Blk.get H2 4 rfl
    have t5 := Blk.get H2 5 rfl
    have t8 := Blk.get H2 8 rfl
    clear H2 G2 htb
    go_wp2_with fail
    refine (HW.out _).mono ?_
    rintro e W3 ⟨⟨v, rfl, ho3⟩, hb3⟩
    have HO3 := Lib.hid ho3
    have HB3 := Lib.hid (HB2.out.trans (hb3.mono HB2.out.size))
    clear ho3 hb3
    go_wp2_with fail
    go_returns
    exact ⟨HB3.out, v, _, rfl, HO3.out⟩
  | none =>
    rw [hO] at HN
    clear hO hb0
    go_enter Try.func6, Try.ntmps6
    go_wp2_with fail
    refine HN.out.mono ?_
    rintro e W1 ⟨hb1, k, T, M, tt, old, rfl, hor⟩
    have HB1 := Lib.hid hb1
    have HOR := Lib.hid hor
    clear hb1 hor
    obtain ⟨tb, htb⟩ : ∃ tb, tb = W1.heap.size := ⟨_, rfl⟩
    have htw : w.heap.size ≤ tb := by rw [htb]; exact HB1.out.size
    have HZN := Lib.hid (show Blk (W1.alloc (.cells #[.int .i64 0, .string ⟨#[]⟩, .string ⟨#[]⟩, .int .u64 0, .int .i64 0, .int .i64 0, .bool false, .bool false, .bool false] 37)) W1.heap.size 37 zer from Blk.new W1 37 zer)
    go_wp2_with (with_reducible refine wpList_store_blk rfl 37 (.tmp 4) (.tmp 6) rfl W1.heap.size zer (tokF k T M tt old) 37 rfl rfl HZN.out (tokF_zer _ _ _ _ _) (size_tokF _ _ _ _ _) (tokF_one _ _ _ _ _) ?_)
    intro W2 H2 G2 S2
    have HB2 := Lib.hid ((HB1.out.alloc HB1.out.size (.cells zer.toArray 37)).grown G2 (HB1.out.alloc HB1.out.size (.cells zer.toArray 37)).size (fun k hk => by injection hk with hk; omega))
    have t0 := Blk.get H2 0 rfl
    have t1 := Blk.get H2 1 rfl
    have t4 := Blk.get H2 4 rfl
    have t5 := Blk.get H2 5 rfl
    have t8 := Blk.get H2 8 rfl
    clear H2 G2 htb
    by_cases q8 : k = 8
    · have u8 : (k != 8) = false := by simp [q8]
      cases old with
      | true =>
        clear q8
        go_wp2_with fail
        go_returns
        exact ⟨HB2.out, rfl⟩
      | false =>
        have htt : tt ≠ s.size := by
          rcases HOR.out with h | h | h
          · exact absurd q8 h
          · cases h
          · exact h
        have u5 : ((tt : Int) != (s.size : Int)) = true := by simp; omega
        have u5' : (tt != s.size) = true := by simp; omega
        clear q8 htt
        go_wp2_with fail
        go_returns
        exact ⟨HB2.out, rfl⟩
    · have u8 : (k != 8) = true := by simp [q8]
      clear q8
      go_wp2_with fail
      go_returns
      exact ⟨HB2.out, rfl⟩
end Go.Proofs.Ytkhnkemmkedfcaa.Js
