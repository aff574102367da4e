/- The thin function impl.Bits: bits are set in a set and asked for; what it answers, one by one; at most 4096 bits. The walk. -/
import Derived.Test.YtdcojgkblfobnaaBitsA
namespace Go.Proofs.Ytdcojgkblfobnaa.Bits
open Go.RowKit Go.Proofs.Ytdcojgkblfobnaa.Aid
/-- Whether m is among the first k numbers, and below c. -/
def among (xs : Nat → Nat) (k c m : Nat) : Bool := decide (m < c) && (List.range k).any fun j => xs j == m
theorem among_zero (xs : Nat → Nat) (c m : Nat) : among xs 0 c m = false := by simp [among]
theorem among_succ (xs : Nat → Nat) (k c m : Nat) : among xs (k + 1) c m = (among xs k c m || (decide (m < c) && xs k == m)) := by
  simp only [among, List.range_succ, List.any_append, List.any_cons, List.any_nil, Bool.or_false]
  cases decide (m < c) <;> simp
theorem below_of_size {w w1 : World} (h : Below w.heap.size w w1) (o : Obj) : Below w.heap.size w (w1.alloc o) := h.alloc h.size o
/-- The set after k numbers. -/
def SetAt (xs : Nat → Nat) (c N g s : Nat) (w wr : World) (k : Nat) : Prop :=
  ∃ bs : List Int, bs.length = N ∧ Bytes bs ∧ (∀ m, m < 8 * N → isIn bs m = among xs k c m) ∧ Blk wr g 5 (u8s bs) ∧ Blk wr s 73 [.slice (some ⟨g, 0, none⟩) N N] ∧ Below w.heap.size w wr ∧ w.heap.size ≤ g ∧ w.heap.size ≤ s
theorem SetAt.skip {xs : Nat → Nat} {c N g s : Nat} {w wr : World} {k : Nat} (h : SetAt xs c N g s w wr k) (hx : ¬ xs k < c) : SetAt xs c N g s w wr (k + 1) := by
  obtain ⟨bs, h1, h2, h3, h4⟩ := h
  refine ⟨bs, h1, h2, fun m hm => ?_, h4⟩
  rw [h3 m hm, among_succ]
  by_cases e : xs k = m
  · subst e
    simp [hx]
  · simp [e]
theorem SetAt.store {xs : Nat → Nat} {c N g s : Nat} {w wr w' : World} {k : Nat} {bs : List Int} (h1 : bs.length = N) (h2 : Bytes bs) (h3 : ∀ m, m < 8 * N → isIn bs m = among xs k c m) (h5 : Blk wr s 73 [.slice (some ⟨g, 0, none⟩) N N])
    (h6 : Below w.heap.size w wr) (h7 : w.heap.size ≤ g) (h8 : w.heap.size ≤ s) (hg : Blk wr g 5 (u8s bs)) (hx : xs k < c) (hN : c ≤ 8 * N) (hb : Blk w' g 5 (u8s (put bs (xs k)))) (ho : wr.grownBy w' (some g)) : SetAt xs c N g s w w' (k + 1) := by
  refine ⟨put bs (xs k), by rw [put_length, h1], put_bytes h2 _, fun m hm => ?_, hb, h5.grown ho (by simp; exact Ne.symm (blk_ne hg h5 (by decide))), h6.grown ho h6.size (by simpa using h7), h7, h8⟩
  rw [isIn_put h2 _ _ (by omega), h3 m hm, among_succ]
  by_cases e : xs k = m
  · subst e
    simp [hx]
  · simp [e]
theorem set_bit' (g n len : Nat) (bs : List Int) (cap : Nat) (w : World) (he : bs.length = len) (hn : n ≤ 1000000) (hl : n / 8 < len) (hlen : len ≤ 1000000) (hb : Blk w g 5 (u8s bs)) :
    Calls Try.prog 41 #[.agg #[.slice (some ⟨g, 0, none⟩) len cap], .int .u64 (n : Int)] w fun e w' => e = .returned (.tuple #[]) ∧ Blk w' g 5 (u8s (put bs n)) ∧ w.grownBy w' (some g) := by
  subst he
  exact set_bit g n bs cap w hn hl hlen hb
theorem has_bit' (g n len : Nat) (bs : List Int) (cap : Nat) (w : World) (he : bs.length = len) (hn : n ≤ 1000000) (hl : n / 8 < len) (hlen : len ≤ 1000000) (hb : Blk w g 5 (u8s bs)) :
    Calls Try.prog 42 #[.agg #[.slice (some ⟨g, 0, none⟩) len cap], .int .u64 (n : Int)] w fun e w' => e = .returned (.bool (isIn bs n)) ∧ Below w.heap.size w w' := by
  subst he
  exact has_bit g n bs cap w hn hl hlen hb
/-- What has been answered after j questions. -/
def Outs (ys xs : Nat → Nat) (n1 c : Nat) (w : World) (v : Value) (wr : World) (j : Nat) : Prop := wr.ownsRow w.heap.size 4 1 v j ((List.range j).map fun i => .bool (among xs n1 c (ys i))) ∧ Below w.heap.size w wr
theorem outs_step {ys xs : Nat → Nat} {n1 c j : Nat} {w wr w' : World} {v v' : Value} {b : Bool} (ho : wr.ownsRow w.heap.size 4 1 v j ((List.range j).map fun i => .bool (among xs n1 c (ys i)))) (hB : Below w.heap.size w wr) (hz : w.heap.size ≤ wr.heap.size)
    (hown : w'.ownsRow w.heap.size 4 1 v' (j + 1) (((List.range j).map fun i => .bool (among xs n1 c (ys i))) ++ [.bool b])) (hg : wr.grownBy w' v.ownBlock) (hb : b = among xs n1 c (ys j)) : Outs ys xs n1 c w v' w' (j + 1) := by
  refine ⟨?_, hB.grown hg hz (own_below ho)⟩
  rw [List.range_succ, List.map_append, List.map_cons, List.map_nil, ← hb]
  exact hown
theorem info4 : (Try.prog.info? 4).map (fun i => (i.zero, i.size, i.bytes)) = some (some (.bool false), 1, 1) := by kernel_rfl
set_option maxRecDepth 100000 in
set_option maxHeartbeats 800000 in
theorem impl_bits (c n1 c1 n2 c2 : Nat) (A1 A2 : Option Addr) (xs ys : Nat → Nat) (w : World) (hc : c ≤ 4096) (hn1 : n1 ≤ 17592186044416) (hn2 : n2 ≤ 17592186044416)
    (hx : Reads w A1 n1 fun i => .int .u64 (xs i : Nat)) (hy : Reads w A2 n2 fun i => .int .u64 (ys i : Nat)) :
    Calls Try.prog 21 #[.int .u64 (c : Int), .slice A1 n1 c1, .slice A2 n2 c2] w fun e w' => ∃ v, e = .returned v ∧ w'.ownsRow w.heap.size 4 1 v n2 ((List.range n2).map fun i => .bool (among xs n1 c (ys i))) ∧ Below w.heap.size w w' := by
  obtain ⟨N, hN⟩ : ∃ N, N = (c + 7) / 8 := ⟨_, rfl⟩
  have HN := Lib.hid hN
  have hN8 : c ≤ 8 * N := by omega
  have hNs : N ≤ 1000 := by omega
  clear hN
  have HX := Lib.hid hx
  have HY := Lib.hid hy
  clear hx hy
  go_enter Try.func21, Try.ntmps21
  go_wp2_with fail
  refine (new_set c N w HN.out (by omega)).mono ?_
  rintro e w1 ⟨g, rfl, hg, hb, hbel⟩
  have hz := hbel.size
  have hs0 : SetAt xs c N g w1.heap.size w (w1.alloc (.cells #[.slice (some ⟨g, 0, none⟩) N N] 73)) 0 :=
    ⟨List.replicate N 0, by simp, fun x hx => by rw [(List.mem_replicate.1 hx).2]; omega, fun m _ => by rw [isIn_zero, among_zero], hb.alloc _, Blk.new _ _ _, below_of_size hbel _, hg, hz⟩
  clear hb
  have hd : w.heap.size ≤ w1.heap.size := hz
  go_wp2_with fail
  go_loopw [17] (fun i wr => ∃ k : Nat, k ≤ n1 ∧ i = .int .i64 k ∧ SetAt xs c N g w1.heap.size w wr k) (fun i _ => n1 - (intOf i).toNat)
  case atStart => exact ⟨0, Nat.zero_le _, rfl, hs0⟩
  case round =>
    obtain ⟨k, hk, rfl, hS⟩ := hrel
    clear hs0
    by_cases hlt : k < n1
    · obtain ⟨b, o, rfl, hbl, hcl⟩ := HX.out k hlt
      obtain ⟨bs, q1, q2, q3, q4, q5, q6, q7, q8⟩ := hS
      have hcell := bcell q6 hbl hcl
      have hbox := q5.get 0 rfl
      have Q1 := Lib.hid q1
      have Q3 := Lib.hid q3
      clear q1 q3 hcl hbel
      by_cases hxc : xs k < c
      · go_wp2_with (go_at_call 41; refine (set_bit' g (xs k) N bs N _ Q1.out (by omega) (by omega) (by omega) q4).mono ?_; rintro e w' ⟨rfl, r1, r2⟩)
        go_roundw
        case rel => exact ⟨k + 1, by omega, by go_num, SetAt.store Q1.out q2 Q3.out q5 q6 q7 q8 q4 hxc hN8 r1 r2⟩
        case measure => simp [intOf]; omega
      · go_wp2_with fail
        go_roundw
        case rel => exact ⟨k + 1, by omega, by go_num, SetAt.skip ⟨bs, Q1.out, q2, Q3.out, q4, q5, q6, q7, q8⟩ hxc⟩
        case measure => simp [intOf]; omega
    · have hkk : k = n1 := by omega
      subst hkk
      obtain ⟨bs, q1, q2, q3, q4, q5, q6, q7, q8⟩ := hS
      have Q1 := Lib.hid q1
      have Q3 := Lib.hid q3
      clear q1 q3 HX
      obtain ⟨i0, hi, hz0, hz1, hz2⟩ := info_parts info4
      obtain ⟨w2, rfl⟩ : ∃ w2 : World, w2 = wr := ⟨_, rfl⟩
      go_wp2_with fail
      go_loopw [10, 30] (fun v i wr => ∃ j : Nat, j ≤ n2 ∧ i = .int .i64 j ∧ Outs ys xs k c w v wr j ∧ Blk wr g 5 (u8s bs) ∧ Blk wr w1.heap.size 73 [.slice (some ⟨g, 0, none⟩) N N]) (fun _ i _ => n2 - (intOf i).toNat)
      case atStart => exact ⟨0, Nat.zero_le _, rfl, ⟨own_nil _ _ _ _, q6⟩, q4, q5⟩
      case round =>
        obtain ⟨j, hj, rfl, ⟨ho, hB⟩, hg5, hs73⟩ := hrel
        clear q4 q5
        have hbox := hs73.get 0 rfl
        by_cases hlt2 : j < n2
        · obtain ⟨b, o, rfl, hbl, hcl⟩ := HY.out j hlt2
          have hcell := bcell hB hbl hcl
          clear hcl
          have hm1 : j + 1 ≤ maxLen := by simp only [maxLen]; omega
          have hm2 : (j + 1) * 1 ≤ 140737488355328 := by omega
          have hbase := hB.size
          by_cases hyc : ys j < c
          · go_wp2_with (first
              | (go_at_call 42; refine (has_bit' g (ys j) N bs N _ Q1.out (by omega) (by omega) (by omega) hg5).mono ?_; rintro e w3 ⟨rfl, hb'⟩; have hb3 := Nat.le_trans hbase hb'.size)
              | (at_builtin; refine wpList_append_one rfl _ _ 37 rfl w.heap.size 4 i0 (.bool false) 1 Try.underlying37 hi hz0 hz1 hz2 rfl _ _ _ rfl (own_keep ho hb') _ rfl rfl hm1 hm2 hb3 ?_; intro v1 w4 hown1 hgrow1 _))
            go_roundw
            case rel =>
              have hO := outs_step (own_keep ho hb') (hB.trans (hb'.mono hB.size)) hb3 hown1 hgrow1 (by rw [Q3.out _ (by omega)])
              refine ⟨j + 1, by omega, by go_num, hO, ?_, ?_⟩
              · exact (hg5.below hb' hg5.lt).grown hgrow1 (own_ne ho hg5 (by decide))
              · exact (hs73.below hb' hs73.lt).grown hgrow1 (own_ne ho hs73 (by decide))
            case measure => simp [intOf]; omega
          · go_wp2_with (at_builtin; refine wpList_append_one rfl _ _ 37 rfl w.heap.size 4 i0 (.bool false) 1 Try.underlying37 hi hz0 hz1 hz2 rfl _ _ _ rfl ho _ rfl rfl hm1 hm2 hbase ?_; intro v1 w4 hown1 hgrow1 _)
            go_roundw
            case rel =>
              have hO := outs_step ho hB hbase hown1 hgrow1 (by simp [among, hyc])
              refine ⟨j + 1, by omega, by go_num, hO, ?_, ?_⟩
              · exact hg5.grown hgrow1 (own_ne ho hg5 (by decide))
              · exact hs73.grown hgrow1 (own_ne ho hs73 (by decide))
            case measure => simp [intOf]; omega
        · have hjj : j = n2 := by omega
          subst hjj
          go_wp2_with fail
          go_ret
          exact ⟨_, rfl, ho, hB⟩
end Go.Proofs.Ytdcojgkblfobnaa.Bits
