/- impl.names: the quoted names as texts. The walk. -/
import Derived.Test.YtobhlppdolekoaaChK
namespace Go.Proofs.Ytobhlppdolekoaa.Ch
open Go.RowKit Go.Proofs.Ytobhlppdolekoaa.Aid Go.Proofs.Ytobhlppdolekoaa.Bytes Go.Proofs.Ytobhlppdolekoaa.Wtf
attribute [local go_sem ↓] Go.wp_at_zero Go.wp_at_succ
set_option linter.unusedVariables false
set_option linter.unusedSimpArgs false
theorem info9 : (Try.prog.info? 9).map (fun i => (i.zero, i.size, i.bytes)) = some (some (.string ⟨#[]⟩), 1, 16) := by kernel_rfl
/-- The texts of names. -/
def qtexts (asc : Bool) (ns : List ByteArray) : List Value := ns.map fun s => .string (str (Q34 asc s))
set_option maxRecDepth 100000 in
set_option maxHeartbeats 8000000 in
theorem namesWalk (B bm : Nat) (v qv : Value) (asc : Bool) (ns : List ByteArray) (w : World) (h : Nms w B bm v qv asc ns) (hns : ns.length ≤ 1000) :
    Calls Try.prog 17 #[qv] w fun e w' => ∃ nv, e = .returned nv ∧ w'.ownsRow w.heap.size 9 1 nv ns.length (qtexts asc ns) ∧ Below w.heap.size w w' := by
  obtain ⟨i9, hi, hz0, hz1, hz2⟩ := info_parts info9
  obtain ⟨qs, hrow, hlen, hall⟩ := h.row
  obtain ⟨A, c, hq⟩ := own_slice hrow
  have HCELL := Lib.hid (fun (i : Nat) (hi : i < ns.length) => show ∃ gq gi ci s, A = some ⟨gq, 0, none⟩ ∧ gq < w.heap.size ∧ ns[i]? = some s ∧ w.cell? ⟨gq, i, none⟩ = some (.slice (some ⟨gi, 0, none⟩) (Q34 asc s).length ci) ∧ QText w B v asc s (.slice (some ⟨gi, 0, none⟩) (Q34 asc s).length ci) by
    obtain ⟨s, hs⟩ : ∃ s, ns[i]? = some s := ⟨_, List.getElem?_eq_getElem hi⟩
    obtain ⟨q, h1, h2⟩ := hall i s hs
    obtain ⟨gi, ci, e, _⟩ := h2.block
    obtain ⟨A', c', e', hr⟩ := own_form hrow
    obtain ⟨gq, e2, _, hlt, hc⟩ := hr i (by omega)
    rw [hq] at e'
    injection e' with e3
    subst e
    exact ⟨gq, gi, ci, s, e3.trans e2, hlt, hs, by rw [hc]; exact h1, h2⟩)
  subst hq
  clear h hrow hlen hall
  obtain ⟨n, hn⟩ : ∃ n, n = ns.length := ⟨_, rfl⟩
  rw [← hn] at hns HCELL ⊢
  have HN := Lib.hid hn
  clear hn
  go_enter Try.func17, Try.ntmps17
  go_wp2_with fail
  go_loopg [3, 8] n (fun m ov iv wr => ∃ i : Nat, i + m = n ∧ iv = .int .i64 i ∧ Aside (wr.ownsRow w.heap.size 9 1 ov i (qtexts asc (ns.take i)) ∧ Below w.heap.size w wr))
  case atStart => exact ⟨0, by omega, rfl, ⟨World.ownsRow_nil _ _ _ _, Below.refl _ _⟩⟩
  case round =>
    obtain ⟨i, him, rfl, HR⟩ := hrel
    have HR := Lib.hid HR.out
    by_cases hi' : i < n
    · obtain ⟨gq, gi, ci, s, hA, hlt, hs, hc, ht⟩ := HCELL.out i hi'
      subst hA
      have hii : (i : Int) < n := by omega
      have cq : wr.cell? ⟨gq, i, none⟩ = some (.slice (some ⟨gi, 0, none⟩) (Q34 asc s).length ci) := bcell HR.out.2 hlt hc
      have hcv := conv wr B _ (Q34 asc s) (by have := Q34_len asc s; omega) (own_keep ht.1 HR.out.2)
      obtain ⟨nq, hnq⟩ : ∃ nq, nq = (Q34 asc s).length := ⟨_, rfl⟩
      rw [← hnq] at cq hcv
      obtain ⟨T, hT⟩ : ∃ T, T = str (Q34 asc s) := ⟨_, rfl⟩
      rw [← hT] at hcv
      have HT := Lib.hid hT
      have HS := Lib.hid hs
      have HW : Hid (w.heap.size ≤ wr.heap.size) := Lib.hid HR.out.2.size
      obtain ⟨A3, c3, hu3⟩ := own_slice HR.out.1
      subst hu3
      have hone : Hid (∀ u ∈ [Value.string T], u.oneCell' = true) := Lib.hid (by
        intro u hu
        simp only [List.mem_cons, List.not_mem_nil, or_false] at hu
        rw [hu]
        rfl)
      clear hc ht hs hT hnq hlt
      go_wp2_with (at_builtin; refine wpList_append_new rfl _ _ 26 rfl w.heap.size 9 i9 _ 1 16 Try.underlying26 hi hz0 hz1 hz2 rfl (by omega) (.slice A3 i c3) i (qtexts asc (ns.take i)) rfl HR.out.1 [.string T] rfl rfl hone.out (by unfold maxLen; omega) (by omega) HW.out ?_)
      intro gg cap w3 hown hgr hloc
      have HO : Hid (w3.ownsRow w.heap.size 9 1 (.slice (some ⟨gg, 0, none⟩) (i + 1) cap) (i + 1) (qtexts asc (ns.take (i + 1)))) := Lib.hid (by
        have e : ns.take (i + 1) = ns.take i ++ [s] := by rw [List.take_add_one, HS.out]; rfl
        rw [e, qtexts, List.map_append, List.map_cons, List.map_nil, ← HT.out]
        exact hown)
      have HB := Lib.hid (show Below w.heap.size w w3 from below_of_only HR.out.2 HW.out hgr (fun g hg => own_below HR.out.1 g hg))
      clear hown hgr hloc
      go_wp2_with fail
      go_roundg (n - (i + 1))
      case rel => exact ⟨i + 1, by omega, rfl, ⟨HO.out, HB.out⟩⟩
      case measure => omega
    · have hii : ¬ (i : Int) < n := by omega
      have hin : i = n := by omega
      subst hin
      clear hi'
      go_wp2_with fail
      go_returns
      have h1 := HR.out.1
      rw [HN.out, List.take_length] at h1
      rw [HN.out]
      exact ⟨_, rfl, h1, HR.out.2⟩
end Go.Proofs.Ytobhlppdolekoaa.Ch
