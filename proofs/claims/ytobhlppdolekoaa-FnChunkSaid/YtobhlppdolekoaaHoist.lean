/- A region that draws its order, walked under a condition on the world that may hang on what has come up: a load that must come ahead of a store to its own cell is taken first. (The kit's Derived/OrdersHeld.lean, its condition turned.) No program in sight. -/
import Derived.Deep.RegionHeld
namespace Go.Proofs.Ytobhlppdolekoaa.Hoist
open Go
section
variable {P : Program} {ops : Array Oper} {Q : Exit → Act → World → Prop} {md : Region.Mode} {S : Array Bool → World → Prop} {T : World → Prop} {G : Array Bool → Prop}
def wpAnyL (P : Program) (md : Region.Mode) (ops : Array Oper) (Q : Exit → Act → World → Prop) (S : Array Bool → World → Prop) : Nat → Array Bool → Act → World → Prop
  | 0, listed, a, w => Region.ready md ops listed = [] ∧ Q .normal a w
  | fuel + 1, listed, a, w =>
    (Region.ready md ops listed = [] → Q .normal a w) ∧
    ∀ i ∈ Region.ready md ops listed, wpOp P ops Q i (fun a' w' => S (listed.setIfInBounds i true) w' ∧ wpAnyL P md ops Q S fuel (listed.setIfInBounds i true) a' w') a w
theorem wpAny_of_L : ∀ (fuel : Nat) (listed : Array Bool) (a : Act) (w : World), wpAnyL P md ops Q S fuel listed a w → wpAny P md ops Q fuel listed a w
  | 0, _, _, _, h => h
  | fuel + 1, _, _, _, h => ⟨h.1, fun i hi => wpOp_mono (fun a' w' h' => wpAny_of_L fuel _ a' w' h'.2) (h.2 i hi)⟩
theorem first {i : Nat} {oi : Oper} {v : Value} (hi : ops[i]? = some oi) (hsel : ∀ (j : Nat) (o : Oper) cs b, ops[j]? = some o → o.op ≠ .select cs b)
    (hQ : ∀ c a w, Q (.panic c) (a.put oi.dst v) w → Q (.panic c) a w) (hSi : ∀ L w, S (L.setIfInBounds i true) w → S L w)
    (hG : ∀ L j oj, ops[j]? = some oj → (∀ e ∈ oj.after, Region.binds md e = true → e.on ≠ i) → G L → G (L.setIfInBounds j true)) (hST : ∀ L w, G L → S L w → T w) :
    ∀ (fuel : Nat) (listed : Array Bool) (a : Act) (w : World),
      (∀ j oj, ops[j]? = some oj → j ≠ i → listed.getD j true = false → (∀ e ∈ oj.after, Region.binds md e = true → e.on ≠ i) → oi.apart ops oj = true) →
      i ∈ Region.ready md ops listed → YieldsIf P ops T oi v a → G listed → S (listed.setIfInBounds i true) w →
      wpAnyL P md ops Q S fuel (listed.setIfInBounds i true) (a.put oi.dst v) w → wpAnyL P md ops Q S (fuel + 1) listed a w := by
  intro fuel
  induction fuel with
  | zero =>
    intro listed a w _ hr hy hg hS H
    refine ⟨fun h => (by rw [h] at hr; cases hr), fun j hj => ?_⟩
    by_cases hji : j = i
    · subst hji; exact hy.wpOp hi (hST _ _ hg (hSi _ _ hS)) ⟨hS, H⟩
    · have := ready_mono hj hji
      rw [H.1] at this
      cases this
  | succ fuel ih =>
    intro listed a w hfree hr hy hg hS H
    refine ⟨fun h => (by rw [h] at hr; cases hr), fun j hj => ?_⟩
    by_cases hji : j = i
    · subst hji; exact hy.wpOp hi (hST _ _ hg (hSi _ _ hS)) ⟨hS, H⟩
    · have h1 := H.2 j (ready_mono hj hji)
      obtain ⟨hjun, oj, hoj, hall⟩ := mem_ready.1 hj
      have hnot : ∀ e ∈ oj.after, Region.binds md e = true → e.on ≠ i := fun e he hb heq => by
        have h1 := hall e he hb
        have h0 := (mem_ready.1 hr).1
        rw [heq] at h1
        rcases Nat.lt_or_ge i listed.size with h' | h'
        · simp [h'] at h0 h1; rw [h0] at h1; cases h1
        · simp [Array.getElem?_eq_none h'] at h1
      have h2 := wpOp_putIf hoj (hfree j oj hoj hji hjun hnot) (fun cs b => hsel i oi cs b hi) (fun cs b => hsel j oj cs b hoj) hQ hy h1
      have hfree' : ∀ k ok, ops[k]? = some ok → k ≠ i → (listed.setIfInBounds j true).getD k true = false →
          (∀ e ∈ ok.after, Region.binds md e = true → e.on ≠ i) → oi.apart ops ok = true := fun k ok hk hki hun hno => by
        refine hfree k ok hk hki ?_ hno
        by_cases hjk : j = k
        · subst hjk; exact hjun
        · rw [getD_set_ne true hjk] at hun; exact hun
      refine wpOp_mono (fun a' w' h3 => ?_) h2
      obtain ⟨h3y, h3s, h3w⟩ := h3
      rw [Array.setIfInBounds_comm _ _ (Ne.symm hji)] at h3s h3w
      exact ⟨hSi _ _ h3s, ih (listed.setIfInBounds j true) a' w' hfree' (ready_mono hr (Ne.symm hji)) h3y (hG _ _ _ hoj hnot hg) h3s h3w⟩
/-- Taken first; the side conditions as Bools. -/
theorem take {i : Nat} {oi : Oper} {v : Value} {fuel : Nat} {listed : Array Bool} {a : Act} {w : World} (hi : ops[i]? = some oi)
    (hs : Region.noSelect ops = true) (hf : Region.free md ops listed i = true) (hr : (Region.ready md ops listed).contains i = true)
    (hQ : ∀ c a w, Q (.panic c) (a.put oi.dst v) w → Q (.panic c) a w) (hSi : ∀ L w, S (L.setIfInBounds i true) w → S L w)
    (hG : ∀ L j oj, ops[j]? = some oj → (∀ e ∈ oj.after, Region.binds md e = true → e.on ≠ i) → G L → G (L.setIfInBounds j true)) (hST : ∀ L w, G L → S L w → T w)
    (hg : G listed) (hy : YieldsIf P ops T oi v a) (hS : S (listed.setIfInBounds i true) w)
    (h : wpAnyL P md ops Q S fuel (listed.setIfInBounds i true) (a.put oi.dst v) w) : wpAnyL P md ops Q S (fuel + 1) listed a w :=
  first hi (Region.noSelect_spec hs) hQ hSi hG hST fuel listed a w (Region.free_spec hi hf) (by simpa using hr) hy hg hS h
/-- Taken first, the world left alone: no condition on it. -/
theorem takeP {i : Nat} {oi : Oper} {v : Value} {fuel : Nat} {listed : Array Bool} {a : Act} {w : World} (hi : ops[i]? = some oi)
    (hs : Region.noSelect ops = true) (hf : Region.free md ops listed i = true) (hr : (Region.ready md ops listed).contains i = true)
    (hQ : ∀ c a w, Q (.panic c) (a.put oi.dst v) w → Q (.panic c) a w)
    (hy : Region.wanted oi (yielded ops a.tmps) = true ∧ ∀ w, (execOp a.eval oi).run P w = .ok (.value v) w)
    (h : wpAnyL P md ops Q (fun _ _ => True) fuel (listed.setIfInBounds i true) (a.put oi.dst v) w) : wpAnyL P md ops Q (fun _ _ => True) (fuel + 1) listed a w :=
  take (T := fun _ => True) (G := fun _ => True) hi hs hf hr hQ (fun _ _ h => h) (fun _ _ _ _ _ _ => trivial) (fun _ _ _ _ => trivial) trivial (.inl ⟨hy.1, fun w _ => hy.2 w⟩) trivial h
/-- Taken first under a condition on the world that hangs on nothing else. -/
theorem takeS {S : World → Prop} {i : Nat} {oi : Oper} {v : Value} {fuel : Nat} {listed : Array Bool} {a : Act} {w : World} (hi : ops[i]? = some oi)
    (hs : Region.noSelect ops = true) (hf : Region.free md ops listed i = true) (hr : (Region.ready md ops listed).contains i = true)
    (hQ : ∀ c a w, Q (.panic c) (a.put oi.dst v) w → Q (.panic c) a w)
    (hy : Region.wanted oi (yielded ops a.tmps) = true ∧ ∀ w, S w → (execOp a.eval oi).run P w = .ok (.value v) w) (hS : S w)
    (h : wpAnyL P md ops Q (fun _ => S) fuel (listed.setIfInBounds i true) (a.put oi.dst v) w) : wpAnyL P md ops Q (fun _ => S) (fuel + 1) listed a w :=
  take (T := S) (G := fun _ => True) hi hs hf hr hQ (fun _ _ h => h) (fun _ _ _ _ _ _ => trivial) (fun _ _ _ h => h) trivial (.inl hy) hS h
/-- What waits for i does not come up ahead of it. -/
theorem waits (m i : Nat) (h : ((ops[m]?).any fun o => o.after.any fun e => Region.binds md e && e.on == i) = true) :
    ∀ (L : Array Bool) (j : Nat) (oj : Oper), ops[j]? = some oj → (∀ e ∈ oj.after, Region.binds md e = true → e.on ≠ i) → L.getD m true = false → (L.setIfInBounds j true).getD m true = false := by
  intro L j oj hj hno hl
  have hne : j ≠ m := by
    rintro rfl
    rw [hj] at h
    simp only [Option.any_some, Array.any_eq_true] at h
    obtain ⟨k, hk, he⟩ := h
    simp only [Bool.and_eq_true, beq_iff_eq] at he
    exact hno _ (Array.getElem_mem hk) he.1 he.2
  rw [getD_set_ne true hne]
  exact hl
/-- One alone may come up. -/
theorem only {i : Nat} {oi : Oper} {fuel : Nat} {listed : Array Bool} {a : Act} {w : World} (hi : ops[i]? = some oi) (hr : Region.ready md ops listed = [i])
    (h : ∀ K' : Act → World → Prop, (∀ a w, S (listed.setIfInBounds i true) w → wpAnyL P md ops Q S fuel (listed.setIfInBounds i true) a w → K' a w) → if Region.wanted oi (yielded ops a.tmps) = true then Oper.wp P oi a w K' Q else K' (a.put oi.dst undef) w) :
    wpAnyL P md ops Q S (fuel + 1) listed a w := by
  refine ⟨fun h0 => (by rw [hr] at h0; cases h0), fun j hj => ?_⟩
  rw [hr] at hj
  obtain rfl : j = i := by simpa using hj
  exact wpOp_step hi fun K' hK => h K' fun a w h1 h2 => hK a w ⟨h1, h2⟩
theorem over {listed : Array Bool} {a : Act} {w : World} (hr : Region.ready md ops listed = []) (h : Q .normal a w) : ∀ fuel, wpAnyL P md ops Q S fuel listed a w
  | 0 => ⟨hr, h⟩
  | _ + 1 => ⟨fun _ => h, by rw [hr]; simp⟩
theorem start {id : Nat} {a : Act} {w : World} (hm : P.follows .mixedOrders = true)
    (h : wpAnyL P .any ops Q S ops.size (Array.replicate ops.size false) a w.drew) : (Code.region id ops true).wp P Q a w :=
  wp_region_any hm (wpAny_of_L _ _ _ _ h)
end
end Go.Proofs.Ytobhlppdolekoaa.Hoist
/- Hoist, more: two may come up; what waits over others. No program in sight. -/
namespace Go.Proofs.Ytobhlppdolekoaa.Hoist
open Go
section
variable {P : Program} {ops : Array Oper} {Q : Exit → Act → World → Prop} {md : Region.Mode} {S : Array Bool → World → Prop} {T : World → Prop} {G : Array Bool → Prop}
/-- Two may come up. -/
theorem pair {i j : Nat} {oi oj : Oper} {fuel : Nat} {listed : Array Bool} {a : Act} {w : World} (hi : ops[i]? = some oi) (hj : ops[j]? = some oj) (hr : Region.ready md ops listed = [i, j])
    (h1 : ∀ K' : Act → World → Prop, (∀ a w, S (listed.setIfInBounds i true) w → wpAnyL P md ops Q S fuel (listed.setIfInBounds i true) a w → K' a w) → if Region.wanted oi (yielded ops a.tmps) = true then Oper.wp P oi a w K' Q else K' (a.put oi.dst undef) w)
    (h2 : ∀ K' : Act → World → Prop, (∀ a w, S (listed.setIfInBounds j true) w → wpAnyL P md ops Q S fuel (listed.setIfInBounds j true) a w → K' a w) → if Region.wanted oj (yielded ops a.tmps) = true then Oper.wp P oj a w K' Q else K' (a.put oj.dst undef) w) :
    wpAnyL P md ops Q S (fuel + 1) listed a w := by
  refine ⟨fun h0 => (by rw [hr] at h0; cases h0), fun k hk => ?_⟩
  rw [hr] at hk
  rcases (show k = i ∨ k = j by simpa using hk) with rfl | rfl
  · exact wpOp_step hi fun K' hK => h1 K' fun a w h1 h2 => hK a w ⟨h1, h2⟩
  · exact wpOp_step hj fun K' hK => h2 K' fun a w h1 h2 => hK a w ⟨h1, h2⟩
theorem firstR {i : Nat} {oi : Oper} {v : Value} (hi : ops[i]? = some oi) (hsel : ∀ (j : Nat) (o : Oper) cs b, ops[j]? = some o → o.op ≠ .select cs b)
    (hQ : ∀ c a w, Q (.panic c) (a.put oi.dst v) w → Q (.panic c) a w) (hSi : ∀ L w, S (L.setIfInBounds i true) w → S L w)
    (hG : ∀ L j, j ≠ i → j ∈ Region.ready md ops L → L.getD i true = false → G L → G (L.setIfInBounds j true)) (hST : ∀ L w, G L → S L w → T w) :
    ∀ (fuel : Nat) (listed : Array Bool) (a : Act) (w : World),
      (∀ j oj, ops[j]? = some oj → j ≠ i → listed.getD j true = false → (∀ e ∈ oj.after, Region.binds md e = true → e.on ≠ i) → oi.apart ops oj = true) →
      i ∈ Region.ready md ops listed → YieldsIf P ops T oi v a → G listed → S (listed.setIfInBounds i true) w →
      wpAnyL P md ops Q S fuel (listed.setIfInBounds i true) (a.put oi.dst v) w → wpAnyL P md ops Q S (fuel + 1) listed a w := by
  intro fuel
  induction fuel with
  | zero =>
    intro listed a w _ hr hy hg hS H
    refine ⟨fun h => (by rw [h] at hr; cases hr), fun j hj => ?_⟩
    by_cases hji : j = i
    · subst hji; exact hy.wpOp hi (hST _ _ hg (hSi _ _ hS)) ⟨hS, H⟩
    · have := ready_mono hj hji
      rw [H.1] at this
      cases this
  | succ fuel ih =>
    intro listed a w hfree hr hy hg hS H
    refine ⟨fun h => (by rw [h] at hr; cases hr), fun j hj => ?_⟩
    by_cases hji : j = i
    · subst hji; exact hy.wpOp hi (hST _ _ hg (hSi _ _ hS)) ⟨hS, H⟩
    · have h1 := H.2 j (ready_mono hj hji)
      obtain ⟨hjun, oj, hoj, hall⟩ := mem_ready.1 hj
      have hnot : ∀ e ∈ oj.after, Region.binds md e = true → e.on ≠ i := fun e he hb heq => by
        have h1 := hall e he hb
        have h0 := (mem_ready.1 hr).1
        rw [heq] at h1
        rcases Nat.lt_or_ge i listed.size with h' | h'
        · simp [h'] at h0 h1; rw [h0] at h1; cases h1
        · simp [Array.getElem?_eq_none h'] at h1
      have h2 := wpOp_putIf hoj (hfree j oj hoj hji hjun hnot) (fun cs b => hsel i oi cs b hi) (fun cs b => hsel j oj cs b hoj) hQ hy h1
      have hfree' : ∀ k ok, ops[k]? = some ok → k ≠ i → (listed.setIfInBounds j true).getD k true = false →
          (∀ e ∈ ok.after, Region.binds md e = true → e.on ≠ i) → oi.apart ops ok = true := fun k ok hk hki hun hno => by
        refine hfree k ok hk hki ?_ hno
        by_cases hjk : j = k
        · subst hjk; exact hjun
        · rw [getD_set_ne true hjk] at hun; exact hun
      refine wpOp_mono (fun a' w' h3 => ?_) h2
      obtain ⟨h3y, h3s, h3w⟩ := h3
      rw [Array.setIfInBounds_comm _ _ (Ne.symm hji)] at h3s h3w
      exact ⟨hSi _ _ h3s, ih (listed.setIfInBounds j true) a' w' hfree' (ready_mono hr (Ne.symm hji)) h3y (hG _ _ hji hj (mem_ready.1 hr).1 hg) h3s h3w⟩
/-- All of M wait for i, at first hand or over one another. -/
def waitsB (md : Region.Mode) (ops : Array Oper) (i : Nat) (M : List Nat) : Bool := M.all fun m => (ops[m]?).any fun o => o.after.any fun e => Region.binds md e && (e.on == i || M.contains e.on)
theorem waitsM {i : Nat} {M : List Nat} (h : waitsB md ops i M = true) (L : Array Bool) (j : Nat) (hj : j ∈ Region.ready md ops L) (hi : L.getD i true = false) (hM : ∀ m ∈ M, L.getD m true = false) : ∀ m ∈ M, (L.setIfInBounds j true).getD m true = false := by
  have both : ∀ k, L.getD k true = false → L.getD k false = true → False := by
    intro k h0 h1
    rcases Nat.lt_or_ge k L.size with h' | h'
    · simp [h'] at h0 h1; rw [h0] at h1; cases h1
    · simp [Array.getElem?_eq_none h'] at h1
  intro m hm
  by_cases hjm : j = m
  · subst hjm
    exfalso
    have h2 := List.all_eq_true.1 h j hm
    obtain ⟨_, oj, hoj, hall⟩ := mem_ready.1 hj
    rw [hoj] at h2
    simp only [Option.any_some, Array.any_eq_true] at h2
    obtain ⟨k, hk, he⟩ := h2
    simp only [Bool.and_eq_true, Bool.or_eq_true, beq_iff_eq] at he
    have h3 := hall _ (Array.getElem_mem hk) he.1
    rcases he.2 with h4 | h4
    · rw [h4] at h3
      exact both _ hi h3
    · exact both _ (hM _ (by simpa using h4)) h3
  · rw [getD_set_ne true hjm]
    exact hM m hm
/-- Taken first, under a condition that holds until operation m has come up; m waits for it. -/
theorem takeM {SG : World → Prop} (m : Nat) (M : List Nat) {i : Nat} {oi : Oper} {v : Value} {fuel : Nat} {listed : Array Bool} {a : Act} {w : World} (hi : ops[i]? = some oi)
    (hs : Region.noSelect ops = true) (hf : Region.free md ops listed i = true) (hr : (Region.ready md ops listed).contains i = true) (hne : i ≠ m)
    (hM : waitsB md ops i M = true) (hm : m ∈ M) (hun : (M.all fun k => !listed.getD k true) = true)
    (hQ : ∀ c a w, Q (.panic c) (a.put oi.dst v) w → Q (.panic c) a w)
    (hy : Region.wanted oi (yielded ops a.tmps) = true ∧ ∀ w, SG w → (execOp a.eval oi).run P w = .ok (.value v) w) (hS : SG w)
    (h : wpAnyL P md ops Q (fun L w => L.getD m true = false → SG w) fuel (listed.setIfInBounds i true) (a.put oi.dst v) w) : wpAnyL P md ops Q (fun L w => L.getD m true = false → SG w) (fuel + 1) listed a w :=
  firstR (S := fun L w => L.getD m true = false → SG w) (T := SG) (G := fun L => ∀ k ∈ M, L.getD k true = false) hi (Region.noSelect_spec hs) hQ
    (fun L w h hm => h (by rw [getD_set_ne true hne]; exact hm)) (fun L j _ hj hi hg => waitsM hM L j hj hi hg) (fun L w hg hs => hs (hg m hm)) fuel listed a w (Region.free_spec hi hf) (by simpa using hr) (.inl hy)
    (fun k hk => by simpa using List.all_eq_true.1 hun k hk) (fun _ => hS) h
end
end Go.Proofs.Ytobhlppdolekoaa.Hoist
