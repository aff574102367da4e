/- The law over all marks. No walk in sight. -/
import Derived.Test.YtobhlppdolekoaaCiH
import Derived.Test.YtobhlppdolekoaaCiI
import Derived.Test.YtobhlppdolekoaaChY
namespace Go.Proofs.Ytobhlppdolekoaa.Ch
open Go.RowKit Go.Proofs.Ytobhlppdolekoaa.Aid Go.Proofs.Ytobhlppdolekoaa.Bytes Go.Proofs.Ytobhlppdolekoaa.Runes
set_option linter.unusedVariables false
/-- A mark. -/
structure Mk where
  «at» : Nat
  loc : Nat
  name : ByteArray
/-- Is a mark like the one before it? -/
def again (ms : List Mk) : Nat → Bool
  | 0 => false
  | i + 1 => match ms[i]?, ms[i + 1]? with
    | some a, some b => decide (b.loc = a.loc ∧ b.name = a.name)
    | _, _ => false
/-- The last of the first i marks that is not like the one before it. -/
def upTo (ms : List Mk) : Nat → Option Mk
  | 0 => none
  | i + 1 => if again ms i = true then upTo ms i else ms[i]?
/-- Marks that are asked. -/
structure MFit (src out : ByteArray) (ms : List Mk) : Prop where
  wsrc : wf src 0 = true
  wout : wf out 0 = true
  srcs : src.size ≤ 16384
  outs : out.size ≤ 16384
  len : ms.length ≤ 500
  each : ∀ k ∈ ms, k.at ≤ out.size ∧ rounded out k.at = true ∧ k.loc ≤ src.size ∧ rounded src k.loc = true ∧ k.name.size ≤ 100 ∧ wf k.name 0 = true
  asc : ∀ (i : Nat) (a b : Mk), ms[i]? = some a → ms[i + 1]? = some b → a.at < b.at
theorem asc_lt {ms : List Mk} (h : ∀ (i : Nat) (a b : Mk), ms[i]? = some a → ms[i + 1]? = some b → a.at < b.at) : ∀ (j i : Nat) (a b : Mk), i < j → ms[i]? = some a → ms[j]? = some b → a.at < b.at := by
  intro j
  induction j with
  | zero => intro i a b h; omega
  | succ j ih =>
    intro i a b hij ha hb
    have hjl : j + 1 < ms.length := by
      rcases Nat.lt_or_ge (j + 1) ms.length with h' | h'
      · exact h'
      · rw [List.getElem?_eq_none h'] at hb; cases hb
    have hc : ms[j]? = some (ms[j]'(by omega)) := List.getElem?_eq_getElem (by omega)
    have h1 := h j _ b hc hb
    rcases Nat.lt_or_ge i j with c | c
    · have := ih i a _ c ha hc
      omega
    · have : i = j := by omega
      subst this
      rw [ha] at hc
      injection hc with hc
      rw [hc]; exact h1
theorem up_like (ms : List Mk) (hasc : ∀ (i : Nat) (a b : Mk), ms[i]? = some a → ms[i + 1]? = some b → a.at < b.at) : ∀ j k, ms[j]? = some k → ∃ u, upTo ms (j + 1) = some u ∧ u.loc = k.loc ∧ u.name = k.name ∧ u.at ≤ k.at ∧ u ∈ ms ∧ (again ms j = true → u.at < k.at) := by
  intro j
  induction j with
  | zero =>
    intro k hk
    have e : upTo ms 1 = some k := by rw [upTo]; exact hk
    exact ⟨k, e, rfl, rfl, Nat.le_refl _, List.mem_of_getElem? hk, fun h => by cases h⟩
  | succ j ih =>
    intro k hk
    by_cases h : again ms (j + 1) = true
    · have h0 := h
      have hjl : j + 1 < ms.length := by
        rcases Nat.lt_or_ge (j + 1) ms.length with h' | h'
        · exact h'
        · rw [List.getElem?_eq_none h'] at hk; cases hk
      have hc : ms[j]? = some (ms[j]'(by omega)) := List.getElem?_eq_getElem (by omega)
      obtain ⟨u, h1, h2, h3, h4, h5, _⟩ := ih _ hc
      rw [again, hc, hk] at h
      have h := of_decide_eq_true h
      have hlt := hasc j _ k hc hk
      exact ⟨u, by rw [upTo, if_pos h0]; exact h1, h2.trans h.1.symm, h3.trans h.2.symm, by omega, h5, fun _ => by omega⟩
    · exact ⟨k, by rw [upTo, if_neg h]; exact hk, rfl, rfl, Nat.le_refl _, List.mem_of_getElem? hk, fun h' => absurd h' h⟩
theorem up_none {ms : List Mk} (hasc : ∀ (i : Nat) (a b : Mk), ms[i]? = some a → ms[i + 1]? = some b → a.at < b.at) {j : Nat} (hj : j ≤ ms.length) (h : upTo ms j = none) : j = 0 := by
  cases j with
  | zero => rfl
  | succ j =>
    obtain ⟨u, h1, _⟩ := up_like ms hasc j _ (List.getElem?_eq_getElem (by omega))
    rw [h1] at h; cases h
/-- Is the next mark like the last one that counts? -/
theorem again_up {ms : List Mk} (hasc : ∀ (i : Nat) (a b : Mk), ms[i]? = some a → ms[i + 1]? = some b → a.at < b.at) {j : Nat} {k : Mk} (hk : ms[j]? = some k) : again ms j = true ↔ ∃ u, upTo ms j = some u ∧ u.loc = k.loc ∧ u.name = k.name := by
  cases j with
  | zero => exact ⟨(fun h => by cases h), (fun ⟨u, h, _⟩ => by cases h)⟩
  | succ j =>
    have hjl : j + 1 < ms.length := by
      rcases Nat.lt_or_ge (j + 1) ms.length with h' | h'
      · exact h'
      · rw [List.getElem?_eq_none h'] at hk; cases hk
    have hc : ms[j]? = some (ms[j]'(by omega)) := List.getElem?_eq_getElem (by omega)
    obtain ⟨u, h1, h2, h3, _⟩ := up_like ms hasc j _ hc
    rw [again, hc, hk]
    constructor
    · intro h
      have h := of_decide_eq_true h
      exact ⟨u, h1, h2.trans h.1.symm, h3.trans h.2.symm⟩
    · rintro ⟨u', h1', h2', h3'⟩
      rw [h1] at h1'
      injection h1' with h1'
      subst h1'
      exact decide_eq_true ⟨h2'.symm.trans h2, h3'.symm.trans h3⟩
/-- Where the last mark that counts lies. -/
def upAt (ms : List Mk) (j : Nat) : Nat := match upTo ms j with
  | none => 0
  | some u => u.at
/-- Names go on. -/
def Ext (ns ns' : List ByteArray) : Prop := ∀ (i : Nat) s, ns[i]? = some s → ns'[i]? = some s
theorem put_ext (ns : List ByteArray) (s : ByteArray) : Ext ns (put ns s) := by
  intro i t h
  unfold put
  split
  · exact h
  · have hil : i < ns.length := by
      rcases Nat.lt_or_ge i ns.length with h' | h'
      · exact h'
      · rw [List.getElem?_eq_none h'] at h; cases h
    rw [List.getElem?_append_left hil]; exact h
/-- A mapping comes from a mark. -/
def From (src out : ByteArray) (ns : List ByteArray) (ms : List Mk) (m : Mp) : Prop :=
  m.src = 0 ∧ ∃ k ∈ ms, m.ol = ((placeOf src k.loc).1 : Int) ∧ m.oc = ((placeOf src k.loc).2 : Int) ∧ (m.name < 0 ∨ ∃ i : Nat, m.name = i ∧ ns[i]? = some k.name ∧ m.line = ((placeOf out k.at).1 : Int) ∧ m.col = ((placeOf out k.at).2 : Int))
theorem From.ext {src out : ByteArray} {ns ns' : List ByteArray} {ms : List Mk} {m : Mp} (h : From src out ns ms m) (e : Ext ns ns') : From src out ns' ms m := by
  obtain ⟨h1, k, h2, h3, h4, h5⟩ := h
  refine ⟨h1, k, h2, h3, h4, ?_⟩
  rcases h5 with h5 | ⟨i, h5, h6, h7⟩
  · exact .inl h5
  · exact .inr ⟨i, h5, e i _ h6, h7⟩
/-- A mark's own mapping. -/
structure Own (src out : ByteArray) (ns : List ByteArray) (k : Mk) (m : Mp) : Prop where
  line : m.line = ((placeOf out k.at).1 : Int)
  col : m.col = ((placeOf out k.at).2 : Int)
  ol : m.ol = ((placeOf src k.loc).1 : Int)
  oc : m.oc = ((placeOf src k.loc).2 : Int)
  src : m.src = 0
  name : (k.name = ByteArray.empty ∧ m.name = -1) ∨ (k.name ≠ ByteArray.empty ∧ ∃ i : Nat, m.name = i ∧ ns[i]? = some k.name)
theorem Own.ext {src out : ByteArray} {ns ns' : List ByteArray} {k : Mk} {m : Mp} (h : Own src out ns k m) (e : Ext ns ns') : Own src out ns' k m := by
  refine ⟨h.line, h.col, h.ol, h.oc, h.src, ?_⟩
  rcases h.name with h | ⟨h1, i, h2, h3⟩
  · exact .inl h
  · exact .inr ⟨h1, i, h2, e i _ h3⟩
theorem Own.from_ {src out : ByteArray} {ns : List ByteArray} {k : Mk} {m : Mp} {ms : List Mk} (h : Own src out ns k m) (hk : k ∈ ms) : From src out ns ms m := by
  refine ⟨h.src, k, hk, h.ol, h.oc, ?_⟩
  rcases h.name with ⟨_, h1⟩ | ⟨_, i, h1, h2⟩
  · left; omega
  · exact .inr ⟨i, h1, h2, h.line, h.col⟩
/-- What is found for a place. -/
def Hit (D : List Mp) (p : Nat × Nat) (m : Mp) : Prop := ∃ n, D[n]? = some m ∧ ∀ (n' : Nat) m', n < n' → D[n']? = some m' → (p.1 : Int) < m'.line ∨ ((p.1 : Int) = m'.line ∧ (p.2 : Int) < m'.col)
theorem Hit.grow {D E : List Mp} {p : Nat × Nat} {m : Mp} (h : Hit D p m) (hE : ∀ x ∈ E, (p.1 : Int) < x.line ∨ ((p.1 : Int) = x.line ∧ (p.2 : Int) < x.col)) : Hit (D ++ E) p m := by
  obtain ⟨n, h1, h2⟩ := h
  have hn : n < D.length := by
    rcases Nat.lt_or_ge n D.length with h' | h'
    · exact h'
    · rw [List.getElem?_eq_none h'] at h1; cases h1
  refine ⟨n, by rw [List.getElem?_append_left hn]; exact h1, fun n' m' hn' hm' => ?_⟩
  rcases Nat.lt_or_ge n' D.length with c | c
  · rw [List.getElem?_append_left c] at hm'
    exact h2 n' m' hn' hm'
  · rw [List.getElem?_append_right c] at hm'
    exact hE m' (List.mem_of_getElem? hm')
theorem Hit.last (D : List Mp) (p : Nat × Nat) (m : Mp) : Hit (D ++ [m]) p m := by
  refine ⟨D.length, by simp, fun n' m' hn' hm' => ?_⟩
  rw [List.getElem?_eq_none (by simp; omega)] at hm'
  cases hm'
theorem find_hit {D : List Mp} {p : Nat × Nat} {m : Mp} (h : Hit D p m) (h1 : m.line = (p.1 : Int)) (h2 : m.col ≤ (p.2 : Int)) : ∃ n : Nat, findTo D p.1 p.2 D.length = n ∧ D[n]? = some m := by
  obtain ⟨n, hn, hx⟩ := h
  refine ⟨n, ?_, hn⟩
  have hnl : n < D.length := by
    rcases Nat.lt_or_ge n D.length with h' | h'
    · exact h'
    · rw [List.getElem?_eq_none h'] at hn; cases hn
  have key : ∀ k, n < k → k ≤ D.length → findTo D p.1 p.2 k = n := by
    intro k
    induction k with
    | zero => intro h; omega
    | succ k ih =>
      intro hk hkl
      have hc : D[k]? = some (D[k]'(by omega)) := List.getElem?_eq_getElem (by omega)
      rw [findTo, hc]
      simp only
      rcases Nat.lt_or_ge n k with c | c
      · have := hx k _ c hc
        rw [if_neg (by omega)]
        exact ih c (by omega)
      · have : k = n := by omega
        subst this
        rw [hn] at hc
        injection hc with hc
        rw [← hc, if_pos ⟨h1, h2⟩]
  exact key _ hnl (Nat.le_refl _)
/-- What is known between two marks. -/
structure Law (src out : ByteArray) (ms : List Mk) (j : Nat) (a : Ab) (D : List Mp) (ns : List ByteArray) : Prop where
  maps : Maps a D
  sorted : Sorted a D
  pos : a.st.gl = ((placeOf out (upAt ms j)).1 : Int) ∧ a.gcol = ((placeOf out (upAt ms j)).2 : Int)
  each : ∀ m ∈ D, From src out ns ms m
  has : a.hp = true → ∃ u, upTo ms j = some u ∧ a.st.src = 0 ∧ a.st.ol = ((placeOf src u.loc).1 : Int) ∧ a.st.oc = ((placeOf src u.loc).2 : Int)
  last : ∀ u, upTo ms j = some u → a.ls = true ∧ ∃ D' m, D = D' ++ [m] ∧ Own src out ns u m
  hit : ∀ i k u, i < j → ms[i]? = some k → upTo ms (i + 1) = some u → (placeOf out u.at).1 = (placeOf out k.at).1 → ((placeOf out k.at).1 : Int) ≤ a.st.gl ∧ ∃ m, Hit D (placeOf out k.at) m ∧ Own src out ns u m
theorem Law.new (src out : ByteArray) (ms : List Mk) : Law src out ms 0 Ab.new [] [] := by
  refine ⟨Maps.new, ⟨(fun i a b h => by simp at h), (fun m h => by cases h)⟩, ?_, (fun m h => by cases h), (fun h => by cases h), (fun u h => by cases h), (fun i k u h => by omega)⟩
  have e : upAt ms 0 = 0 := rfl
  rw [e, place_zero]
  exact ⟨rfl, rfl⟩
/-- A mark that is like the one before it. -/
theorem Law.skip {src out : ByteArray} {ms : List Mk} {j : Nat} {a : Ab} {D : List Mp} {ns : List ByteArray} (h : Law src out ms j a D ns) (hf : MFit src out ms) {k : Mk} (hk : ms[j]? = some k) (ha : again ms j = true) : Law src out ms (j + 1) a D ns := by
  have hu : upTo ms (j + 1) = upTo ms j := by rw [upTo, if_pos ha]
  have hat : upAt ms (j + 1) = upAt ms j := by unfold upAt; rw [hu]
  refine ⟨h.maps, h.sorted, by rw [hat]; exact h.pos, h.each, by rw [hu]; exact h.has, by rw [hu]; exact h.last, fun i k' u hi hk' hup hline => ?_⟩
  rcases Nat.lt_or_ge i j with c | c
  · exact h.hit i k' u c hk' hup hline
  · have : i = j := by omega
    subst this
    rw [hk] at hk'
    injection hk' with hk'
    subst hk'
    rw [hu] at hup
    obtain ⟨_, D', m, hD, ho⟩ := h.last u hup
    refine ⟨?_, m, by rw [hD]; exact Hit.last D' _ m, ho⟩
    rw [h.pos.1, ← hline]
    have : upAt ms i = u.at := by unfold upAt; rw [hup]
    rw [this]
    exact Int.le_refl _
/-- A mark that is not. -/
theorem Law.mark {src out : ByteArray} {ms : List Mk} {j : Nat} {a : Ab} {D : List Mp} {ns : List ByteArray} (h : Law src out ms j a D ns) (hf : MFit src out ms) {k : Mk} (hk : ms[j]? = some k) (ha : again ms j = false)
    {n : Nat} (hl : a.Lim n) {q : Sm} (hns : (put ns k.name).length ≤ 1000000)
    (hn : n + 2 * (k.at - upAt ms j) < 800000)
    (hq : Named (put ns k.name) k.name ((Ab.upd (out.extract (upAt ms j) k.at) 0 a).cov0.spot (placeOf src k.loc).1 (placeOf src k.loc).2) q)
    (hL : (placeOf src k.loc).1 ≤ 1000000) (hC : (placeOf src k.loc).2 ≤ 1000000) :
    ∃ E, Law src out ms (j + 1) ((Ab.upd (out.extract (upAt ms j) k.at) 0 a).cov0.mark q) (D ++ E) (put ns k.name) := by
  have hup : upTo ms (j + 1) = some k := by rw [upTo, if_neg (by rw [ha]; decide)]; exact hk
  have hat : upAt ms (j + 1) = k.at := by unfold upAt; rw [hup]
  have hkm := List.mem_of_getElem? hk
  obtain ⟨f1, f2, f3, f4, f5, f6⟩ := hf.each k hkm
  have hjl : j < ms.length := by
    rcases Nat.lt_or_ge j ms.length with h' | h'
    · exact h'
    · rw [List.getElem?_eq_none h'] at hk; cases hk
  have hfrom : upAt ms j ≤ k.at ∧ Pt out (upAt ms j) := by
    unfold upAt
    cases hu : upTo ms j with
    | none => exact ⟨Nat.zero_le _, Pt.zero out⟩
    | some u =>
      simp only
      cases j with
      | zero => cases hu
      | succ j =>
        have hc : ms[j]? = some (ms[j]'(by omega)) := List.getElem?_eq_getElem (by omega)
        obtain ⟨u', g1, _, _, g4, g5, _⟩ := up_like ms hf.asc j _ hc
        rw [hu] at g1
        injection g1 with g1
        subst g1
        have := hf.asc j _ k hc hk
        obtain ⟨e1, e2, _⟩ := hf.each u g5
        exact ⟨by omega, Pt.of hf.wout e1 e2⟩
  obtain ⟨Z, hZ⟩ : ∃ Z, Z = out.extract (upAt ms j) k.at := ⟨_, rfl⟩
  obtain ⟨_, _, hpr, _, _, hpp⟩ := piece hf.wout hfrom.1 f1 hfrom.2 (Pt.of hf.wout f1 f2)
  rw [← hZ] at hpr hpp hq ⊢
  obtain ⟨E1, m1, s1, d1⟩ := upd_maps Z _ 0 a D n rfl hl (by omega) h.maps h.sorted
  obtain ⟨b, hb⟩ : ∃ b, b = Ab.upd Z 0 a := ⟨_, rfl⟩
  have hlb : b.Lim (n + 2 * (Z.size - 0)) := by rw [hb]; exact hl.upd Z _ 0 n a rfl (by omega)
  have hpl := upd_place Z _ 0 a _ _ rfl h.pos.1 h.pos.2
  rw [← hb] at hq m1 s1 d1 hpl ⊢
  have hple : places Z 0 ((placeOf out (upAt ms j)).1, (placeOf out (upAt ms j)).2) = placeOf out k.at := hpp.symm
  rw [hple] at hpl
  obtain ⟨E2, m2, s2, d2, r1, r2, r3, r4, r5, r6⟩ := mark_maps m1 s1 hlb (by omega) hL hC hq hns
  have dd := d1.trans d2
  have hext := put_ext ns k.name
  have hown : Own src out (put ns k.name) k (mapOf q) := by
    obtain ⟨q1, q2, q3, q4, q5⟩ := hq.like
    have hk0 := cov0_keeps b
    have hnm := hq.name rfl
    refine ⟨?_, ?_, q4, q5, q3, hnm.imp id fun ⟨x, i, y, z⟩ => ⟨x, i, z, y⟩⟩
    · show q.gl = _
      rw [q1]
      show b.cov0.st.gl = _
      rw [hk0.1]; exact hpl.1
    · show q.gc = _
      rw [q2]
      show b.cov0.gcol = _
      rw [hk0.2]; exact hpl.2
  have hEE : ∀ x ∈ E1 ++ E2, From src out (put ns k.name) ms x := by
    intro x hx
    obtain ⟨h1, h2, h3, h4, h5, h6, h7⟩ := dd.each x hx
    obtain ⟨u, u1, u2, u3, u4⟩ := h.has h5
    refine ⟨h2.trans u2, u, ?_, h3.trans u3, h4.trans u4, .inl (by omega)⟩
    cases j with
    | zero => cases u1
    | succ j =>
      obtain ⟨u', g1, _, _, _, g5, _⟩ := up_like ms hf.asc j _ (List.getElem?_eq_getElem (by omega))
      rw [u1] at g1
      injection g1 with g1
      rw [g1]; exact g5
  refine ⟨E1 ++ E2 ++ [mapOf q], ?_⟩
  have eD : D ++ (E1 ++ E2 ++ [mapOf q]) = D ++ E1 ++ E2 ++ [mapOf q] := by simp
  rw [eD]
  refine ⟨m2, s2, ?_, fun m hm => ?_, fun _ => ⟨k, hup, r4, r5, r6⟩, fun u hu => ?_, fun i k' u hi hk' hu hline => ?_⟩
  · rw [hat, r1, r2]; exact hpl
  · rw [List.mem_append, List.mem_append, List.mem_append] at hm
    rcases hm with ((hm | hm) | hm) | hm
    · exact (h.each m hm).ext hext
    · exact hEE m (by simp [hm])
    · exact hEE m (by simp [hm])
    · simp at hm
      subst hm
      exact hown.from_ hkm
  · rw [hup] at hu
    injection hu with hu
    subst hu
    exact ⟨rfl, _, _, rfl, hown⟩
  · rw [r1]
    rcases Nat.lt_or_ge i j with c | c
    · obtain ⟨g1, m, g2, g3⟩ := h.hit i k' u c hk' hu hline
      refine ⟨Int.le_trans g1 d1.gl, m, ?_, g3.ext hext⟩
      rw [← eD]
      refine g2.grow fun x hx => ?_
      have hls : a.ls = true := by
        cases hun : upTo ms j with
        | none => exact absurd (up_none hf.asc (by omega) hun) (by omega)
        | some v => exact (h.last v hun).1
      rw [List.mem_append] at hx
      rcases hx with hx | hx
      · have := (dd.each x hx).2.2.2.2.2.2 hls
        left; omega
      · simp at hx
        subst hx
        have hkl := asc_lt hf.asc j i k' k c hk' hk
        obtain ⟨e1, e2, _⟩ := hf.each k' (List.mem_of_getElem? hk')
        have hlt := place_lt hf.wout hkl f1 e2 f2
        rw [hown.line, hown.col]
        rcases hlt with hlt | hlt <;> omega
    · have : i = j := by omega
      subst this
      rw [hk] at hk'
      injection hk' with hk'
      subst hk'
      rw [hup] at hu
      injection hu with hu
      subst hu
      refine ⟨by rw [hpl.1]; exact Int.le_refl _, _, Hit.last _ _ _, hown⟩
/-- What a mark's place leads to. -/
structure Led (src out : ByteArray) (ms : List Mk) (D : List Mp) : Prop where
  hit : ∀ i k u, ms[i]? = some k → upTo ms (i + 1) = some u → (placeOf out u.at).1 = (placeOf out k.at).1 → ∃ (n : Nat) (m : Mp), findTo D (placeOf out k.at).1 (placeOf out k.at).2 D.length = n ∧ D[n]? = some m ∧ m.ol = ((placeOf src k.loc).1 : Int) ∧ m.oc = ((placeOf src k.loc).2 : Int) ∧ (again ms i = false → m.line = ((placeOf out k.at).1 : Int) ∧ m.col = ((placeOf out k.at).2 : Int) ∧ (k.name = ByteArray.empty ↔ m.name < 0))
theorem Law.fin {src out : ByteArray} {ms : List Mk} {a : Ab} {D : List Mp} {ns : List ByteArray} (h : Law src out ms ms.length a D ns) (hf : MFit src out ms)
    {n : Nat} (hl : a.Lim n) (hn : n + 2 * (out.size - upAt ms ms.length) < 800000) :
    ∃ E, Maps (Ab.upd (out.extract (upAt ms ms.length) out.size) 0 a) E ∧ InOrder E ∧ (∀ m ∈ E, From src out ns ms m) ∧ Led src out ms E ∧
      (Ab.upd (out.extract (upAt ms ms.length) out.size) 0 a).st.gl = ((placeOf out out.size).1 : Int) ∧ (Ab.upd (out.extract (upAt ms ms.length) out.size) 0 a).gcol = ((placeOf out out.size).2 : Int) := by
  have hfrom : upAt ms ms.length ≤ out.size ∧ Pt out (upAt ms ms.length) := by
    unfold upAt
    cases hu : upTo ms ms.length with
    | none => exact ⟨Nat.zero_le _, Pt.zero out⟩
    | some u =>
      simp only
      have hum : u ∈ ms := by
        obtain ⟨j, hj⟩ : ∃ j, j = ms.length := ⟨_, rfl⟩
        rw [← hj] at hu
        cases j with
        | zero => cases hu
        | succ j =>
          obtain ⟨u', g1, _, _, _, g5, _⟩ := up_like ms hf.asc j _ (List.getElem?_eq_getElem (by omega))
          rw [hu] at g1
          injection g1 with g1
          rw [g1]; exact g5
      obtain ⟨e1, e2, _⟩ := hf.each u hum
      exact ⟨e1, Pt.of hf.wout e1 e2⟩
  obtain ⟨Z, hZ⟩ : ∃ Z, Z = out.extract (upAt ms ms.length) out.size := ⟨_, rfl⟩
  obtain ⟨_, _, hpr, _, _, hpp⟩ := piece hf.wout hfrom.1 (Nat.le_refl _) hfrom.2 (Pt.of hf.wout (Nat.le_refl _) (rounded_end out))
  rw [← hZ] at hpr hpp ⊢
  obtain ⟨E1, m1, s1, d1⟩ := upd_maps Z _ 0 a D n rfl hl (by omega) h.maps h.sorted
  have hpl := upd_place Z _ 0 a _ _ rfl h.pos.1 h.pos.2
  have hple : places Z 0 ((placeOf out (upAt ms ms.length)).1, (placeOf out (upAt ms ms.length)).2) = placeOf out out.size := hpp.symm
  rw [hple] at hpl
  refine ⟨D ++ E1, m1, s1.order, fun m hm => ?_, ⟨fun i k u hk hu hline => ?_⟩, hpl.1, hpl.2⟩
  · rw [List.mem_append] at hm
    rcases hm with hm | hm
    · exact h.each m hm
    · obtain ⟨h1, h2, h3, h4, h5, h6, h7⟩ := d1.each m hm
      obtain ⟨u, u1, u2, u3, u4⟩ := h.has h5
      refine ⟨h2.trans u2, u, ?_, h3.trans u3, h4.trans u4, .inl (by omega)⟩
      obtain ⟨j, hj⟩ : ∃ j, j = ms.length := ⟨_, rfl⟩
      rw [← hj] at u1
      cases j with
      | zero => cases u1
      | succ j =>
        obtain ⟨u', g1, _, _, _, g5, _⟩ := up_like ms hf.asc j _ (List.getElem?_eq_getElem (by omega))
        rw [u1] at g1
        injection g1 with g1
        rw [g1]; exact g5
  · have hil : i < ms.length := by
      rcases Nat.lt_or_ge i ms.length with h' | h'
      · exact h'
      · rw [List.getElem?_eq_none h'] at hk; cases hk
    obtain ⟨g1, m, g2, g3⟩ := h.hit i k u hil hk hu hline
    have hls : a.ls = true := by
      cases hun : upTo ms ms.length with
      | none => exact absurd (up_none hf.asc (Nat.le_refl _) hun) (by omega)
      | some v => exact (h.last v hun).1
    have hg : Hit (D ++ E1) (placeOf out k.at) m := g2.grow fun x hx => by
      have := (d1.each x hx).2.2.2.2.2.2 hls
      left; omega
    obtain ⟨u', w1, w2, w3, w4, w5, w6⟩ := up_like ms hf.asc i k hk
    rw [hu] at w1
    injection w1 with w1
    subst w1
    have hcol : m.col ≤ ((placeOf out k.at).2 : Int) := by
      rw [g3.col]
      rcases Nat.lt_or_ge u.at k.at with c | c
      · obtain ⟨e1, e2, _⟩ := hf.each u w5
        obtain ⟨e3, e4, _⟩ := hf.each k (List.mem_of_getElem? hk)
        rcases place_lt hf.wout c e3 e2 e4 with x | x <;> omega
      · rw [show u.at = k.at by omega]
        exact Int.le_refl _
    obtain ⟨n, hn1, hn2⟩ := find_hit hg (by rw [g3.line, hline]) hcol
    refine ⟨n, m, hn1, hn2, by rw [g3.ol, w2], by rw [g3.oc, w2], fun hag => ?_⟩
    have huk : u = k := by
      rw [upTo, if_neg (by rw [hag]; decide), hk] at hu
      injection hu with hu
      exact hu.symm
    subst huk
    refine ⟨g3.line, g3.col, ?_⟩
    rcases g3.name with ⟨x1, x2⟩ | ⟨x1, y, x2, _⟩
    · exact ⟨fun _ => by omega, fun _ => x1⟩
    · exact ⟨fun h => absurd h x1, fun h => by omega⟩
end Go.Proofs.Ytobhlppdolekoaa.Ch
