/-
  WHAT A CHANGE OF THE COPY DOES TO WHAT IT READS AS: the facts on worlds, without a walk.
-/
import Derived.Test.Qxb6627374aBuildLaws
namespace Go.Proofs.Qxb6627374a
open Go.RowKit

/-- From 'for every i < n there is an x' to a list. -/
theorem choose_list {α : Type} {p : Nat → α → Prop} : ∀ {n : Nat}, (∀ i, i < n → ∃ x, p i x) → ∃ l : List α, l.length = n ∧ ∀ i (h : i < l.length), p i l[i]
  | 0, _ => ⟨[], rfl, fun i h => absurd h (Nat.not_lt_zero _)⟩
  | n + 1, h => by
    obtain ⟨l, hl, hp⟩ := choose_list (n := n) (fun i hi => h i (by omega))
    obtain ⟨x, hx⟩ := h n (by omega)
    refine ⟨l ++ [x], by simp [hl], fun i hi => ?_⟩
    by_cases e : i < l.length
    · rw [List.getElem_append_left e]; exact hp i e
    · have : i = l.length := by simp at hi; omega
      subst this
      rw [List.getElem_append_right (Nat.le_refl _)]
      simpa [hl] using hx

/-! ### One string written over another: all still reads; the one that is named reads anew -/
theorem cell_str {w : World} {p : Addr} {x : ByteArray} (a : Addr) (s : ByteArray) (h : w.cell? a = some (.string s)) : ∃ s', (w.setCell p (.string x)).cell? a = some (.string s') ∧ (p = a → s' = x) := by
  by_cases e : p = a
  · subst e
    exact ⟨x, World.cell?_setCell_same _ _ _ h, fun _ => rfl⟩
  · exact ⟨s, by rw [World.cell?_setCell_other _ _ _ _ e]; exact h, fun h => absurd h e⟩

theorem cell_slice {w : World} {p : Addr} {y x : ByteArray} (hp : w.cell? p = some (.string y)) (a : Addr) {ao : Option Addr} {n c : Nat} (h : w.cell? a = some (.slice ao n c)) : (w.setCell p (.string x)).cell? a = some (.slice ao n c) := by
  rw [World.cell?_setCell_other _ _ _ _ (fun e => by rw [e, h] at hp; simp at hp)]
  exact h

theorem Strs.reset {w : World} {p : Addr} {y x : ByteArray} {lo hi : Nat} {v : Value} {ss : List ByteArray} (h : Strs w lo hi v ss) (_hp : w.cell? p = some (.string y)) : ∃ ss', ss'.length = ss.length ∧ Strs (w.setCell p (.string x)) lo hi v ss' := by
  obtain ⟨ao, cap, hv, hn, h0, hc⟩ := h
  obtain ⟨l, hl, hpl⟩ := choose_list (n := ss.length) (p := fun j s => ∃ b off, ao = some ⟨b, off, none⟩ ∧ lo ≤ b ∧ b < hi ∧ (w.setCell p (.string x)).cell? ⟨b, off + j, none⟩ = some (.string s)) (fun j hj => by
    obtain ⟨b, off, h1, h2, h3, h4⟩ := hc j hj
    obtain ⟨s', h5, _⟩ := cell_str (p := p) (x := x) _ _ h4
    exact ⟨s', b, off, h1, h2, h3, h5⟩)
  refine ⟨l, hl, ao, cap, by rw [hv, hl], by omega, fun e => ?_, hpl⟩
  have := h0 e
  subst this
  exact List.eq_nil_of_length_eq_zero hl

theorem ReqAt.reset {w : World} {p : Addr} {y x : ByteArray} {lo hi b o : Nat} {r : Req} (h : ReqAt w lo hi b o r) (hp : w.cell? p = some (.string y)) : ∃ r', ReqAt (w.setCell p (.string x)) lo hi b o r' ∧ (p = ⟨b, o, none⟩ → r'.key = x) := by
  obtain ⟨h1, h2, v, h3, h4⟩ := h
  obtain ⟨k', a1, a2⟩ := cell_str (p := p) (x := x) _ _ h1
  obtain ⟨o', b1, _⟩ := cell_str (p := p) (x := x) _ _ h2
  obtain ⟨ss', _, c2⟩ := h4.reset (x := x) hp
  obtain ⟨ao, c, rfl, _⟩ := h4.len
  exact ⟨⟨k', o', ss'⟩, ⟨a1, b1, _, cell_slice (x := x) hp _ h3, c2⟩, a2⟩

theorem Reqs.reset {w : World} {p : Addr} {y x : ByteArray} {lo hi : Nat} {v : Value} {rs : List Req} (h : Reqs w lo hi v rs) (hp : w.cell? p = some (.string y)) : ∃ rs' : List Req, rs'.length = rs.length ∧ Reqs (w.setCell p (.string x)) lo hi v rs' ∧
    ∀ j (hj : j < rs'.length) b off n c, v = .slice (some ⟨b, off, none⟩) n c → p = ⟨b, off + j * 3, none⟩ → rs'[j].key = x := by
  obtain ⟨ao, cap, hv, hn, h0, hc⟩ := h
  obtain ⟨l, hl, hpl⟩ := choose_list (n := rs.length) (p := fun j r => ∃ b off, ao = some ⟨b, off, none⟩ ∧ lo ≤ b ∧ b < hi ∧ ReqAt (w.setCell p (.string x)) lo hi b (off + j * 3) r ∧ (p = ⟨b, off + j * 3, none⟩ → r.key = x)) (fun j hj => by
    obtain ⟨b, off, h1, h2, h3, h4⟩ := hc j hj
    obtain ⟨r', h5, h6⟩ := h4.reset (x := x) hp
    exact ⟨r', b, off, h1, h2, h3, h5, h6⟩)
  refine ⟨l, hl, ⟨ao, cap, by rw [hv, hl], by omega, fun e => ?_, fun j hj => ?_⟩, fun j hj b off n c e e' => ?_⟩
  · have := h0 e
    subst this
    exact List.eq_nil_of_length_eq_zero hl
  · obtain ⟨b, off, h1, h2, h3, h4, _⟩ := hpl j hj
    exact ⟨b, off, h1, h2, h3, h4⟩
  · obtain ⟨b', off', h1, _, _, _, h5⟩ := hpl j hj
    rw [hv, h1] at e
    simp only [Value.slice.injEq, Option.some.injEq, Addr.mk.injEq] at e
    rw [e.1.1, e.1.2.1] at h5
    exact h5 e'

theorem TermAt.reset {w : World} {p : Addr} {y x : ByteArray} {lo hi b o : Nat} {t : Term} (h : TermAt w lo hi b o t) (hp : w.cell? p = some (.string y)) : ∃ t' : Term, TermAt (w.setCell p (.string x)) lo hi b o t' ∧
    (∀ j b' off n c, w.cell? ⟨b, o, none⟩ = some (.slice (some ⟨b', off, none⟩) n c) → p = ⟨b', off + j * 3, none⟩ → j < t.1.length → (t'.1[j]?.map Req.key) = some x) ∧
    (∀ j b' off n c, w.cell? ⟨b, o + 1, none⟩ = some (.slice (some ⟨b', off, none⟩) n c) → p = ⟨b', off + j * 3, none⟩ → j < t.2.length → (t'.2[j]?.map Req.key) = some x) := by
  obtain ⟨v0, v1, h0, h1, g0, g1⟩ := h
  obtain ⟨r0, l0, q0, k0⟩ := g0.reset (x := x) hp
  obtain ⟨r1, l1, q1, k1⟩ := g1.reset (x := x) hp
  obtain ⟨a0, c0, rfl, _⟩ := g0.len
  obtain ⟨a1, c1, rfl, _⟩ := g1.len
  refine ⟨(r0, r1), ⟨_, _, cell_slice (x := x) hp _ h0, cell_slice (x := x) hp _ h1, q0, q1⟩, fun j b' off n c e e' hj => ?_, fun j b' off n c e e' hj => ?_⟩
  · have hj' : j < r0.length := by omega
    rw [h0] at e
    show (r0[j]?.map Req.key) = some x
    rw [List.getElem?_eq_getElem hj']
    exact congrArg some (k0 j hj' b' off n c (by simpa using e) e')
  · have hj' : j < r1.length := by omega
    rw [h1] at e
    show (r1[j]?.map Req.key) = some x
    rw [List.getElem?_eq_getElem hj']
    exact congrArg some (k1 j hj' b' off n c (by simpa using e) e')

theorem Terms.reset {w : World} {p : Addr} {y x : ByteArray} {lo hi : Nat} {v : Value} {ts : List Term} (h : Terms w lo hi v ts) (hp : w.cell? p = some (.string y)) : ∃ ts' : List Term, ts'.length = ts.length ∧ Terms (w.setCell p (.string x)) lo hi v ts' ∧
    ∀ j (hj : j < ts'.length) (hj' : j < ts.length) b off n c, v = .slice (some ⟨b, off, none⟩) n c →
      (∀ i b' off' n' c', w.cell? ⟨b, off + j * 2, none⟩ = some (.slice (some ⟨b', off', none⟩) n' c') → p = ⟨b', off' + i * 3, none⟩ → i < ts[j].1.length → (ts'[j].1[i]?.map Req.key) = some x) ∧
      (∀ i b' off' n' c', w.cell? ⟨b, off + j * 2 + 1, none⟩ = some (.slice (some ⟨b', off', none⟩) n' c') → p = ⟨b', off' + i * 3, none⟩ → i < ts[j].2.length → (ts'[j].2[i]?.map Req.key) = some x) := by
  obtain ⟨ao, cap, hv, hn, h0, hc⟩ := h
  obtain ⟨l, hl, hpl⟩ := choose_list (n := ts.length) (p := fun j t' => ∃ b off, ∃ hj : j < ts.length, ao = some ⟨b, off, none⟩ ∧ lo ≤ b ∧ b < hi ∧ TermAt (w.setCell p (.string x)) lo hi b (off + j * 2) t' ∧
      (∀ i b' off' n' c', w.cell? ⟨b, off + j * 2, none⟩ = some (.slice (some ⟨b', off', none⟩) n' c') → p = ⟨b', off' + i * 3, none⟩ → i < ts[j].1.length → (t'.1[i]?.map Req.key) = some x) ∧
      (∀ i b' off' n' c', w.cell? ⟨b, off + j * 2 + 1, none⟩ = some (.slice (some ⟨b', off', none⟩) n' c') → p = ⟨b', off' + i * 3, none⟩ → i < ts[j].2.length → (t'.2[i]?.map Req.key) = some x)) (fun j hj => by
    obtain ⟨b, off, h1, h2, h3, h4⟩ := hc j hj
    obtain ⟨t', h5, h6, h7⟩ := h4.reset (x := x) hp
    exact ⟨t', b, off, hj, h1, h2, h3, h5, h6, h7⟩)
  refine ⟨l, hl, ⟨ao, cap, by rw [hv, hl], by omega, fun e => ?_, fun j hj => ?_⟩, fun j hj hj' b off n c e => ?_⟩
  · have := h0 e
    subst this
    exact List.eq_nil_of_length_eq_zero hl
  · obtain ⟨b, off, _, h1, h2, h3, h4, _⟩ := hpl j hj
    exact ⟨b, off, h1, h2, h3, h4⟩
  · obtain ⟨b', off', _, h1, _, _, _, h5, h6⟩ := hpl j hj
    rw [hv, h1] at e
    simp only [Value.slice.injEq, Option.some.injEq, Addr.mk.injEq] at e
    obtain ⟨⟨rfl, rfl, _⟩, _⟩ := e
    exact ⟨h5, h6⟩

/-! ### The cells of a slice, as a list -/
/-- The first N cells at an address. -/
def cellList (w : World) (b off N : Nat) : List Value := (List.range N).map fun o => (w.cell? ⟨b, off + o, none⟩).getD undef
theorem cellList_length (w : World) (b off N : Nat) : (cellList w b off N).length = N := by simp [cellList]
theorem cellList_at {w : World} {b off N o : Nat} {v : Value} (ho : o < N) (h : w.cell? ⟨b, off + o, none⟩ = some v) : (cellList w b off N)[o]? = some v := by
  simp [cellList, ho, h]
theorem cellList_cell {w : World} {b off N : Nat} (hrow : ∀ o, o < N → ∃ u, w.cell? ⟨b, off + o, none⟩ = some u) (j : Nat) (u : Value) (h : (cellList w b off N)[j]? = some u) : w.cell? ⟨b, off + j, none⟩ = some u := by
  by_cases hj : j < N
  · obtain ⟨v, hv⟩ := hrow j hj
    rw [cellList_at hj hv] at h
    rw [hv]
    simpa using h
  · rw [List.getElem?_eq_none (by rw [cellList_length]; omega)] at h
    cases h

/-- What an owned row gives: its address and its cells. -/
theorem owns_cells {w : World} {base : Nat} {e : TypeId} {size : Nat} {v : Value} {n : Nat} {xs : List Value} (h : w.ownsRow base e size v n xs) (hn : 0 < n) :
    ∃ g cap, v = .slice (some ⟨g, 0, none⟩) n cap ∧ base ≤ g ∧ g < w.heap.size ∧ n ≤ cap ∧ ∀ j u, xs[j]? = some u → j < n * size → w.cell? ⟨g, j, none⟩ = some u := by
  obtain ⟨hl, h2⟩ := h
  rcases h2 with ⟨_, h0⟩ | ⟨g, cap, cur, rfl, hb, hh, hnc, hm, hs, ht⟩
  · omega
  · refine ⟨g, cap, rfl, hb, (Array.getElem?_eq_some_iff.1 hh).1, hnc, fun j u hu hj => ?_⟩
    rw [World.ownsRow.cellAt ⟨hl, .inr ⟨g, cap, cur, rfl, hb, hh, hnc, hm, hs, ht⟩⟩ j hj]
    exact hu

/-! ### One requirement appended -/
theorem Reqs.append {w w' : World} {lo hi B b0 off0 : Nat} {v v' : Value} {rs : List Req} {s : ByteArray} {ao : Option Addr} {cap : Nat} (h : Reqs w lo hi v rs) (hv : v = .slice ao rs.length cap) (hao : ∀ a, ao = some a → a = ⟨b0, off0, none⟩)
    (hb : Below B w w') (hhi : hi ≤ B) (hlo : lo ≤ B) (own : w'.ownsRow B 54 3 v' (rs.length + 1) (cellList w b0 off0 (rs.length * 3) ++ [.string s, .string ⟨#[]⟩, .slice none 0 0])) (hl : rs.length ≤ 1048576) :
    Reqs w' lo w'.heap.size v' (rs ++ [⟨s, ⟨#[]⟩, []⟩]) := by
  obtain ⟨g, cap', rfl, hg, hg', _, hc⟩ := owns_cells own (by omega)
  obtain ⟨ao', cap'', hv', hn, h0, hr⟩ := h
  rw [hv] at hv'
  simp only [Value.slice.injEq] at hv'
  obtain ⟨rfl, _, rfl⟩ := hv'
  have hll := cellList_length w b0 off0 (rs.length * 3)
  have hsz := hb.size
  refine ⟨some ⟨g, 0, none⟩, cap', by simp, by simp; omega, fun e => (by cases e), fun j hj => ⟨g, 0, rfl, by omega, hg', ?_⟩⟩
  rw [Nat.zero_add]
  by_cases e : j < rs.length
  · obtain ⟨b, off, ha, l1, l2, a1, a2, u, a3, a4⟩ := hr j e
    have hab := hao _ ha
    simp only [Addr.mk.injEq] at hab
    obtain ⟨rfl, rfl, _⟩ := hab
    have get : ∀ i u, i < 3 → w.cell? ⟨b, off + (j * 3 + i), none⟩ = some u → w'.cell? ⟨g, j * 3 + i, none⟩ = some u := fun i u hi hu =>
      hc _ u (by rw [List.getElem?_append_left (by rw [hll]; omega)]; exact cellList_at (by omega) hu) (by omega)
    rw [List.getElem_append_left e]
    have e0 := get 0 _ (by omega) (by simpa [Nat.add_assoc] using a1)
    have e1 := get 1 _ (by omega) (by simpa [Nat.add_assoc] using a2)
    have e2 := get 2 _ (by omega) (by simpa [Nat.add_assoc] using a3)
    exact ⟨by simpa using e0, e1, u, e2, a4.carry (Same.of_below hb hhi) (Nat.le_refl _) (by omega)⟩
  · have : j = rs.length := by simp at hj; omega
    subst this
    have get : ∀ i u, i < 3 → ([.string s, .string ⟨#[]⟩, .slice none 0 0] : List Value)[i]? = some u → w'.cell? ⟨g, rs.length * 3 + i, none⟩ = some u := fun i u hi hu =>
      hc _ u (by rw [List.getElem?_append_right (by rw [hll]; omega), hll]; simpa using hu) (by omega)
    rw [List.getElem_append_right (Nat.le_refl _)]
    have e0 := get 0 _ (by omega) rfl
    have e1 := get 1 _ (by omega) rfl
    have e2 := get 2 _ (by omega) rfl
    simp only [Nat.sub_self, List.getElem_cons_zero]
    exact ⟨by simpa using e0, e1, _, e2, Strs.nil _ _ _ rfl⟩

/-! ### One term appended -/
theorem Terms.append {w w' : World} {lo hi B b0 off0 : Nat} {v v' : Value} {ts : List Term} {ao : Option Addr} {cap : Nat} (h : Terms w lo hi v ts) (hv : v = .slice ao ts.length cap) (hao : ∀ a, ao = some a → a = ⟨b0, off0, none⟩)
    (hb : Below B w w') (hhi : hi ≤ B) (own : w'.ownsRow B 39 2 v' (ts.length + 1) (cellList w b0 off0 (ts.length * 2) ++ [.slice none 0 0, .slice none 0 0])) :
    ∃ g cap', v' = .slice (some ⟨g, 0, none⟩) (ts.length + 1) cap' ∧ B ≤ g ∧ g < w'.heap.size ∧ ∀ j (hj : j < (ts ++ [([], [])]).length), TermAt w' lo hi g (j * 2) (ts ++ [([], [])])[j] := by
  obtain ⟨g, cap', rfl, hg, hg', _, hc⟩ := owns_cells own (by omega)
  obtain ⟨ao', cap'', hv', hn, h0, hr⟩ := h
  rw [hv] at hv'
  simp only [Value.slice.injEq] at hv'
  obtain ⟨rfl, _, rfl⟩ := hv'
  have hll := cellList_length w b0 off0 (ts.length * 2)
  refine ⟨g, cap', rfl, hg, hg', fun j hj => ?_⟩
  by_cases e : j < ts.length
  · obtain ⟨b, off, ha, l1, l2, u0, u1, a1, a2, a3, a4⟩ := hr j e
    have hab := hao _ ha
    simp only [Addr.mk.injEq] at hab
    obtain ⟨rfl, rfl, _⟩ := hab
    have get : ∀ i u, i < 2 → w.cell? ⟨b, off + (j * 2 + i), none⟩ = some u → w'.cell? ⟨g, j * 2 + i, none⟩ = some u := fun i u hi hu =>
      hc _ u (by rw [List.getElem?_append_left (by rw [hll]; omega)]; exact cellList_at (by omega) hu) (by omega)
    rw [List.getElem_append_left e]
    have e0 := get 0 _ (by omega) (by simpa [Nat.add_assoc] using a1)
    have e1 := get 1 _ (by omega) (by simpa [Nat.add_assoc] using a2)
    exact ⟨u0, u1, by simpa using e0, e1, a3.carry (Same.of_below hb hhi) (Nat.le_refl _) (Nat.le_refl _), a4.carry (Same.of_below hb hhi) (Nat.le_refl _) (Nat.le_refl _)⟩
  · have : j = ts.length := by simp at hj; omega
    subst this
    have get : ∀ i u, i < 2 → ([.slice none 0 0, .slice none 0 0] : List Value)[i]? = some u → w'.cell? ⟨g, ts.length * 2 + i, none⟩ = some u := fun i u hi hu =>
      hc _ u (by rw [List.getElem?_append_right (by rw [hll]; omega), hll]; simpa using hu) (by omega)
    rw [List.getElem_append_right (Nat.le_refl _)]
    have e0 := get 0 _ (by omega) rfl
    have e1 := get 1 _ (by omega) rfl
    simp only [Nat.sub_self, List.getElem_cons_zero]
    exact ⟨_, _, by simpa using e0, e1, (ReqsNew.nil _ _ _).reqs, (ReqsNew.nil _ _ _).reqs⟩

/-! ### Another slice stored into a term -/
theorem TermsNew.at {w : World} {lo hi bT n c : Nat} {v : Value} {ts : List Term} (h : TermsNew w lo hi v ts) (hv : v = .slice (some ⟨bT, 0, none⟩) n c) : n = ts.length ∧ c = ts.length ∧ lo ≤ bT ∧ bT < hi ∧ ∀ j (hj : j < ts.length), TermNewAt w (bT + 1) hi bT (j * 2) ts[j] := by
  obtain ⟨ao, rfl, hn, h0, ha, hc⟩ := h
  simp only [Value.slice.injEq] at hv
  obtain ⟨rfl, rfl, rfl⟩ := hv
  obtain ⟨b, e, l1, l2⟩ := ha _ rfl
  simp only [Addr.mk.injEq, and_true] at e
  subst e
  refine ⟨rfl, rfl, l1, l2, fun j hj => ?_⟩
  obtain ⟨b, e, _, _, h3⟩ := hc j hj
  simp only [Option.some.injEq, Addr.mk.injEq, and_true] at e
  subst e
  exact h3
theorem Terms.store0 {w w1 : World} {lo hi hi1 B bT : Nat} {v v' : Value} {ts : List Term} {rs' : List Req} {k : Nat} (h : TermsNew w lo hi v ts) (hv : v = .slice (some ⟨bT, 0, none⟩) ts.length ts.length) (hk : k < ts.length)
    (hb : Below B w w1) (hhi : hi ≤ B) (hr : Reqs w1 (bT + 1) hi1 v' rs') (hh : hi ≤ hi1) : Terms (w1.setCell ⟨bT, k * 2, none⟩ v') lo hi1 v (ts.set k (rs', ts[k].2)) := by
  obtain ⟨_, _, l1, l2, hc⟩ := h.at hv
  have hn : ts.length ≤ 1048576 := by obtain ⟨_, _, hn, _⟩ := h; exact hn
  have other : ∀ (b o : Nat), b ≠ bT → (w1.setCell ⟨bT, k * 2, none⟩ v').cell? ⟨b, o, none⟩ = w1.cell? ⟨b, o, none⟩ := fun b o hb => World.cell?_setCell_other _ _ _ _ (adr_block (Ne.symm hb))
  have same : Same (bT + 1) hi1 w1 (w1.setCell ⟨bT, k * 2, none⟩ v') := fun b o h1 _ => other b o (by omega)
  have sameW : Same (bT + 1) hi w (w1.setCell ⟨bT, k * 2, none⟩ v') := fun b o h1 h2 => (other b o (by omega)).trans (hb.cell (p := ⟨b, o, none⟩) (by show b < B; omega))
  have old : ∀ o, o ≠ k * 2 → (w1.setCell ⟨bT, k * 2, none⟩ v').cell? ⟨bT, o, none⟩ = w.cell? ⟨bT, o, none⟩ := fun o ho => (World.cell?_setCell_other _ _ _ _ (adr_off (Ne.symm ho))).trans (hb.cell (p := ⟨bT, o, none⟩) (by show bT < B; omega))
  refine ⟨some ⟨bT, 0, none⟩, ts.length, by rw [hv, List.length_set], by rw [List.length_set]; omega, fun e => (by cases e), fun j hj => ⟨bT, 0, rfl, l1, by omega, ?_⟩⟩
  rw [Nat.zero_add]
  have hj' : j < ts.length := by rw [List.length_set] at hj; exact hj
  obtain ⟨v0, v1, a0, a1, a2, a3⟩ := hc j hj'
  by_cases e : k = j
  · subst e
    rw [List.getElem_set_self]
    have here : (w1.setCell ⟨bT, k * 2, none⟩ v').cell? ⟨bT, k * 2, none⟩ = some v' := World.cell?_setCell_same _ _ _ ((hb.cell (p := ⟨bT, k * 2, none⟩) (by show bT < B; omega)).trans a0)
    exact ⟨v', v1, here, (old _ (by omega)).trans a1, hr.carry same (by omega) (Nat.le_refl _), (a3.reqs).carry sameW (by omega) hh⟩
  · rw [List.getElem_set_ne e]
    exact ⟨v0, v1, (old _ (by omega)).trans a0, (old _ (by omega)).trans a1, (a2.reqs).carry sameW (by omega) hh, (a3.reqs).carry sameW (by omega) hh⟩
theorem Terms.store1 {w w1 : World} {lo hi hi1 B bT : Nat} {v v' : Value} {ts : List Term} {rs' : List Req} {k : Nat} (h : TermsNew w lo hi v ts) (hv : v = .slice (some ⟨bT, 0, none⟩) ts.length ts.length) (hk : k < ts.length)
    (hb : Below B w w1) (hhi : hi ≤ B) (hr : Reqs w1 (bT + 1) hi1 v' rs') (hh : hi ≤ hi1) : Terms (w1.setCell ⟨bT, k * 2 + 1, none⟩ v') lo hi1 v (ts.set k (ts[k].1, rs')) := by
  obtain ⟨_, _, l1, l2, hc⟩ := h.at hv
  have hn : ts.length ≤ 1048576 := by obtain ⟨_, _, hn, _⟩ := h; exact hn
  have other : ∀ (b o : Nat), b ≠ bT → (w1.setCell ⟨bT, k * 2 + 1, none⟩ v').cell? ⟨b, o, none⟩ = w1.cell? ⟨b, o, none⟩ := fun b o hb => World.cell?_setCell_other _ _ _ _ (adr_block (Ne.symm hb))
  have same : Same (bT + 1) hi1 w1 (w1.setCell ⟨bT, k * 2 + 1, none⟩ v') := fun b o h1 _ => other b o (by omega)
  have sameW : Same (bT + 1) hi w (w1.setCell ⟨bT, k * 2 + 1, none⟩ v') := fun b o h1 h2 => (other b o (by omega)).trans (hb.cell (p := ⟨b, o, none⟩) (by show b < B; omega))
  have old : ∀ o, o ≠ k * 2 + 1 → (w1.setCell ⟨bT, k * 2 + 1, none⟩ v').cell? ⟨bT, o, none⟩ = w.cell? ⟨bT, o, none⟩ := fun o ho => (World.cell?_setCell_other _ _ _ _ (adr_off (Ne.symm ho))).trans (hb.cell (p := ⟨bT, o, none⟩) (by show bT < B; omega))
  refine ⟨some ⟨bT, 0, none⟩, ts.length, by rw [hv, List.length_set], by rw [List.length_set]; omega, fun e => (by cases e), fun j hj => ⟨bT, 0, rfl, l1, by omega, ?_⟩⟩
  rw [Nat.zero_add]
  have hj' : j < ts.length := by rw [List.length_set] at hj; exact hj
  obtain ⟨v0, v1, a0, a1, a2, a3⟩ := hc j hj'
  by_cases e : k = j
  · subst e
    rw [List.getElem_set_self]
    have here : (w1.setCell ⟨bT, k * 2 + 1, none⟩ v').cell? ⟨bT, k * 2 + 1, none⟩ = some v' := World.cell?_setCell_same _ _ _ ((hb.cell (p := ⟨bT, k * 2 + 1, none⟩) (by show bT < B; omega)).trans a1)
    exact ⟨v0, v', (old _ (by omega)).trans a0, here, (a2.reqs).carry sameW (by omega) hh, hr.carry same (by omega) (Nat.le_refl _)⟩
  · rw [List.getElem_set_ne e]
    exact ⟨v0, v1, (old _ (by omega)).trans a0, (old _ (by omega)).trans a1, (a2.reqs).carry sameW (by omega) hh, (a3.reqs).carry sameW (by omega) hh⟩

/-- The same value stored again turns nothing that is read. -/
theorem setCell_same {w : World} {p : Addr} {v : Value} (h : w.cell? p = some v) (a : Addr) : (w.setCell p v).cell? a = w.cell? a := by
  by_cases e : p = a
  · subst e; rw [World.cell?_setCell_same _ _ _ h, h]
  · exact World.cell?_setCell_other _ _ _ _ e
end Go.Proofs.Qxb6627374a
