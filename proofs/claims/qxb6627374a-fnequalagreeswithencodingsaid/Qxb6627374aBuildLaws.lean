/-
  WHAT BUILDING A COPY DOES TO MEMORY: the facts on worlds, without a walk.
-/
import Derived.Test.Qxb6627374aData
namespace Go.Proofs.Qxb6627374a
open Go.RowKit

/-- Below B all is as it was; no mark has turned. -/
def Grew (B : Nat) (w w' : World) : Prop := Below B w w' ∧ ∀ a, w'.frozen? a = w.frozen? a
theorem Grew.refl (B : Nat) (w : World) : Grew B w w := ⟨Below.refl _ _, fun _ => rfl⟩
theorem Grew.trans {B : Nat} {a b c : World} (h : Grew B a b) (k : Grew B b c) : Grew B a c := ⟨h.1.trans k.1, fun x => (k.2 x).trans (h.2 x)⟩
theorem Grew.mono {B B' : Nat} {w w' : World} (h : Grew B w w') (hB : B' ≤ B) : Grew B' w w' := ⟨h.1.mono hB, h.2⟩
theorem Grew.alloc {B : Nat} {a w : World} (h : Grew B a w) (hB : B ≤ w.heap.size) (c : Array Value) (t : TypeId) : Grew B a (w.alloc (.cells c t)) := ⟨h.1.alloc hB _, fun x => (frozen?_alloc_cells _ _ _ x).trans (h.2 x)⟩
theorem Grew.setCell {B : Nat} {a w : World} (h : Grew B a w) {p : Addr} (hp : B ≤ p.block) (u : Value) : Grew B a (w.setCell p u) := ⟨h.1.setCell hp u, fun x => (World.frozen?_setCell _ _ _ _).trans (h.2 x)⟩
theorem Grew.drew {B : Nat} {a w : World} (h : Grew B a w) : Grew B a w.drew := ⟨h.1.drew, h.2⟩
theorem Grew.drewN {B n : Nat} {a w : World} (h : Grew B a w) : Grew B a (w.drewN n) := ⟨h.1.trans ⟨rfl, rfl, rfl, Nat.le_refl _, fun _ _ => rfl⟩, h.2⟩
theorem Grew.same {B lo hi : Nat} {w w' : World} (h : Grew B w w') (hB : hi ≤ B) : Same lo hi w w' := Same.of_below h.1 hB
theorem Grew.cell {B : Nat} {w w' : World} (h : Grew B w w') {b : Nat} (hb : b < B) (o : Nat) : w'.cell? ⟨b, o, none⟩ = w.cell? ⟨b, o, none⟩ := h.1.cell (p := ⟨b, o, none⟩) hb

theorem adr_off {b b' o o' : Nat} (h : o ≠ o') : (⟨b, o, none⟩ : Addr) ≠ ⟨b', o', none⟩ := fun e => h (congrArg Addr.off e)
theorem adr_block {b b' o o' : Nat} (h : b ≠ b') : (⟨b, o, none⟩ : Addr) ≠ ⟨b', o', none⟩ := fun e => h (congrArg Addr.block e)

theorem frozen_new (w : World) {b : Nat} (h : w.heap.size ≤ b) (o : Nat) : w.frozen? ⟨b, o, none⟩ = false := by
  have : w.heap[b]? = none := by simp [h]
  simp [World.frozen?, this]

/-- Block b has cells 0 to N - 1. -/
def Row (w : World) (b N : Nat) : Prop := ∀ o, o < N → ∃ u, w.cell? ⟨b, o, none⟩ = some u
theorem Row.made (w : World) (C : Array Value) (t : TypeId) (N : Nat) (hN : C.size = N) : Row (w.alloc (.cells C t)) w.heap.size N := by
  intro o ho
  rw [World.cell?_alloc_new]
  exact ⟨C[o], Array.getElem?_eq_getElem (by omega)⟩
theorem Row.setCell {w : World} {b N : Nat} (h : Row w b N) (p : Addr) (v : Value) : Row (w.setCell p v) b N := by
  intro o ho
  obtain ⟨u, hu⟩ := h o ho
  by_cases e : p = ⟨b, o, none⟩
  · subst e; exact ⟨v, World.cell?_setCell_same _ _ _ hu⟩
  · exact ⟨u, by rw [World.cell?_setCell_other _ _ _ _ e]; exact hu⟩
theorem Row.carry {w w' : World} {b N : Nat} (h : Row w b N) (hs : ∀ o, w'.cell? ⟨b, o, none⟩ = w.cell? ⟨b, o, none⟩) : Row w' b N := fun o ho => by rw [hs o]; exact h o ho

/-! ### A '[]string' that is filled -/
structure SInv (w0 : World) (B m : Nat) (ss : List ByteArray) (l : Nat) (wi : World) : Prop where
  grew : Grew B w0 wi
  size : wi.heap.size = B + 1
  row : Row wi B m
  done : ∀ j (h : j < ss.length), j < l → wi.cell? ⟨B, j, none⟩ = some (.string ss[j])

theorem SInv.start (w0 : World) (C : Array Value) (t : TypeId) (m : Nat) (ss : List ByteArray) (hC : C.size = m) : SInv w0 w0.heap.size m ss 0 (w0.alloc (.cells C t)) :=
  ⟨(Grew.refl _ _).alloc (Nat.le_refl _) _ _, by simp, Row.made w0 C t m hC, fun _ _ h => absurd h (Nat.not_lt_zero _)⟩
theorem SInv.step {w0 wi : World} {B m l : Nat} {ss : List ByteArray} (h : SInv w0 B m ss l wi) (hl : l < m) {s : ByteArray} (hs : ss[l]? = some s) : SInv w0 B m ss (l + 1) (wi.setCell ⟨B, l, none⟩ (.string s)) := by
  refine ⟨h.grew.setCell (Nat.le_refl _) _, by simpa using h.size, h.row.setCell _ _, fun j hj hjl => ?_⟩
  by_cases e : j = l
  · subst e
    obtain ⟨u, hu⟩ := h.row j hl
    rw [World.cell?_setCell_same _ _ _ hu]
    rw [List.getElem?_eq_getElem hj] at hs
    simp at hs
    rw [hs]
  · rw [World.cell?_setCell_other _ _ _ _ (adr_off (by omega))]
    exact h.done j hj (by omega)
theorem SInv.strs {w0 wi : World} {B m l : Nat} {ss : List ByteArray} (h : SInv w0 B m ss l wi) (hm : m = ss.length) (hl : m ≤ l) (hn : m ≤ 9223372036854775807) : Strs wi B (B + 1) (.slice (some ⟨B, 0, none⟩) m m) ss := by
  subst hm
  exact ⟨_, _, rfl, hn, fun e => (by cases e), fun j hj => ⟨B, 0, rfl, Nat.le_refl _, by omega, by rw [Nat.zero_add]; exact h.done j hj (by omega)⟩⟩

/-! ### A slice of requirements that is filled -/
structure RInv (w : World) (B n : Nat) (rs : List Req) (k : Nat) (wr : World) : Prop where
  grew : Grew B w wr
  size : B < wr.heap.size
  row : Row wr B (n * 3)
  done : ∀ j (h : j < rs.length), j < k → ReqAt wr (B + 1) wr.heap.size B (j * 3) rs[j]

theorem RInv.start (w : World) (C : Array Value) (t : TypeId) (n : Nat) (rs : List Req) (hC : C.size = n * 3) : RInv w w.heap.size n rs 0 (w.alloc (.cells C t)) :=
  ⟨(Grew.refl _ _).alloc (Nat.le_refl _) _ _, by simp, Row.made w C t _ hC, fun _ _ h => absurd h (Nat.not_lt_zero _)⟩

theorem RInv.step {w wr wi : World} {B n k : Nat} {rs : List Req} (h : RInv w B n rs k wr) (hk : k < n) {r : Req} (hr : rs[k]? = some r) {v : Value}
    (hg : Grew wr.heap.size wr wi) (hv : Strs wi wr.heap.size wi.heap.size v r.vals) :
    RInv w B n rs (k + 1) (((wi.setCell ⟨B, k * 3, none⟩ (.string r.key)).setCell ⟨B, k * 3 + 1, none⟩ (.string r.op)).setCell ⟨B, k * 3 + 2, none⟩ v) := by
  have hsz := hg.1.size
  have hB := h.size
  have rowi : Row wi B (n * 3) := h.row.carry fun o => hg.cell hB o
  have other : ∀ (b o : Nat), b ≠ B → (((wi.setCell ⟨B, k * 3, none⟩ (.string r.key)).setCell ⟨B, k * 3 + 1, none⟩ (.string r.op)).setCell ⟨B, k * 3 + 2, none⟩ v).cell? ⟨b, o, none⟩ = wi.cell? ⟨b, o, none⟩ := by
    intro b o hb
    rw [World.cell?_setCell_other _ _ _ _ (adr_block (Ne.symm hb)), World.cell?_setCell_other _ _ _ _ (adr_block (Ne.symm hb)), World.cell?_setCell_other _ _ _ _ (adr_block (Ne.symm hb))]
  have same : Same (B + 1) wi.heap.size wi (((wi.setCell ⟨B, k * 3, none⟩ (.string r.key)).setCell ⟨B, k * 3 + 1, none⟩ (.string r.op)).setCell ⟨B, k * 3 + 2, none⟩ v) := fun b o h1 _ => other b o (by omega)
  refine ⟨(((h.grew.trans (hg.mono (by omega))).setCell (Nat.le_refl _) _).setCell (Nat.le_refl _) _).setCell (Nat.le_refl _) _, by simp; omega, ((rowi.setCell _ _).setCell _ _).setCell _ _, fun j hj hjk => ?_⟩
  by_cases e : j = k
  · subst e
    rw [List.getElem?_eq_getElem hj] at hr
    simp at hr
    rw [hr]
    obtain ⟨u0, h0⟩ := rowi (j * 3) (by omega)
    obtain ⟨u1, h1⟩ := (rowi.setCell ⟨B, j * 3, none⟩ (.string r.key)) (j * 3 + 1) (by omega)
    obtain ⟨u2, h2⟩ := ((rowi.setCell ⟨B, j * 3, none⟩ (.string r.key)).setCell ⟨B, j * 3 + 1, none⟩ (.string r.op)) (j * 3 + 2) (by omega)
    refine ⟨?_, ?_, v, ?_, ?_⟩
    · rw [World.cell?_setCell_other _ _ _ _ (by simp), World.cell?_setCell_other _ _ _ _ (by simp)]
      exact World.cell?_setCell_same _ _ _ h0
    · rw [World.cell?_setCell_other _ _ _ _ (by simp)]
      exact World.cell?_setCell_same _ _ _ h1
    · exact World.cell?_setCell_same _ _ _ h2
    · exact hv.carry (same.mono (by omega) (Nat.le_refl _)) (by omega) (by simp)
  · have h1 := h.done j hj (by omega)
    have hoff : ∀ i, i < 3 → (((wi.setCell ⟨B, k * 3, none⟩ (.string r.key)).setCell ⟨B, k * 3 + 1, none⟩ (.string r.op)).setCell ⟨B, k * 3 + 2, none⟩ v).cell? ⟨B, j * 3 + i, none⟩ = wr.cell? ⟨B, j * 3 + i, none⟩ := by
      intro i hi
      rw [World.cell?_setCell_other _ _ _ _ (adr_off (by omega)), World.cell?_setCell_other _ _ _ _ (adr_off (by omega)), World.cell?_setCell_other _ _ _ _ (adr_off (by omega))]
      exact hg.cell hB _
    obtain ⟨a0, a1, u, a2, a3⟩ := h1
    have e0 := hoff 0 (by omega)
    simp only [Nat.add_zero] at e0
    refine ⟨by rw [e0]; exact a0, by rw [hoff 1 (by omega)]; exact a1, u, by rw [hoff 2 (by omega)]; exact a2, ?_⟩
    refine Strs.carry (w := wr) a3 (fun b o l1 l2 => ?_) (Nat.le_refl _) (by simp; omega)
    rw [other b o (by omega)]
    exact hg.cell l2 o

theorem RInv.drew {w wr : World} {B n k : Nat} {rs : List Req} (h : RInv w B n rs k wr) : RInv w B n rs k wr.drew := ⟨h.grew.drew, h.size, h.row, fun j hj hk => (h.done j hj hk).carry (fun _ _ _ _ => rfl) (Nat.le_refl _) (Nat.le_refl _) fun _ => rfl⟩
theorem Strs.nil (w : World) (lo hi : Nat) {ss : List ByteArray} (h : ss = []) : Strs w lo hi (.slice none 0 0) ss := by
  subst h
  exact ⟨none, 0, rfl, Nat.zero_le _, fun _ => rfl, fun j hj => absurd hj (Nat.not_lt_zero _)⟩

/-- A slice of requirements in new memory: at a block's head, without spare. -/
def ReqsNew (w : World) (lo hi : Nat) (v : Value) (rs : List Req) : Prop :=
  ∃ ao : Option Addr, v = .slice ao rs.length rs.length ∧ rs.length ≤ 1048576 ∧ (ao = none → rs = []) ∧ (∀ a, ao = some a → ∃ b, a = ⟨b, 0, none⟩ ∧ lo ≤ b ∧ b < hi) ∧
    ∀ j (h : j < rs.length), ∃ b, ao = some ⟨b, 0, none⟩ ∧ lo ≤ b ∧ b < hi ∧ ReqAt w lo hi b (j * 3) rs[j]

theorem RInv.new {w wr : World} {B n k : Nat} {rs : List Req} (h : RInv w B n rs k wr) (hn : n = rs.length) (hk : n ≤ k) (hl : n ≤ 1048576) : ReqsNew wr B wr.heap.size (.slice (some ⟨B, 0, none⟩) n n) rs := by
  subst hn
  have hB := h.size
  refine ⟨_, rfl, hl, fun e => (by cases e), fun a e => ⟨B, by simpa using e.symm, Nat.le_refl _, hB⟩, fun j hj => ⟨B, rfl, Nat.le_refl _, hB, ?_⟩⟩
  exact (h.done j hj (by omega)).carry Same.refl (by omega) (Nat.le_refl _) fun _ => rfl
theorem ReqsNew.nil (w : World) (lo hi : Nat) : ReqsNew w lo hi (.slice none 0 0) [] := ⟨none, rfl, Nat.zero_le _, fun _ => rfl, fun a e => (by cases e), fun j hj => absurd hj (Nat.not_lt_zero _)⟩
theorem ReqsNew.reqs {w : World} {lo hi : Nat} {v : Value} {rs : List Req} (h : ReqsNew w lo hi v rs) : Reqs w lo hi v rs := by
  obtain ⟨ao, hv, hl, h0, _, hc⟩ := h
  refine ⟨ao, _, hv, by omega, h0, fun j hj => ?_⟩
  obtain ⟨b, ha, h1, h2, h3⟩ := hc j hj
  exact ⟨b, 0, ha, h1, h2, by rw [Nat.zero_add]; exact h3⟩
theorem ReqsNew.carry {w w' : World} {lo hi lo' hi' : Nat} {v : Value} {rs : List Req} (h : ReqsNew w lo hi v rs) (hs : Same lo hi w w') (hl : lo' ≤ lo) (hh : hi ≤ hi') : ReqsNew w' lo' hi' v rs := by
  obtain ⟨ao, hv, hn, h0, ha, hc⟩ := h
  refine ⟨ao, hv, hn, h0, fun a e => ?_, fun j hj => ?_⟩
  · obtain ⟨b, e', h1, h2⟩ := ha a e
    exact ⟨b, e', by omega, by omega⟩
  · obtain ⟨b, ha, h1, h2, h3⟩ := hc j hj
    exact ⟨b, ha, by omega, by omega, h3.carry hs hl hh (fun i => hs b i h1 h2)⟩

/-! ### A slice of terms that is filled -/
def TermNewAt (w : World) (lo hi b o : Nat) (t : Term) : Prop :=
  ∃ v0 v1, w.cell? ⟨b, o, none⟩ = some v0 ∧ w.cell? ⟨b, o + 1, none⟩ = some v1 ∧ ReqsNew w lo hi v0 t.1 ∧ ReqsNew w lo hi v1 t.2
theorem TermNewAt.carry {w w' : World} {lo hi lo' hi' b o : Nat} {t : Term} (h : TermNewAt w lo hi b o t) (hs : Same lo hi w w') (hl : lo' ≤ lo) (hh : hi ≤ hi') (h0 : w'.cell? ⟨b, o, none⟩ = w.cell? ⟨b, o, none⟩) (h1 : w'.cell? ⟨b, o + 1, none⟩ = w.cell? ⟨b, o + 1, none⟩) : TermNewAt w' lo' hi' b o t := by
  obtain ⟨v0, v1, a0, a1, a2, a3⟩ := h
  exact ⟨v0, v1, by rw [h0]; exact a0, by rw [h1]; exact a1, a2.carry hs hl hh, a3.carry hs hl hh⟩
theorem TermNewAt.term {w : World} {lo hi b o : Nat} {t : Term} (h : TermNewAt w lo hi b o t) : TermAt w lo hi b o t := by
  obtain ⟨v0, v1, a0, a1, a2, a3⟩ := h
  exact ⟨v0, v1, a0, a1, a2.reqs, a3.reqs⟩

structure TInv (w : World) (B n : Nat) (ts : List Term) (k : Nat) (wr : World) : Prop where
  grew : Grew B w wr
  size : B < wr.heap.size
  row : Row wr B (n * 2)
  done : ∀ j (h : j < ts.length), j < k → TermNewAt wr (B + 1) wr.heap.size B (j * 2) ts[j]

theorem TInv.start (w : World) (C : Array Value) (t : TypeId) (n : Nat) (ts : List Term) (hC : C.size = n * 2) : TInv w w.heap.size n ts 0 (w.alloc (.cells C t)) :=
  ⟨(Grew.refl _ _).alloc (Nat.le_refl _) _ _, by simp, Row.made w C t _ hC, fun _ _ h => absurd h (Nat.not_lt_zero _)⟩

theorem TInv.step {w wr w1 w2 : World} {B n k : Nat} {ts : List Term} (h : TInv w B n ts k wr) (hk : k < n) {t : Term} (ht : ts[k]? = some t) {v0 v1 : Value}
    (g1 : Grew wr.heap.size wr w1) (n1 : ReqsNew w1 wr.heap.size w1.heap.size v0 t.1) (g2 : Grew w1.heap.size w1 w2) (n2 : ReqsNew w2 w1.heap.size w2.heap.size v1 t.2) :
    TInv w B n ts (k + 1) ((w2.setCell ⟨B, k * 2, none⟩ v0).setCell ⟨B, k * 2 + 1, none⟩ v1) := by
  have s1 := g1.1.size
  have s2 := g2.1.size
  have hB := h.size
  have g : Grew wr.heap.size wr w2 := g1.trans (g2.mono s1)
  have row2 : Row w2 B (n * 2) := h.row.carry fun o => g.cell hB o
  have other : ∀ (b o : Nat), b ≠ B → ((w2.setCell ⟨B, k * 2, none⟩ v0).setCell ⟨B, k * 2 + 1, none⟩ v1).cell? ⟨b, o, none⟩ = w2.cell? ⟨b, o, none⟩ := by
    intro b o hb
    rw [World.cell?_setCell_other _ _ _ _ (adr_block (Ne.symm hb)), World.cell?_setCell_other _ _ _ _ (adr_block (Ne.symm hb))]
  have same : Same (B + 1) w2.heap.size w2 ((w2.setCell ⟨B, k * 2, none⟩ v0).setCell ⟨B, k * 2 + 1, none⟩ v1) := fun b o h1 _ => other b o (by omega)
  refine ⟨((h.grew.trans (g.mono (by omega))).setCell (Nat.le_refl _) _).setCell (Nat.le_refl _) _, by simp; omega, (row2.setCell _ _).setCell _ _, fun j hj hjk => ?_⟩
  by_cases e : j = k
  · subst e
    rw [List.getElem?_eq_getElem hj] at ht
    simp at ht
    rw [ht]
    obtain ⟨u0, h0⟩ := row2 (j * 2) (by omega)
    obtain ⟨u1, h1⟩ := (row2.setCell ⟨B, j * 2, none⟩ v0) (j * 2 + 1) (by omega)
    refine ⟨v0, v1, ?_, World.cell?_setCell_same _ _ _ h1, ?_, ?_⟩
    · rw [World.cell?_setCell_other _ _ _ _ (adr_off (by omega))]
      exact World.cell?_setCell_same _ _ _ h0
    · exact (n1.carry (w' := w2) (fun b o _ l2 => g2.cell l2 o) (Nat.le_refl _) s2).carry (same.mono (by omega) (Nat.le_refl _)) (by omega) (by simp)
    · exact n2.carry (same.mono (by omega) (Nat.le_refl _)) (by omega) (by simp)
  · have h1 := h.done j hj (by omega)
    have hoff : ∀ i, i < 2 → ((w2.setCell ⟨B, k * 2, none⟩ v0).setCell ⟨B, k * 2 + 1, none⟩ v1).cell? ⟨B, j * 2 + i, none⟩ = wr.cell? ⟨B, j * 2 + i, none⟩ := by
      intro i hi
      rw [World.cell?_setCell_other _ _ _ _ (adr_off (by omega)), World.cell?_setCell_other _ _ _ _ (adr_off (by omega))]
      exact g.cell hB _
    have e0 := hoff 0 (by omega)
    simp only [Nat.add_zero] at e0
    refine h1.carry (fun b o l1 l2 => ?_) (Nat.le_refl _) (by simp; omega) e0 (hoff 1 (by omega))
    rw [other b o (by omega)]
    exact g.cell l2 o
theorem TInv.drew {w wr : World} {B n k : Nat} {ts : List Term} (h : TInv w B n ts k wr) : TInv w B n ts k wr.drew := ⟨h.grew.drew, h.size, h.row, fun j hj hk => (h.done j hj hk).carry (fun _ _ _ _ => rfl) (Nat.le_refl _) (Nat.le_refl _) rfl rfl⟩

/-- A slice of terms in new memory: at a block's head, without spare, all that it leads to in later blocks. -/
def TermsNew (w : World) (lo hi : Nat) (v : Value) (ts : List Term) : Prop :=
  ∃ ao : Option Addr, v = .slice ao ts.length ts.length ∧ ts.length ≤ 1048576 ∧ (ao = none → ts = []) ∧ (∀ a, ao = some a → ∃ b, a = ⟨b, 0, none⟩ ∧ lo ≤ b ∧ b < hi) ∧
    ∀ j (h : j < ts.length), ∃ b, ao = some ⟨b, 0, none⟩ ∧ lo ≤ b ∧ b < hi ∧ TermNewAt w (b + 1) hi b (j * 2) ts[j]
theorem TInv.new {w wr : World} {B n k : Nat} {ts : List Term} (h : TInv w B n ts k wr) (hn : n = ts.length) (hk : n ≤ k) (hl : n ≤ 1048576) : TermsNew wr B wr.heap.size (.slice (some ⟨B, 0, none⟩) n n) ts := by
  subst hn
  have hB := h.size
  exact ⟨_, rfl, hl, fun e => (by cases e), fun a e => ⟨B, by simpa using e.symm, Nat.le_refl _, hB⟩, fun j hj => ⟨B, rfl, Nat.le_refl _, hB, h.done j hj (by omega)⟩⟩
theorem TermsNew.nil (w : World) (lo hi : Nat) : TermsNew w lo hi (.slice none 0 0) [] := ⟨none, rfl, Nat.zero_le _, fun _ => rfl, fun a e => (by cases e), fun j hj => absurd hj (Nat.not_lt_zero _)⟩
theorem TermsNew.terms {w : World} {lo hi : Nat} {v : Value} {ts : List Term} (h : TermsNew w lo hi v ts) : Terms w lo hi v ts := by
  obtain ⟨ao, hv, hl, h0, _, hc⟩ := h
  refine ⟨ao, _, hv, by omega, h0, fun j hj => ?_⟩
  obtain ⟨b, ha, h1, h2, h3⟩ := hc j hj
  exact ⟨b, 0, ha, h1, h2, by rw [Nat.zero_add]; exact h3.term.carry Same.refl (by omega) (Nat.le_refl _) fun _ => rfl⟩
theorem TermsNew.carry {w w' : World} {lo hi lo' hi' : Nat} {v : Value} {ts : List Term} (h : TermsNew w lo hi v ts) (hs : Same lo hi w w') (hl : lo' ≤ lo) (hh : hi ≤ hi') : TermsNew w' lo' hi' v ts := by
  obtain ⟨ao, hv, hn, h0, ha, hc⟩ := h
  refine ⟨ao, hv, hn, h0, fun a e => ?_, fun j hj => ?_⟩
  · obtain ⟨b, e', h1, h2⟩ := ha a e
    exact ⟨b, e', by omega, by omega⟩
  · obtain ⟨b, ha, h1, h2, h3⟩ := hc j hj
    exact ⟨b, ha, by omega, by omega, h3.carry (hs.mono (by omega) (Nat.le_refl _)) (Nat.le_refl _) hh (hs b _ h1 h2) (hs b _ h1 h2)⟩

/-- What the statement 'terms[i] = ..' keeps while it runs: below B all is as it was at the round's head; no block is gone. -/
def Base (B : Nat) (wo w' : World) : Prop := Grew B wo w' ∧ wo.heap.size ≤ w'.heap.size
theorem Base.start (B : Nat) (wo : World) : Base B wo wo.drew := ⟨(Grew.refl _ _).drew, Nat.le_refl _⟩
theorem Base.call {B : Nat} {wo W w1 : World} (h : Base B wo W) (hB : B ≤ wo.heap.size) (g : Grew W.heap.size W w1) : Base B wo w1 := ⟨h.1.trans (g.mono (by have := h.2; omega)), Nat.le_trans h.2 g.1.size⟩
theorem Base.set {B : Nat} {wo W : World} (h : Base B wo W) (o : Nat) (v : Value) : Base B wo (W.setCell ⟨B, o, none⟩ v) := ⟨h.1.setCell (Nat.le_refl _) _, by simpa using h.2⟩
theorem Base.cell {B : Nat} {wo w' : World} (h : Base B wo w') {b : Nat} (hb : b < B) (o : Nat) : w'.cell? ⟨b, o, none⟩ = wo.cell? ⟨b, o, none⟩ := h.1.cell hb o
end Go.Proofs.Qxb6627374a
