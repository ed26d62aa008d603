/-
  WHAT THE TWO LAWS SHARE AT THEIR ENDS: Equal in worlds that part by draws alone.
-/
import Derived.Test.Qxb6627374aEqual2
import Derived.Test.Qxb6627374aBytes5
import Derived.Test.Qxb6627374aChange
namespace Go.Proofs.Qxb6627374a
open Go.RowKit

/-- Y is X after some draws. -/
def Al (X Y : World) : Prop := ∃ m, Y = X.drewN m
theorem Al.refl (X : World) : Al X X := ⟨0, rfl⟩
theorem Al.below {B : Nat} {X Y : World} (h : Al X Y) : Below B X Y := by
  obtain ⟨m, rfl⟩ := h
  exact ⟨rfl, rfl, rfl, Nat.le_refl _, fun _ _ => rfl⟩
theorem Al.same {X Y : World} (h : Al X Y) {lo hi : Nat} : Same lo hi X Y := by
  obtain ⟨m, rfl⟩ := h
  exact fun _ _ _ _ => rfl
theorem Aff.carry {w w' : World} {lo hi lo' hi' b : Nat} {ts : List Term} (h : Aff w lo hi b ts) (hs : Same lo hi w w') (hc : w'.cell? ⟨b, 0, none⟩ = w.cell? ⟨b, 0, none⟩) (hl : lo' ≤ lo) (hh : hi ≤ hi') : Aff w' lo' hi' b ts := by
  obtain ⟨v, h1, h2⟩ := h
  exact ⟨v, by rw [hc]; exact h1, h2.carry hs hl hh⟩
theorem Aff.al {X Y : World} {lo hi b : Nat} {ts : List Term} (h : Aff X lo hi b ts) (ha : Al X Y) : Aff Y lo hi b ts :=
  h.carry ha.same (by obtain ⟨m, rfl⟩ := ha; rfl) (Nat.le_refl _) (Nat.le_refl _)

theorem eq_al {X : World} {b1 b2 lo hi lo' hi' : Nat} {s1 s2 : List Term} (h1 : Aff X lo hi b1 s1) (h2 : Aff X lo' hi' b2 s2) {r : Bool} (hr : tsEq s1 s2 = r) (Y : World) (hY : Al X Y) :
    Calls Try.prog 10 #[.pointer (some ⟨b1, 0, none⟩), .pointer (some ⟨b2, 0, none⟩)] Y fun e w' => e = .returned (.bool r) ∧ Al X w' := by
  refine (eq_any b1 b2 s1 s2 lo hi lo' hi' Y (h1.al hY) (h2.al hY)).mono ?_
  rintro e w' ⟨rfl, k, rfl⟩
  obtain ⟨m, rfl⟩ := hY
  exact ⟨by rw [hr], m + k, World.drewN_drewN _ _ _⟩
theorem eqNN_al (X Y : World) (hY : Al X Y) : Calls Try.prog 10 #[.pointer none, .pointer none] Y fun e w' => e = .returned (.bool true) ∧ Al X w' := by
  refine (eq_nil_nil Y).mono ?_
  rintro e w' ⟨rfl, k, rfl⟩
  obtain ⟨m, rfl⟩ := hY
  exact ⟨rfl, m + k, World.drewN_drewN _ _ _⟩
theorem eqNP_al (b : Nat) (X Y : World) (hY : Al X Y) : Calls Try.prog 10 #[.pointer none, .pointer (some ⟨b, 0, none⟩)] Y fun e w' => e = .returned (.bool false) ∧ Al X w' := by
  refine (eq_nil_ptr b Y).mono ?_
  rintro e w' ⟨rfl, k, rfl⟩
  obtain ⟨m, rfl⟩ := hY
  exact ⟨rfl, m + k, World.drewN_drewN _ _ _⟩
theorem eqPN_al (b : Nat) (X Y : World) (hY : Al X Y) : Calls Try.prog 10 #[.pointer (some ⟨b, 0, none⟩), .pointer none] Y fun e w' => e = .returned (.bool false) ∧ Al X w' := by
  refine (eq_ptr_nil b Y).mono ?_
  rintro e w' ⟨rfl, k, rfl⟩
  obtain ⟨m, rfl⟩ := hY
  exact ⟨rfl, m + k, World.drewN_drewN _ _ _⟩
theorem tsEq_self (ts : List Term) : tsEq ts ts = true := (tsEq_iff ts ts).2 rfl
theorem tsEq_ne {s t : List Term} (h : s ≠ t) : tsEq s t = false := by
  cases e : tsEq s t
  · rfl
  · exact absurd ((tsEq_iff s t).1 e) h

/-- zzAffinity's post, as Aff. -/
theorem AffPost.aff {ts : List Term} {w w' : World} {e : Ending} (h : AffPost ts w e w') : ∃ bA v, e = .returned (.pointer (some ⟨bA, 0, none⟩)) ∧ Grew w.heap.size w w' ∧ w.heap.size ≤ bA ∧ w'.heap.size = bA + 1 ∧ w'.cell? ⟨bA, 0, none⟩ = some v ∧ TermsNew w' w.heap.size bA v ts := h

/-- What stands behind the three builds: two copies in blocks below s2, a third from s2 on, behind the pointer to block b3, the last. -/
structure Built (w0 w3 : World) (b1 b2 b3 s2 : Nat) (v3 : Value) (ts : List Term) : Prop where
  grew : Grew w0.heap.size w0 w3
  from0 : w0.heap.size ≤ s2
  a1 : Aff w3 0 s2 b1 ts
  l1 : b1 < s2
  a2 : Aff w3 0 s2 b2 ts
  l2 : b2 < s2
  l3 : s2 ≤ b3
  size : w3.heap.size = b3 + 1
  cell : w3.cell? ⟨b3, 0, none⟩ = some v3
  new : TermsNew w3 s2 b3 v3 ts
theorem Built.thaw {w0 w3 : World} {b1 b2 b3 s2 : Nat} {v3 : Value} {ts : List Term} (h : Built w0 w3 b1 b2 b3 s2 v3 ts) {b : Nat} (hb : s2 ≤ b) (o : Nat) : w3.frozen? ⟨b, o, none⟩ = false :=
  (h.grew.2 _).trans (frozen_new w0 (Nat.le_trans h.from0 hb) o)

theorem built {w0 w1 w2 w3 : World} {b1 b2 b3 : Nat} {v1 v2 v3 : Value} {ts : List Term}
    (G1 : Grew w0.heap.size w0 w1) (l1 : w0.heap.size ≤ b1) (z1 : w1.heap.size = b1 + 1) (c1 : w1.cell? ⟨b1, 0, none⟩ = some v1) (n1 : TermsNew w1 w0.heap.size b1 v1 ts)
    (G2 : Grew w1.heap.size w1 w2) (l2 : w1.heap.size ≤ b2) (z2 : w2.heap.size = b2 + 1) (c2 : w2.cell? ⟨b2, 0, none⟩ = some v2) (n2 : TermsNew w2 w1.heap.size b2 v2 ts)
    (G3 : Grew w2.heap.size w2 w3) (l3 : w2.heap.size ≤ b3) (z3 : w3.heap.size = b3 + 1) (c3 : w3.cell? ⟨b3, 0, none⟩ = some v3) (n3 : TermsNew w3 w2.heap.size b3 v3 ts) :
    Built w0 w3 b1 b2 b3 w2.heap.size v3 ts := by
  have g13 : Grew w1.heap.size w1 w3 := G2.trans (G3.mono (by omega))
  refine ⟨G1.trans (g13.mono (by omega)), by omega, ?_, by omega, ?_, by omega, l3, z3, c3, n3⟩
  · exact ⟨v1, (g13.cell (by omega) 0).trans c1, n1.terms.carry (fun b o _ h2 => g13.cell (by omega) o) (Nat.zero_le _) (by omega)⟩
  · exact ⟨v2, (G3.cell (by omega) 0).trans c2, n2.terms.carry (fun b o _ h2 => G3.cell (by omega) o) (Nat.zero_le _) (by omega)⟩

/-- Behind the change: the first two copies as they were; the third reads as another list. -/
structure Changed (w0 X : World) (b1 b2 b3 : Nat) (ts : List Term) : Prop where
  below : Below w0.heap.size w0 X
  a1 : ∃ lo hi, Aff X lo hi b1 ts
  a2 : ∃ lo hi, Aff X lo hi b2 ts
  a3 : ∃ lo hi ts', ts' ≠ ts ∧ Aff X lo hi b3 ts'
theorem Built.changed {w0 w3 X : World} {b1 b2 b3 s2 : Nat} {v3 : Value} {ts ts' : List Term} (h : Built w0 w3 b1 b2 b3 s2 v3 ts) (hb : Below s2 w3 X) {lo hi : Nat} (hne : ts' ≠ ts) (ha : Aff X lo hi b3 ts') : Changed w0 X b1 b2 b3 ts :=
  ⟨h.grew.1.trans (hb.mono h.from0), ⟨_, _, h.a1.carry (Same.of_below hb (Nat.le_refl _)) (hb.cell (p := ⟨b1, 0, none⟩) h.l1) (Nat.le_refl _) (Nat.le_refl _)⟩,
    ⟨_, _, h.a2.carry (Same.of_below hb (Nat.le_refl _)) (hb.cell (p := ⟨b2, 0, none⟩) h.l2) (Nat.le_refl _) (Nat.le_refl _)⟩, ⟨lo, hi, ts', hne, ha⟩⟩

/-- The block in which the appended term first lies. -/
def addTerm : Obj := .cells #[.slice none 0 0, .slice none 0 0] 39

/-- The terms' cells, as the law on 'append' wants them. -/
theorem TermsNew.olds {w : World} {lo hi : Nat} {ts : List Term} {ao : Option Addr} (h : TermsNew w lo hi (.slice ao ts.length ts.length) ts) (hhi : hi ≤ w.heap.size) (o : Obj) :
    ∃ b0, (ao = none → ts.length = 0 ∧ ts.length = 0) ∧ (∀ a, ao = some a → a = ⟨b0, 0, none⟩) ∧ (∀ b, ao = some b → ∀ j u, (cellList (w.alloc o) b0 0 (ts.length * 2))[j]? = some u → (w.alloc o).cell? (b.add j) = some u) := by
  have hr' : Terms (w.alloc o) lo hi (.slice ao ts.length ts.length) ts := h.terms.carry (fun b o' _ h2 => World.cell?_alloc_lt _ _ _ (by show b < _; omega)) (Nat.le_refl _) (Nat.le_refl _)
  obtain ⟨ao', e0, hl, h0, ha, hc⟩ := h
  simp only [Value.slice.injEq] at e0
  obtain ⟨rfl, _⟩ := e0
  obtain ⟨b0, hb0⟩ : ∃ b0 : Nat, ∀ a, ao = some a → a = ⟨b0, 0, none⟩ := by
    cases ao with
    | none => exact ⟨0, fun a e => (by cases e)⟩
    | some a =>
      obtain ⟨b, e, _⟩ := ha a rfl
      exact ⟨b, fun a' e' => by rw [← e]; simpa using e'.symm⟩
  refine ⟨b0, fun e => by rw [h0 e]; exact ⟨rfl, rfl⟩, hb0, fun b e j u hu => ?_⟩
  rw [hb0 b e, Addr.add_lit]
  refine cellList_cell (fun o' ho => ?_) j u hu
  obtain ⟨_, _, e1, _, _, hc'⟩ := hr'
  simp only [Value.slice.injEq] at e1
  obtain ⟨rfl, _⟩ := e1
  obtain ⟨b, off, e2, _, _, u0, u1, x1, x2, _⟩ := hc' (o' / 2) (by omega)
  have e3 := hb0 _ e2
  simp only [Addr.mk.injEq] at e3
  obtain ⟨rfl, rfl, _⟩ := e3
  rcases (show o' % 2 = 0 ∨ o' % 2 = 1 by omega) with e | e
  · exact ⟨_, by rw [show 0 + o' = 0 + o' / 2 * 2 by omega]; exact x1⟩
  · exact ⟨_, by rw [show 0 + o' = 0 + o' / 2 * 2 + 1 by omega]; exact x2⟩

/-- A term is appended and stored back. -/
theorem Built.appended {w0 w3 w4 : World} {b1 b2 b3 s2 b0 : Nat} {v' : Value} {ts : List Term} {ao : Option Addr} (h : Built w0 w3 b1 b2 b3 s2 (.slice ao ts.length ts.length) ts) (hb0 : ∀ a, ao = some a → a = ⟨b0, 0, none⟩)
    (own : w4.ownsRow (w3.heap.size + 1) 39 2 v' (ts.length + 1) (cellList (w3.alloc addTerm) b0 0 (ts.length * 2) ++ [.slice none 0 0, .slice none 0 0])) (hg : (w3.alloc addTerm).grownBy w4 none) :
    ∃ g cap' u, v' = .slice (some ⟨g, 0, none⟩) (ts.length + 1) cap' ∧ w4.cell? ⟨b3, 0, none⟩ = some u ∧ w4.frozen? ⟨b3, 0, none⟩ = false ∧ Changed w0 (w4.setCell ⟨b3, 0, none⟩ (.slice (some ⟨g, 0, none⟩) (ts.length + 1) cap')) b1 b2 b3 ts := by
  have hsz := h.size
  have hl3 := h.l3
  have b34 : Below (w3.heap.size + 1) (w3.alloc addTerm) w4 := (Below.refl _ _).grown hg (by simp) (fun k e => by cases e)
  have b3w : Below w3.heap.size w3 w4 := ((Below.refl _ _).alloc (Nat.le_refl _) _).trans (b34.mono (by omega))
  have hT : Terms (w3.alloc addTerm) s2 b3 (.slice ao ts.length ts.length) ts := h.new.terms.carry (fun b o' _ h2 => World.cell?_alloc_lt _ _ _ (by show b < _; omega)) (Nat.le_refl _) (Nat.le_refl _)
  obtain ⟨g, cap', rfl, l1, l2, hc⟩ := hT.append rfl hb0 b34 (by omega) own
  have c3 : w4.cell? ⟨b3, 0, none⟩ = some (.slice ao ts.length ts.length) := (b3w.cell (p := ⟨b3, 0, none⟩) (by show b3 < _; omega)).trans h.cell
  have hf : w4.frozen? ⟨b3, 0, none⟩ = false := (b3w.frozen (p := ⟨b3, 0, none⟩) (by show b3 < _; omega)).trans (h.thaw hl3 0)
  refine ⟨g, cap', _, rfl, c3, hf, h.changed (lo := s2) (hi := w4.heap.size) (ts' := ts ++ [([], [])]) ((b3w.mono (by omega)).setCell (by exact hl3) _) (fun e => by have := congrArg List.length e; simp at this) ?_⟩
  refine ⟨_, World.cell?_setCell_same _ _ _ c3, ⟨some ⟨g, 0, none⟩, cap', by simp, by have := hT.len; obtain ⟨_, _, _, _⟩ := this; have := h.new; obtain ⟨_, _, hh, _⟩ := this; simp; omega, fun e => (by cases e), fun j hj => ⟨g, 0, rfl, by omega, l2, ?_⟩⟩⟩
  rw [Nat.zero_add]
  refine (hc j hj).carry (fun b o _ h2 => ?_) (Nat.le_refl _) (by have := b3w.size; omega) (fun i => ?_)
  · exact World.cell?_setCell_other _ _ _ _ (adr_block (by omega))
  · exact World.cell?_setCell_other _ _ _ _ (adr_block (by omega))
end Go.Proofs.Qxb6627374a
