/-
  THE THIRD COPY CHANGED INSIDE A TERM: what it reads as then. (Fields and expressions alike: written by program.)
-/
import Derived.Test.Qxb6627374aTail
namespace Go.Proofs.Qxb6627374a
open Go.RowKit

theorem key_longer (key s : ByteArray) : key ++ ⟨#[35]⟩ ++ s ≠ key := by
  intro e
  have := congrArg ByteArray.size e
  simp only [ByteArray.size_append] at this
  have h1 : (⟨#[35]⟩ : ByteArray).size = 1 := rfl
  omega

/-- The terms' array, its k-th term and that term's slice 0. -/
structure Spot0 (w3 : World) (b3 s2 bT k bS : Nat) (aS : Option Addr) (ts : List Term) (rs : List Req) : Prop where
  lo : s2 ≤ bT
  hi : bT < b3
  lt : k < ts.length
  cell : w3.cell? ⟨bT, k * 2, none⟩ = some (.slice aS rs.length rs.length)
  term : ts[k]?.map Prod.fst = some rs
  adr : ∀ a, aS = some a → a = ⟨bS, 0, none⟩ ∧ bT < bS ∧ bS < b3
  new : ReqsNew w3 (bT + 1) b3 (.slice aS rs.length rs.length) rs

theorem spot0 {w0 w3 : World} {b1 b2 b3 s2 : Nat} {ts : List Term} {ao : Option Addr} (h : Built w0 w3 b1 b2 b3 s2 (.slice ao ts.length ts.length) ts) {k : Nat} (hk : k < ts.length) :
    ∃ bT bS aS rs, ao = some ⟨bT, 0, none⟩ ∧ Spot0 w3 b3 s2 bT k bS aS ts rs := by
  have hn := h.new
  obtain ⟨ao', e, _, _, _, hc⟩ := hn
  simp only [Value.slice.injEq] at e
  obtain ⟨rfl, _⟩ := e
  obtain ⟨bT, rfl, l1, l2, v0, v1, a0, a1, n0, n1⟩ := hc k hk
  have n := n0
  obtain ⟨aS, rfl, _, _, ha, _⟩ := n
  obtain ⟨bS, hbS⟩ : ∃ bS : Nat, ∀ a, aS = some a → a = ⟨bS, 0, none⟩ ∧ bT < bS ∧ bS < b3 := by
    cases aS with
    | none => exact ⟨0, fun a e => (by cases e)⟩
    | some a =>
      obtain ⟨b, e, q1, q2⟩ := ha a rfl
      exact ⟨b, fun a' e' => ⟨by rw [← e]; simpa using e'.symm, by omega, q2⟩⟩
  exact ⟨bT, bS, aS, ts[k].1, rfl, l1, l2, hk, a0, by rw [List.getElem?_eq_getElem hk]; rfl, hbS, n0⟩

/-- The key of requirement q is changed; the same slice is stored again. -/
theorem Built.keyed0 {w0 w3 w4 : World} {b1 b2 b3 s2 bT k bS q : Nat} {ts : List Term} {rs : List Req} {key s : ByteArray} (h : Built w0 w3 b1 b2 b3 s2 (.slice (some ⟨bT, 0, none⟩) ts.length ts.length) ts) (sp : Spot0 w3 b3 s2 bT k bS (some ⟨bS, 0, none⟩) ts rs)
    (hq : q < rs.length) (hc : w3.cell? ⟨bS, q * 3, none⟩ = some (.string key)) (hkey : rs[q]?.map Req.key = some key) (hw : w4 = w3.drew.setCell ⟨bS, q * 3, none⟩ (.string (key ++ ⟨#[35]⟩ ++ s))) :
    w4.cell? ⟨b3, 0, none⟩ = some (.slice (some ⟨bT, 0, none⟩) ts.length ts.length) ∧ w4.cell? ⟨bT, k * 2, none⟩ = some (.slice (some ⟨bS, 0, none⟩) rs.length rs.length) ∧ w4.frozen? ⟨bT, k * 2, none⟩ = false ∧
      Changed w0 (w4.setCell ⟨bT, k * 2, none⟩ (.slice (some ⟨bS, 0, none⟩) rs.length rs.length)) b1 b2 b3 ts := by
  obtain ⟨_, lS, lS'⟩ := sp.adr _ rfl
  have l1 := sp.lo
  have l2 := sp.hi
  have hcd : w3.drew.cell? ⟨bS, q * 3, none⟩ = some (.string key) := hc
  have e3 : w4.cell? ⟨b3, 0, none⟩ = some (.slice (some ⟨bT, 0, none⟩) ts.length ts.length) := by rw [hw]; exact cell_slice hcd _ h.cell
  have eT : w4.cell? ⟨bT, k * 2, none⟩ = some (.slice (some ⟨bS, 0, none⟩) rs.length rs.length) := by rw [hw]; exact cell_slice hcd _ sp.cell
  have hf : w4.frozen? ⟨bT, k * 2, none⟩ = false := by rw [hw, World.frozen?_setCell]; exact h.thaw l1 _
  refine ⟨e3, eT, hf, ?_⟩
  have hT : Terms w3.drew s2 b3 (.slice (some ⟨bT, 0, none⟩) ts.length ts.length) ts := h.new.terms.carry (fun _ _ _ _ => rfl) (Nat.le_refl _) (Nat.le_refl _)
  obtain ⟨ts', hl, hT', hk'⟩ := hT.reset (x := key ++ ⟨#[35]⟩ ++ s) hcd
  have hb : Below s2 w3 w4 := by rw [hw]; exact ((Below.refl _ _).drew).setCell (by show s2 ≤ bS; omega) _
  have hlt' : k < ts'.length := by rw [hl]; exact sp.lt
  have got := (hk' k hlt' sp.lt bT 0 _ _ rfl).1 q bS 0 _ _ (by rw [Nat.zero_add]; exact sp.cell) (by rw [Nat.zero_add]) (by
    have := sp.term; rw [List.getElem?_eq_getElem sp.lt] at this; simp only [Option.map_some, Option.some.injEq] at this; rw [this]; exact hq)
  refine h.changed (lo := s2) (hi := b3) (ts' := ts') (hb.setCell l1 _) (fun e => ?_) ?_
  · subst e
    have ht := sp.term
    rw [List.getElem?_eq_getElem hlt'] at ht
    simp only [Option.map_some, Option.some.injEq] at ht
    rw [ht, hkey] at got
    simp only [Option.some.injEq] at got
    exact key_longer key s got.symm
  · refine ⟨_, (setCell_same eT _).trans e3, ?_⟩
    rw [← hw] at hT'
    exact hT'.carry (fun b o _ _ => setCell_same eT _) (Nat.le_refl _) (Nat.le_refl _)

/-- Another slice is stored into the term. -/
theorem Built.added0 {w0 w3 w4 : World} {b1 b2 b3 s2 bT k bS n c : Nat} {aS : Option Addr} {a : Addr} {ts : List Term} {rs rs' : List Req} (h : Built w0 w3 b1 b2 b3 s2 (.slice (some ⟨bT, 0, none⟩) ts.length ts.length) ts) (sp : Spot0 w3 b3 s2 bT k bS aS ts rs)
    (hb : Below w3.drew.heap.size w3.drew w4) (hr : Reqs w4 (bT + 1) w4.heap.size (.slice (some a) n c) rs') (hne : rs' ≠ rs) :
    w4.cell? ⟨b3, 0, none⟩ = some (.slice (some ⟨bT, 0, none⟩) ts.length ts.length) ∧ w4.cell? ⟨bT, k * 2, none⟩ = some (.slice aS rs.length rs.length) ∧ w4.frozen? ⟨bT, k * 2, none⟩ = false ∧
      Changed w0 (w4.setCell ⟨bT, k * 2, none⟩ (.slice (some a) n c)) b1 b2 b3 ts := by
  have l1 := sp.lo
  have l2 := sp.hi
  have hsz := h.size
  have hl3 := h.l3
  have hb3 : Below w3.heap.size w3 w4 := ((Below.refl _ _).drew).trans hb
  have e3 : w4.cell? ⟨b3, 0, none⟩ = some (.slice (some ⟨bT, 0, none⟩) ts.length ts.length) := (hb3.cell (p := ⟨b3, 0, none⟩) (by show b3 < _; omega)).trans h.cell
  have eT : w4.cell? ⟨bT, k * 2, none⟩ = some (.slice aS rs.length rs.length) := (hb3.cell (p := ⟨bT, k * 2, none⟩) (by show bT < _; omega)).trans sp.cell
  have hf : w4.frozen? ⟨bT, k * 2, none⟩ = false := (hb3.frozen (p := ⟨bT, k * 2, none⟩) (by show bT < _; omega)).trans (h.thaw l1 _)
  refine ⟨e3, eT, hf, ?_⟩
  have hT := Terms.store0 (k := k) h.new rfl sp.lt hb3 (by omega) hr (by have := hb3.size; omega)
  refine h.changed (lo := s2) (hi := w4.heap.size) (ts' := _) ((hb3.mono (by omega)).setCell l1 _) (fun e => ?_) ⟨_, (World.cell?_setCell_other _ _ _ _ (adr_block (by omega))).trans e3, hT⟩
  have ht := sp.term
  have lt := sp.lt
  rw [← e] at ht
  rw [List.getElem?_set_self lt] at ht
  simp only [Option.map_some, Option.some.injEq] at ht
  exact hne ht

/-- The terms' array, its k-th term and that term's slice 1. -/
structure Spot1 (w3 : World) (b3 s2 bT k bS : Nat) (aS : Option Addr) (ts : List Term) (rs : List Req) : Prop where
  lo : s2 ≤ bT
  hi : bT < b3
  lt : k < ts.length
  cell : w3.cell? ⟨bT, k * 2 + 1, none⟩ = some (.slice aS rs.length rs.length)
  term : ts[k]?.map Prod.snd = some rs
  adr : ∀ a, aS = some a → a = ⟨bS, 0, none⟩ ∧ bT < bS ∧ bS < b3
  new : ReqsNew w3 (bT + 1) b3 (.slice aS rs.length rs.length) rs

theorem spot1 {w0 w3 : World} {b1 b2 b3 s2 : Nat} {ts : List Term} {ao : Option Addr} (h : Built w0 w3 b1 b2 b3 s2 (.slice ao ts.length ts.length) ts) {k : Nat} (hk : k < ts.length) :
    ∃ bT bS aS rs, ao = some ⟨bT, 0, none⟩ ∧ Spot1 w3 b3 s2 bT k bS aS ts rs := by
  have hn := h.new
  obtain ⟨ao', e, _, _, _, hc⟩ := hn
  simp only [Value.slice.injEq] at e
  obtain ⟨rfl, _⟩ := e
  obtain ⟨bT, rfl, l1, l2, v0, v1, a0, a1, n0, n1⟩ := hc k hk
  have n := n1
  obtain ⟨aS, rfl, _, _, ha, _⟩ := n
  obtain ⟨bS, hbS⟩ : ∃ bS : Nat, ∀ a, aS = some a → a = ⟨bS, 0, none⟩ ∧ bT < bS ∧ bS < b3 := by
    cases aS with
    | none => exact ⟨0, fun a e => (by cases e)⟩
    | some a =>
      obtain ⟨b, e, q1, q2⟩ := ha a rfl
      exact ⟨b, fun a' e' => ⟨by rw [← e]; simpa using e'.symm, by omega, q2⟩⟩
  exact ⟨bT, bS, aS, ts[k].2, rfl, l1, l2, hk, a1, by rw [List.getElem?_eq_getElem hk]; rfl, hbS, n1⟩

/-- The key of requirement q is changed; the same slice is stored again. -/
theorem Built.keyed1 {w0 w3 w4 : World} {b1 b2 b3 s2 bT k bS q : Nat} {ts : List Term} {rs : List Req} {key s : ByteArray} (h : Built w0 w3 b1 b2 b3 s2 (.slice (some ⟨bT, 0, none⟩) ts.length ts.length) ts) (sp : Spot1 w3 b3 s2 bT k bS (some ⟨bS, 0, none⟩) ts rs)
    (hq : q < rs.length) (hc : w3.cell? ⟨bS, q * 3, none⟩ = some (.string key)) (hkey : rs[q]?.map Req.key = some key) (hw : w4 = w3.drew.setCell ⟨bS, q * 3, none⟩ (.string (key ++ ⟨#[35]⟩ ++ s))) :
    w4.cell? ⟨b3, 0, none⟩ = some (.slice (some ⟨bT, 0, none⟩) ts.length ts.length) ∧ w4.cell? ⟨bT, k * 2 + 1, none⟩ = some (.slice (some ⟨bS, 0, none⟩) rs.length rs.length) ∧ w4.frozen? ⟨bT, k * 2 + 1, none⟩ = false ∧
      Changed w0 (w4.setCell ⟨bT, k * 2 + 1, none⟩ (.slice (some ⟨bS, 0, none⟩) rs.length rs.length)) b1 b2 b3 ts := by
  obtain ⟨_, lS, lS'⟩ := sp.adr _ rfl
  have l1 := sp.lo
  have l2 := sp.hi
  have hcd : w3.drew.cell? ⟨bS, q * 3, none⟩ = some (.string key) := hc
  have e3 : w4.cell? ⟨b3, 0, none⟩ = some (.slice (some ⟨bT, 0, none⟩) ts.length ts.length) := by rw [hw]; exact cell_slice hcd _ h.cell
  have eT : w4.cell? ⟨bT, k * 2 + 1, none⟩ = some (.slice (some ⟨bS, 0, none⟩) rs.length rs.length) := by rw [hw]; exact cell_slice hcd _ sp.cell
  have hf : w4.frozen? ⟨bT, k * 2 + 1, none⟩ = false := by rw [hw, World.frozen?_setCell]; exact h.thaw l1 _
  refine ⟨e3, eT, hf, ?_⟩
  have hT : Terms w3.drew s2 b3 (.slice (some ⟨bT, 0, none⟩) ts.length ts.length) ts := h.new.terms.carry (fun _ _ _ _ => rfl) (Nat.le_refl _) (Nat.le_refl _)
  obtain ⟨ts', hl, hT', hk'⟩ := hT.reset (x := key ++ ⟨#[35]⟩ ++ s) hcd
  have hb : Below s2 w3 w4 := by rw [hw]; exact ((Below.refl _ _).drew).setCell (by show s2 ≤ bS; omega) _
  have hlt' : k < ts'.length := by rw [hl]; exact sp.lt
  have got := (hk' k hlt' sp.lt bT 0 _ _ rfl).2 q bS 0 _ _ (by rw [Nat.zero_add]; exact sp.cell) (by rw [Nat.zero_add]) (by
    have := sp.term; rw [List.getElem?_eq_getElem sp.lt] at this; simp only [Option.map_some, Option.some.injEq] at this; rw [this]; exact hq)
  refine h.changed (lo := s2) (hi := b3) (ts' := ts') (hb.setCell l1 _) (fun e => ?_) ?_
  · subst e
    have ht := sp.term
    rw [List.getElem?_eq_getElem hlt'] at ht
    simp only [Option.map_some, Option.some.injEq] at ht
    rw [ht, hkey] at got
    simp only [Option.some.injEq] at got
    exact key_longer key s got.symm
  · refine ⟨_, (setCell_same eT _).trans e3, ?_⟩
    rw [← hw] at hT'
    exact hT'.carry (fun b o _ _ => setCell_same eT _) (Nat.le_refl _) (Nat.le_refl _)

/-- Another slice is stored into the term. -/
theorem Built.added1 {w0 w3 w4 : World} {b1 b2 b3 s2 bT k bS n c : Nat} {aS : Option Addr} {a : Addr} {ts : List Term} {rs rs' : List Req} (h : Built w0 w3 b1 b2 b3 s2 (.slice (some ⟨bT, 0, none⟩) ts.length ts.length) ts) (sp : Spot1 w3 b3 s2 bT k bS aS ts rs)
    (hb : Below w3.drew.heap.size w3.drew w4) (hr : Reqs w4 (bT + 1) w4.heap.size (.slice (some a) n c) rs') (hne : rs' ≠ rs) :
    w4.cell? ⟨b3, 0, none⟩ = some (.slice (some ⟨bT, 0, none⟩) ts.length ts.length) ∧ w4.cell? ⟨bT, k * 2 + 1, none⟩ = some (.slice aS rs.length rs.length) ∧ w4.frozen? ⟨bT, k * 2 + 1, none⟩ = false ∧
      Changed w0 (w4.setCell ⟨bT, k * 2 + 1, none⟩ (.slice (some a) n c)) b1 b2 b3 ts := by
  have l1 := sp.lo
  have l2 := sp.hi
  have hsz := h.size
  have hl3 := h.l3
  have hb3 : Below w3.heap.size w3 w4 := ((Below.refl _ _).drew).trans hb
  have e3 : w4.cell? ⟨b3, 0, none⟩ = some (.slice (some ⟨bT, 0, none⟩) ts.length ts.length) := (hb3.cell (p := ⟨b3, 0, none⟩) (by show b3 < _; omega)).trans h.cell
  have eT : w4.cell? ⟨bT, k * 2 + 1, none⟩ = some (.slice aS rs.length rs.length) := (hb3.cell (p := ⟨bT, k * 2 + 1, none⟩) (by show bT < _; omega)).trans sp.cell
  have hf : w4.frozen? ⟨bT, k * 2 + 1, none⟩ = false := (hb3.frozen (p := ⟨bT, k * 2 + 1, none⟩) (by show bT < _; omega)).trans (h.thaw l1 _)
  refine ⟨e3, eT, hf, ?_⟩
  have hT := Terms.store1 (k := k) h.new rfl sp.lt hb3 (by omega) hr (by have := hb3.size; omega)
  refine h.changed (lo := s2) (hi := w4.heap.size) (ts' := _) ((hb3.mono (by omega)).setCell l1 _) (fun e => ?_) ⟨_, (World.cell?_setCell_other _ _ _ _ (adr_block (by omega))).trans e3, hT⟩
  have ht := sp.term
  have lt := sp.lt
  rw [← e] at ht
  rw [List.getElem?_set_self lt] at ht
  simp only [Option.map_some, Option.some.injEq] at ht
  exact hne ht

end Go.Proofs.Qxb6627374a
