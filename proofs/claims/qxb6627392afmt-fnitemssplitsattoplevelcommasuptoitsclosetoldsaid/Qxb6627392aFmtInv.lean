/-
  WHAT STANDS IN MEMORY WHILE Items RUNS: the row of pointers, and the cursors behind them.
-/
import Derived.Test.Qxb6627392aFmtTokens
import Derived.Test.Qxb6627392aFmtPlain
namespace Go.Proofs.Qxb6627392aFmt
open Go.RowKit

abbrev ptr (q : Nat) : Value := .pointer (some ⟨q, 0, none⟩)
/-- The cursor's object over the tokens from a up to b. -/
def curObj (bT n a b : Nat) : Obj := .cells #[.slice (some ⟨bT, a * 3, none⟩) (b - a) (n - a), .int .i64 0] 45 (0, 0)

theorem owns_grown {w w' : World} {base e size : Nat} {v : Value} {n : Nat} {xs : List Value} {r : Option Nat} (h : w.ownsRow base e size v n xs) (g : w.grownBy w' r) (hr : ∀ k, r = some k → k < base) : w'.ownsRow base e size v n xs := by
  refine ⟨h.1, ?_⟩
  rcases h.2 with h | ⟨b, cap, cur, e', hb, hh, rest⟩
  · exact .inl h
  · have : b < w.heap.size := (Array.getElem?_eq_some_iff.1 hh).1
    exact .inr ⟨b, cap, cur, e', hb, by rw [g.block b this (fun x => by have := hr b x.symm; omega)]; exact hh, rest⟩

structure Held (w : World) (c base bT n : Nat) (v : Value) (L : List (Nat × Nat)) (qs : List Nat) (wr : World) : Prop where
  grew : w.grownBy wr (some c)
  from0 : base = w.heap.size
  lt : c < base
  len : qs.length = L.length
  own : wr.ownsRow base 26 1 v L.length (qs.map ptr)
  curs : ∀ (k a b q : Nat), L[k]? = some (a, b) → qs[k]? = some q → base ≤ q ∧ wr.heap[q]? = some (curObj bT n a b)

theorem Held.start (w : World) (c bT n : Nat) (hc : c < w.heap.size) : Held w c w.heap.size bT n (.slice none 0 0) [] [] w :=
  ⟨grown_refl _ _, rfl, hc, rfl, World.ownsRow_nil _ _ _ _, fun k a b q h => by cases h⟩

/-- A step that writes at most into the cursor that runs. -/
theorem Held.step {w wr W : World} {c base bT n : Nat} {v : Value} {L : List (Nat × Nat)} {qs : List Nat} (h : Held w c base bT n v L qs wr) (g : wr.grownBy W (some c)) : Held w c base bT n v L qs W where
  grew := grown_trans h.grew g
  from0 := h.from0
  lt := h.lt
  len := h.len
  own := owns_grown h.own g (fun k e => by cases e; exact h.lt)
  curs := fun k a b q h1 h2 => by
    obtain ⟨h3, h4⟩ := h.curs k a b q h1 h2
    have : q < wr.heap.size := (Array.getElem?_eq_some_iff.1 h4).1
    refine ⟨h3, ?_⟩
    rw [g.block q this (fun e => by cases e; have := h.lt; omega)]
    exact h4

/-- One piece more. -/
theorem Held.push {w W W2 w5 : World} {c base bT n : Nat} {v v' : Value} {L : List (Nat × Nat)} {qs : List Nat} (h : Held w c base bT n v L qs W) {a b q : Nat}
    (g : W.grownBy W2 none) (hq0 : W.heap.size ≤ q) (hq : W2.heap[q]? = some (curObj bT n a b))
    (hown : w5.ownsRow base 26 1 v' (L.length + 1) (qs.map ptr ++ [ptr q])) (hg : W2.grownBy w5 v.ownBlock) : Held w c base bT n v' (L ++ [(a, b)]) (qs ++ [q]) w5 := by
  have hb : ∀ k, v.ownBlock = some k → base ≤ k ∧ ∃ cur fz, W2.heap[k]? = some (.cells cur 26 fz) := by
    intro k hk
    rcases (owns_grown h.own g (fun k e => by cases e)).2 with ⟨rfl, _⟩ | ⟨b', cap, cur, rfl, hb, hh, _⟩
    · cases hk
    · cases hk
      exact ⟨hb, _, _, hh⟩
  have hne : ∀ (p a b : Nat), W2.heap[p]? = some (curObj bT n a b) → some p ≠ v.ownBlock := by
    intro p a b hp e
    obtain ⟨_, cur, fz, hh⟩ := hb p e.symm
    rw [hp] at hh
    simp [curObj] at hh
  have g2 := grown_any (r := some c) g
  refine ⟨?_, h.from0, h.lt, by simp [h.len], ?_, ?_⟩
  · have h1 := grown_trans h.grew g2
    refine ⟨hg.os.trans h1.os, hg.tape.trans h1.tape, hg.output.trans h1.output, Nat.le_trans h1.size hg.size, fun k hk hr => ?_⟩
    rw [hg.block k (Nat.lt_of_lt_of_le hk h1.size) (fun e => by have := (hb k e.symm).1; have := h.from0; omega)]
    exact h1.block k hk hr
  · rw [List.length_append, List.map_append]
    exact hown
  · intro k x y p h1 h2
    by_cases hk : k < L.length
    · rw [List.getElem?_append_left hk] at h1
      rw [List.getElem?_append_left (by rw [h.len]; exact hk)] at h2
      obtain ⟨h3, h4⟩ := h.curs k x y p h1 h2
      have hl : p < W.heap.size := (Array.getElem?_eq_some_iff.1 h4).1
      have h5 : W2.heap[p]? = some (curObj bT n x y) := by rw [g.block p hl (by simp)]; exact h4
      refine ⟨h3, ?_⟩
      rw [hg.block p (Array.getElem?_eq_some_iff.1 h5).1 (hne p x y h5)]
      exact h5
    · rw [List.getElem?_append_right (by omega)] at h1
      rw [List.getElem?_append_right (by rw [h.len]; omega), h.len] at h2
      have hk0 : k - L.length = 0 := by
        rcases Nat.eq_zero_or_pos (k - L.length) with e | e
        · exact e
        · rw [List.getElem?_eq_none (by simp; omega)] at h1; cases h1
      rw [hk0] at h1 h2
      cases h1
      cases h2
      refine ⟨by have := h.grew.size; have := h.from0; omega, ?_⟩
      rw [hg.block _ (Array.getElem?_eq_some_iff.1 hq).1 (hne _ _ _ hq)]
      exact hq

/-- Where a cursor stands. -/
def placeOf (c : Nat) (w : World) : Nat := match w.cell? ⟨c, 1, none⟩ with
  | some (.int _ k) => k.toNat
  | _ => 0
theorem placeOf_at {w : World} {c : Nat} {v : Value} {p : Nat} (h : CurAt w c v p) : placeOf c w = p := by simp [placeOf, h.place]

/-- What Items leaves behind: the row's cells and the cursors. -/
def Got (w : World) (g bT n : Nat) (L : List (Nat × Nat)) : Prop :=
  ∀ (k a b : Nat), L[k]? = some (a, b) → ∃ q, w.cell? ⟨g, k, none⟩ = some (ptr q) ∧ w.cell? ⟨q, 0, none⟩ = some (.slice (some ⟨bT, a * 3, none⟩) (b - a) (n - a)) ∧ w.cell? ⟨q, 1, none⟩ = some (.int .i64 0)
theorem Held.got {w wr : World} {c base bT n g m cap : Nat} {L : List (Nat × Nat)} {qs : List Nat} (h : Held w c base bT n (.slice (some ⟨g, 0, none⟩) m cap) L qs wr) : Got wr g bT n L := by
  intro k a b hk
  have hl : k < L.length := by
    rcases Nat.lt_or_ge k L.length with h | h
    · exact h
    · rw [List.getElem?_eq_none h] at hk; cases hk
  have hq : qs[k]? = some (qs[k]'(by rw [h.len]; exact hl)) := List.getElem?_eq_getElem _
  obtain ⟨_, h4⟩ := h.curs k a b _ hk hq
  refine ⟨qs[k]'(by rw [h.len]; exact hl), ?_, ?_, ?_⟩
  · rcases h.own.2 with ⟨e, _⟩ | ⟨b', cap', cur, e, _, hh, _, _, _, ht⟩
    · cases e
    · cases e
      have e : (cur.toList.take (L.length * 1))[k]? = some (ptr (qs[k]'(by rw [h.len]; exact hl))) := by rw [ht, List.getElem?_map, hq]; rfl
      rw [List.getElem?_take, if_pos (by omega), Array.getElem?_toList] at e
      simp only [World.cell?, hh, e]
      rfl
  · simp only [World.cell?, h4, curObj]; rfl
  · simp only [World.cell?, h4, curObj]; rfl
theorem Got.grown {w w' : World} {g bT n : Nat} {L : List (Nat × Nat)} (h : Got w g bT n L) (k : w.grownBy w' none) : Got w' g bT n L := by
  intro x a b hx
  obtain ⟨q, h1, h2, h3⟩ := h x a b hx
  exact ⟨q, k.cell h1 (by simp), k.cell h2 (by simp), k.cell h3 (by simp)⟩
end Go.Proofs.Qxb6627392aFmt
