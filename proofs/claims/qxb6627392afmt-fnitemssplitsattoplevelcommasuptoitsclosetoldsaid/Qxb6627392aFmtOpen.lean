/-
  AN ARGUMENT '[]Tok', READ AS DATA, IS A LIST OF TOKENS IN MEMORY.
-/
import Derived.Test.Qxb6627392aFmtTokens
import Derived.ProofKit
import Derived.Deep.Strs
import Derived.Deep.SlicePairs
namespace Go.Proofs.Qxb6627392aFmt
open Go.ChangeShapes Go.WideShapes Go.Deep Go.RowKit

theorem Tryf.cells9 : Tryf.prog.cellsOf 9 = 1 := by kernel_rfl
theorem Tryf.cells3 : Tryf.prog.cellsOf 3 = 1 := by kernel_rfl
theorem Tryf.cells25 : Tryf.prog.cellsOf 25 = 3 := by kernel_rfl

theorem choose_list {α : Type} {p : Nat → α → Prop} : ∀ {n : Nat}, (∀ i, i < n → ∃ x, p i x) → ∃ l : List α, l.length = n ∧ ∀ i (h : i < l.length), p i l[i]
  | 0, _ => ⟨[], rfl, fun i h => absurd h (Nat.not_lt_zero _)⟩
  | n + 1, h => by
    obtain ⟨l, hl, hp⟩ := choose_list (n := n) (fun i hi => h i (by omega))
    obtain ⟨x, hx⟩ := h n (by omega)
    refine ⟨l ++ [x], by simp [hl], fun i hi => ?_⟩
    by_cases e : i < l.length
    · rw [List.getElem_append_left e]; exact hp i e
    · have : i = l.length := by simp at hi; omega
      subst this
      rw [List.getElem_append_right (Nat.le_refl _)]
      simpa [hl] using hx

theorem adr_plain {w : World} {a : Addr} {v : Value} (h : w.cell? a = some v) : ∃ b o, a = ⟨b, o, none⟩ := by
  obtain ⟨b, o, sp⟩ := a
  have hs : sp = none := by simpa using World.cell?_spot h
  subst hs
  exact ⟨b, o, rfl⟩
theorem adr_cell {w : World} {b o i : Nat} {v : Value} (h : w.cell? ((⟨b, o, none⟩ : Addr).add i) = some v) : w.cell? ⟨b, o + i, none⟩ = some v ∧ b < w.heap.size := by
  rw [Addr.add_lit] at h
  exact ⟨h, World.block_lt_of_cell? _ _ h⟩

section
variable {H : Type} {enc : TypeId × Value → H} {w : World} {spare : Nat → Bool} {held : Bool}

theorem open_toks22 {fuel : Nat} {v : Value} {x : DataW H × List MemPlace} (h : DataW.trod enc Tryf.prog w 0 spare held fuel 22 [v] = some x) :
    ∃ ao ts cap, v = .slice ao ts.length cap ∧ ts.length ≤ 9223372036854775807 ∧ ts.length ≤ cap ∧ TksAt w ao w.heap.size ts := by
  rcases open_slice Tryf.underlying22 h with ⟨hcs, _⟩ | ⟨a, len, cap, m, n, D, Pl, hcs, _, hl, hm, hmm, _, hc⟩
  · simp only [List.cons.injEq, and_true] at hcs
    subst hcs
    exact ⟨none, [], 0, rfl, Nat.zero_le _, Nat.zero_le _, fun j hj => absurd hj (Nat.not_lt_zero _)⟩
  · simp only [List.cons.injEq, and_true] at hcs
    subst hcs
    have hlm : len ≤ m := by rw [hmm]; split <;> omega
    unfold maxLen at hm
    have hplain : 0 < len → ∃ b o, a = ⟨b, o, none⟩ := fun h0 => by
      obtain ⟨cs', h1, _⟩ := hc 0 (by omega)
      rw [Tryf.cells25] at h1
      obtain ⟨_, hlen, hcell⟩ := World.cells?_some h1
      match cs', hlen with
      | [v0, v1, v2], _ =>
        have c0 := hcell 0 (by omega)
        exact adr_plain (w := w) (a := a) (by simpa [Addr.add] using c0)
    obtain ⟨ts, hrl, hrs⟩ := choose_list (n := len) (p := fun i r => ∃ b o, some a = some (⟨b, o, none⟩ : Addr) ∧ b < w.heap.size ∧ TkAt w b (o + i * 3) r) (fun i hi => by
      obtain ⟨cs', h1, h2⟩ := hc i (by omega)
      obtain ⟨b, o, rfl⟩ := hplain (by omega)
      rw [Tryf.cells25] at h1
      obtain ⟨_, hlen, hcell⟩ := World.cells?_some h1
      obtain ⟨y0, y1, y2, k, _, _, g0, g1, g2⟩ := trod_struct3 Tryf.underlying25 h2
      match cs', hlen with
      | [v0, v1, v2], _ =>
        have g0' : DataW.trod enc Tryf.prog w 0 spare held k 9 [v0] = some y0 := by simpa [Tryf.cells9] using g0
        have g1' : DataW.trod enc Tryf.prog w 0 spare held k 9 [v1] = some y1 := by simpa [Tryf.cells9] using g1
        have g2' : DataW.trod enc Tryf.prog w 0 spare held k 3 [v2] = some y2 := by simpa [Tryf.cells3] using g2
        obtain ⟨s0, e0, _, _⟩ := DataW.trod_string Tryf.underlying9 g0'
        obtain ⟨s1, e1, _, _⟩ := DataW.trod_string Tryf.underlying9 g1'
        obtain ⟨z, e2, _, _⟩ := DataW.trod_int Tryf.underlying3 g2'
        simp only [List.cons.injEq, and_true] at e0 e1 e2
        subst e0 e1 e2
        have c0 := hcell 0 (by omega)
        have c1 := hcell 1 (by omega)
        have c2 := hcell 2 (by omega)
        rw [add_add] at c0 c1 c2
        obtain ⟨f0, f1⟩ := adr_cell c0
        exact ⟨⟨s0, s1, z⟩, b, o, rfl, f1, by simpa using f0, by simpa [Nat.add_assoc] using (adr_cell c1).1, by simpa [Nat.add_assoc] using (adr_cell c2).1⟩)
    exact ⟨some a, ts, cap, by rw [hrl], by omega, by omega, hrs⟩
end
end Go.Proofs.Qxb6627392aFmt
