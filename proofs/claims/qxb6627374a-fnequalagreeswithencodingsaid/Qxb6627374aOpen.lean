/-
  AN ARGUMENT '[]ZTerm', READ AS DATA, IS A LIST OF TERMS IN MEMORY.
-/
import Derived.Test.Qxb6627374aRows
import Derived.Test.Qxb6627374aChangeLaws
import Derived.ProofKit
import Derived.Deep.Strs
import Derived.Deep.SlicePairs
namespace Go.Proofs.Qxb6627374a
open Go.ChangeShapes Go.WideShapes Go.Deep Go.RowKit

theorem Try.cells9 : Try.prog.cellsOf 9 = 1 := by kernel_rfl
theorem Try.cells41 : Try.prog.cellsOf 41 = 1 := by kernel_rfl
theorem Try.cells43 : Try.prog.cellsOf 43 = 2 := by kernel_rfl
theorem Try.cells44 : Try.prog.cellsOf 44 = 1 := by kernel_rfl
theorem Try.cells46 : Try.prog.cellsOf 46 = 3 := by kernel_rfl

section
variable {H : Type} {enc : TypeId × Value → H} {w : World} {spare : Nat → Bool} {held : Bool}

theorem adr_plain {w : World} {a : Addr} {v : Value} (h : w.cell? a = some v) : ∃ b o, a = ⟨b, o, none⟩ := by
  obtain ⟨b, o, sp⟩ := a
  have hs : sp = none := by simpa using World.cell?_spot h
  subst hs
  exact ⟨b, o, rfl⟩
theorem adr_cell {w : World} {b o i : Nat} {v : Value} (h : w.cell? ((⟨b, o, none⟩ : Addr).add i) = some v) : w.cell? ⟨b, o + i, none⟩ = some v ∧ b < w.heap.size := by
  rw [Addr.add_lit] at h
  exact ⟨h, World.block_lt_of_cell? _ _ h⟩

theorem open_strs44 {fuel : Nat} {v : Value} {x : DataW H × List MemPlace} (h : DataW.trod enc Try.prog w 0 spare held fuel 44 [v] = some x) : ∃ ss, Strs w 0 w.heap.size v ss := by
  rcases open_strs Try.underlying44 Try.underlying9 Try.cells9 h with ⟨hcs, _⟩ | ⟨a, len, cap, m, Sx, hcs, _, hl, hm, hmm, _, hc⟩
  · simp only [List.cons.injEq, and_true] at hcs
    subst hcs
    exact ⟨[], none, 0, rfl, Nat.zero_le _, fun _ => rfl, fun j hj => absurd hj (Nat.not_lt_zero _)⟩
  · simp only [List.cons.injEq, and_true] at hcs
    subst hcs
    have hlm : len ≤ m := by rw [hmm]; split <;> omega
    unfold maxLen at hm
    refine ⟨(List.range len).map Sx, some a, cap, by simp, by simp; omega, fun e => (by cases e), fun j hj => ?_⟩
    have hj' : j < len := by simpa using hj
    obtain ⟨b, o, rfl⟩ := adr_plain (w := w) (a := a) (by simpa [Addr.add] using (hc 0 (by omega)).1)
    obtain ⟨e1, e2⟩ := adr_cell (hc j (by omega)).1
    exact ⟨b, o, rfl, Nat.zero_le _, e2, by simpa using e1⟩

theorem open_reqs41 {fuel : Nat} {v : Value} {x : DataW H × List MemPlace} (h : DataW.trod enc Try.prog w 0 spare held fuel 41 [v] = some x) : ∃ rs, Reqs w 0 w.heap.size v rs := by
  rcases open_slice Try.underlying41 h with ⟨hcs, _⟩ | ⟨a, len, cap, m, n, D, Pl, hcs, _, hl, hm, hmm, _, hc⟩
  · simp only [List.cons.injEq, and_true] at hcs
    subst hcs
    exact ⟨[], none, 0, rfl, Nat.zero_le _, fun _ => rfl, fun j hj => absurd hj (Nat.not_lt_zero _)⟩
  · simp only [List.cons.injEq, and_true] at hcs
    subst hcs
    have hlm : len ≤ m := by rw [hmm]; split <;> omega
    unfold maxLen at hm
    have hplain : 0 < len → ∃ b o, a = ⟨b, o, none⟩ := fun h0 => by
      obtain ⟨cs', h1, _⟩ := hc 0 (by omega)
      rw [Try.cells46] at h1
      obtain ⟨_, hlen, hcell⟩ := World.cells?_some h1
      match cs', hlen with
      | [v0, v1, v2], _ =>
        have c0 := hcell 0 (by omega)
        exact adr_plain (w := w) (a := a) (by simpa [Addr.add] using c0)
    obtain ⟨rs, hrl, hrs⟩ := choose_list (n := len) (p := fun i r => ∃ b o, a = ⟨b, o, none⟩ ∧ b < w.heap.size ∧ ReqAt w 0 w.heap.size b (o + i * 3) r) (fun i hi => by
      obtain ⟨cs', h1, h2⟩ := hc i (by omega)
      obtain ⟨b, o, rfl⟩ := hplain (by omega)
      rw [Try.cells46] at h1
      obtain ⟨_, hlen, hcell⟩ := World.cells?_some h1
      obtain ⟨y0, y1, y2, k, _, _, g0, g1, g2⟩ := trod_struct3 Try.underlying46 h2
      match cs', hlen with
      | [v0, v1, v2], _ =>
        have g0' : DataW.trod enc Try.prog w 0 spare held k 9 [v0] = some y0 := by simpa [Try.cells9] using g0
        have g1' : DataW.trod enc Try.prog w 0 spare held k 9 [v1] = some y1 := by simpa [Try.cells9] using g1
        have g2' : DataW.trod enc Try.prog w 0 spare held k 44 [v2] = some y2 := by simpa [Try.cells44] using g2
        obtain ⟨s0, e0, _, _⟩ := DataW.trod_string Try.underlying9 g0'
        obtain ⟨s1, e1, _, _⟩ := DataW.trod_string Try.underlying9 g1'
        obtain ⟨ss, hs⟩ := open_strs44 g2'
        simp only [List.cons.injEq, and_true] at e0 e1
        subst e0 e1
        have c0 := hcell 0 (by omega)
        have c1 := hcell 1 (by omega)
        have c2 := hcell 2 (by omega)
        rw [add_add] at c0 c1 c2
        obtain ⟨f0, f1⟩ := adr_cell c0
        exact ⟨⟨s0, s1, ss⟩, b, o, rfl, f1, by simpa using f0, by simpa [Nat.add_assoc] using (adr_cell c1).1, v2, by simpa [Nat.add_assoc] using (adr_cell c2).1, hs⟩)
    refine ⟨rs, some a, cap, by rw [hrl], by omega, fun e => (by cases e), fun j hj => ?_⟩
    obtain ⟨b, o, rfl, e1, e2⟩ := hrs j hj
    exact ⟨b, o, rfl, Nat.zero_le _, e1, e2⟩

theorem open_terms22 {fuel : Nat} {v : Value} {x : DataW H × List MemPlace} (h : DataW.trod enc Try.prog w 0 spare held fuel 22 [v] = some x) : ∃ ts, Terms w 0 w.heap.size v ts := by
  rcases open_slice_pairs Try.underlying22 Try.underlying43 Try.cells43 rfl rfl Try.cells41 Try.cells41 h with ⟨hcs, _⟩ | ⟨a, len, cap, m, n, V0, V1, D0, D1, P0, P1, hcs, _, hl, hm, hmm, _, hc⟩
  · simp only [List.cons.injEq, and_true] at hcs
    subst hcs
    exact ⟨[], none, 0, rfl, Nat.zero_le _, fun _ => rfl, fun j hj => absurd hj (Nat.not_lt_zero _)⟩
  · simp only [List.cons.injEq, and_true] at hcs
    subst hcs
    have hlm : len ≤ m := by rw [hmm]; split <;> omega
    unfold maxLen at hm
    have hplain : 0 < len → ∃ b o, a = ⟨b, o, none⟩ := fun h0 => adr_plain (w := w) (a := a) (by simpa [Addr.add] using (hc 0 (by omega)).1)
    obtain ⟨ts, hrl, hrs⟩ := choose_list (n := len) (p := fun i t => ∃ b o, a = ⟨b, o, none⟩ ∧ b < w.heap.size ∧ TermAt w 0 w.heap.size b (o + i * 2) t) (fun i hi => by
      obtain ⟨c0, c1, g0, g1⟩ := hc i (by omega)
      obtain ⟨b, o, rfl⟩ := hplain (by omega)
      obtain ⟨r0, h0⟩ := open_reqs41 g0
      obtain ⟨r1, h1⟩ := open_reqs41 g1
      obtain ⟨f0, f1⟩ := adr_cell c0
      exact ⟨(r0, r1), b, o, rfl, f1, V0 i, V1 i, f0, by simpa [Nat.add_assoc] using (adr_cell c1).1, h0, h1⟩)
    refine ⟨ts, some a, cap, by rw [hrl], by omega, fun e => (by cases e), fun j hj => ?_⟩
    obtain ⟨b, o, rfl, e1, e2⟩ := hrs j hj
    exact ⟨b, o, rfl, Nat.zero_le _, e1, e2⟩
end
end Go.Proofs.Qxb6627374a
