/-
  THE DATA IN MEMORY, as the walks of this seat want it: requirements, terms, affinities, by lists. No Go text here.
-/
import Derived.WalkKit
import Derived.Deep.Draws
namespace Go.Proofs.Qxb6627374a
open Go.RowKit

structure Req where
  key : ByteArray
  op : ByteArray
  vals : List ByteArray

abbrev Term := List Req × List Req

/-- A '[]string' in memory: its cells lie in blocks from lo on, below hi. -/
def Strs (w : World) (lo hi : Nat) (v : Value) (ss : List ByteArray) : Prop :=
  ∃ (ao : Option Addr) (cap : Nat), v = .slice ao ss.length cap ∧ ss.length ≤ 9223372036854775807 ∧ (ao = none → ss = []) ∧
    ∀ j (h : j < ss.length), ∃ b off, ao = some ⟨b, off, none⟩ ∧ lo ≤ b ∧ b < hi ∧ w.cell? ⟨b, off + j, none⟩ = some (.string ss[j])

/-- One requirement: three cells. -/
def ReqAt (w : World) (lo hi b o : Nat) (r : Req) : Prop :=
  w.cell? ⟨b, o, none⟩ = some (.string r.key) ∧ w.cell? ⟨b, o + 1, none⟩ = some (.string r.op) ∧ ∃ v, w.cell? ⟨b, o + 2, none⟩ = some v ∧ Strs w lo hi v r.vals

/-- A slice of requirements. -/
def Reqs (w : World) (lo hi : Nat) (v : Value) (rs : List Req) : Prop :=
  ∃ (ao : Option Addr) (cap : Nat), v = .slice ao rs.length cap ∧ rs.length ≤ 9223372036854775807 ∧ (ao = none → rs = []) ∧
    ∀ j (h : j < rs.length), ∃ b off, ao = some ⟨b, off, none⟩ ∧ lo ≤ b ∧ b < hi ∧ ReqAt w lo hi b (off + j * 3) rs[j]

/-- One term: two cells. -/
def TermAt (w : World) (lo hi b o : Nat) (t : Term) : Prop :=
  ∃ v0 v1, w.cell? ⟨b, o, none⟩ = some v0 ∧ w.cell? ⟨b, o + 1, none⟩ = some v1 ∧ Reqs w lo hi v0 t.1 ∧ Reqs w lo hi v1 t.2

/-- A slice of terms. -/
def Terms (w : World) (lo hi : Nat) (v : Value) (ts : List Term) : Prop :=
  ∃ (ao : Option Addr) (cap : Nat), v = .slice ao ts.length cap ∧ ts.length ≤ 9223372036854775807 ∧ (ao = none → ts = []) ∧
    ∀ j (h : j < ts.length), ∃ b off, ao = some ⟨b, off, none⟩ ∧ lo ≤ b ∧ b < hi ∧ TermAt w lo hi b (off + j * 2) ts[j]

/-- An affinity behind its pointer: one cell that holds the terms. -/
def Aff (w : World) (lo hi b : Nat) (ts : List Term) : Prop :=
  ∃ v, w.cell? ⟨b, 0, none⟩ = some v ∧ Terms w lo hi v ts

/-! ### Carried into another world that holds the same below hi -/
/-- The worlds hold the same cells in the blocks from lo on, below hi. -/
def Same (lo hi : Nat) (w w' : World) : Prop := ∀ b o, lo ≤ b → b < hi → w'.cell? ⟨b, o, none⟩ = w.cell? ⟨b, o, none⟩

theorem Strs.carry {w w' : World} {lo hi lo' hi' : Nat} {v : Value} {ss : List ByteArray} (h : Strs w lo hi v ss) (hs : Same lo hi w w') (hl : lo' ≤ lo) (hh : hi ≤ hi') : Strs w' lo' hi' v ss := by
  obtain ⟨ao, cap, hv, hn, h0, hc⟩ := h
  refine ⟨ao, cap, hv, hn, h0, fun j hj => ?_⟩
  obtain ⟨b, off, ha, h1, h2, h3⟩ := hc j hj
  exact ⟨b, off, ha, by omega, by omega, by rw [hs b _ h1 h2]; exact h3⟩

theorem ReqAt.carry {w w' : World} {lo hi lo' hi' b o : Nat} {r : Req} (h : ReqAt w lo hi b o r) (hs : Same lo hi w w') (hl : lo' ≤ lo) (hh : hi ≤ hi') (hb : ∀ i, w'.cell? ⟨b, i, none⟩ = w.cell? ⟨b, i, none⟩) : ReqAt w' lo' hi' b o r := by
  obtain ⟨h1, h2, v, h3, h4⟩ := h
  exact ⟨by rw [hb]; exact h1, by rw [hb]; exact h2, v, by rw [hb]; exact h3, h4.carry hs hl hh⟩

theorem Reqs.carry {w w' : World} {lo hi lo' hi' : Nat} {v : Value} {rs : List Req} (h : Reqs w lo hi v rs) (hs : Same lo hi w w') (hl : lo' ≤ lo) (hh : hi ≤ hi') : Reqs w' lo' hi' v rs := by
  obtain ⟨ao, cap, hv, hn, h0, hc⟩ := h
  refine ⟨ao, cap, hv, hn, h0, fun j hj => ?_⟩
  obtain ⟨b, off, ha, h1, h2, h3⟩ := hc j hj
  exact ⟨b, off, ha, by omega, by omega, h3.carry hs hl hh (fun i => hs b i h1 h2)⟩

theorem TermAt.carry {w w' : World} {lo hi lo' hi' b o : Nat} {t : Term} (h : TermAt w lo hi b o t) (hs : Same lo hi w w') (hl : lo' ≤ lo) (hh : hi ≤ hi') (hb : ∀ i, w'.cell? ⟨b, i, none⟩ = w.cell? ⟨b, i, none⟩) : TermAt w' lo' hi' b o t := by
  obtain ⟨v0, v1, h1, h2, h3, h4⟩ := h
  exact ⟨v0, v1, by rw [hb]; exact h1, by rw [hb]; exact h2, h3.carry hs hl hh, h4.carry hs hl hh⟩

theorem Terms.carry {w w' : World} {lo hi lo' hi' : Nat} {v : Value} {ts : List Term} (h : Terms w lo hi v ts) (hs : Same lo hi w w') (hl : lo' ≤ lo) (hh : hi ≤ hi') : Terms w' lo' hi' v ts := by
  obtain ⟨ao, cap, hv, hn, h0, hc⟩ := h
  refine ⟨ao, cap, hv, hn, h0, fun j hj => ?_⟩
  obtain ⟨b, off, ha, h1, h2, h3⟩ := hc j hj
  exact ⟨b, off, ha, by omega, by omega, h3.carry hs hl hh (fun i => hs b i h1 h2)⟩

theorem Same.refl {lo hi : Nat} {w : World} : Same lo hi w w := fun _ _ _ _ => rfl
theorem Same.trans {lo hi : Nat} {a b c : World} (h : Same lo hi a b) (k : Same lo hi b c) : Same lo hi a c := fun x o h1 h2 => (k x o h1 h2).trans (h x o h1 h2)
theorem Same.drewN {lo hi n : Nat} {w : World} : Same lo hi w (w.drewN n) := fun _ _ _ _ => rfl
theorem Same.of_below {lo hi B : Nat} {w w' : World} (h : Below B w w') (hB : hi ≤ B) : Same lo hi w w' := fun b o _ h2 => h.cell (p := ⟨b, o, none⟩) (by show b < B; omega)
theorem Same.mono {lo hi lo' hi' : Nat} {w w' : World} (h : Same lo hi w w') (hl : lo ≤ lo') (hh : hi' ≤ hi) : Same lo' hi' w w' := fun b o h1 h2 => h b o (by omega) (by omega)

/-! ### What one index gives, in the walk's own words -/
theorem Strs.at {w : World} {lo hi : Nat} {v : Value} {ss : List ByteArray} (h : Strs w lo hi v ss) {j : Nat} (hj : j < ss.length) :
    ∃ b off cap, v = .slice (some ⟨b, off, none⟩) ss.length cap ∧ w.cell? ⟨b, off + j, none⟩ = some (.string ss[j]) := by
  obtain ⟨ao, cap, hv, hn, h0, hc⟩ := h
  obtain ⟨b, off, ha, h1, h2, h3⟩ := hc j hj
  exact ⟨b, off, cap, by rw [hv, ha], h3⟩
theorem Strs.len {w : World} {lo hi : Nat} {v : Value} {ss : List ByteArray} (h : Strs w lo hi v ss) : ∃ ao cap, v = .slice ao ss.length cap ∧ ss.length ≤ 9223372036854775807 := by
  obtain ⟨ao, cap, hv, hn, h0, hc⟩ := h
  exact ⟨ao, cap, hv, hn⟩
theorem Reqs.len {w : World} {lo hi : Nat} {v : Value} {rs : List Req} (h : Reqs w lo hi v rs) : ∃ ao cap, v = .slice ao rs.length cap ∧ rs.length ≤ 9223372036854775807 := by
  obtain ⟨ao, cap, hv, hn, h0, hc⟩ := h
  exact ⟨ao, cap, hv, hn⟩
theorem Terms.len {w : World} {lo hi : Nat} {v : Value} {ts : List Term} (h : Terms w lo hi v ts) : ∃ ao cap, v = .slice ao ts.length cap ∧ ts.length ≤ 9223372036854775807 := by
  obtain ⟨ao, cap, hv, hn, h0, hc⟩ := h
  exact ⟨ao, cap, hv, hn⟩

end Go.Proofs.Qxb6627374a
