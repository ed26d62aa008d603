/-
  LEVELS, CUTS AND PIECES, plainly. No Go text here.
-/
import Derived.Test.Qxb6627392aFmtBase
namespace Go.Proofs.Qxb6627392aFmt

/-- The token at j is the symbol s. -/
def atB (ts : List Tk) (j : Nat) (s : List UInt8) : Bool := match ts[j]? with
  | some t => symB t s
  | none => false
/-- The opening less the closing parentheses among d tokens from i on. -/
def lev (ts : List Tk) (i : Nat) : Nat → Int
  | 0 => 0
  | d + 1 => lev ts i d + (if atB ts (i + d) [40] then 1 else 0) - (if atB ts (i + d) [41] then 1 else 0)
/-- A comma at level nought, d tokens behind i. -/
def cutB (ts : List Tk) (i d : Nat) : Bool := atB ts (i + d) [44] && decide (lev ts i d = 0)
def closeB (ts : List Tk) (i d : Nat) : Bool := atB ts (i + d) [41] && decide (lev ts i d = 0)
/-- Where the open piece begins. -/
def from_ (ts : List Tk) (i : Nat) : Nat → Nat
  | 0 => i
  | d + 1 => if cutB ts i d then i + d + 1 else from_ ts i d
/-- The pieces that are done. -/
def pieces (ts : List Tk) (i : Nat) : Nat → List (Nat × Nat)
  | 0 => []
  | d + 1 => if cutB ts i d then pieces ts i d ++ [(from_ ts i d, i + d)] else pieces ts i d

theorem lev_bounds (ts : List Tk) (i d : Nat) : -(d : Int) ≤ lev ts i d ∧ lev ts i d ≤ d := by
  induction d with
  | zero => simp [lev]
  | succ d ih => rw [lev]; split <;> split <;> omega
theorem from_bounds (ts : List Tk) (i d : Nat) : i ≤ from_ ts i d ∧ from_ ts i d ≤ i + d := by
  induction d with
  | zero => simp [from_]
  | succ d ih => rw [from_]; split <;> omega
theorem pieces_length (ts : List Tk) (i d : Nat) : (pieces ts i d).length ≤ d := by
  induction d with
  | zero => simp [pieces]
  | succ d ih =>
    rw [pieces]; split
    · rw [List.length_append, List.length_singleton]; omega
    · omega
theorem pieces_prefix (ts : List Tk) (i d : Nat) : ∀ e, pieces ts i d <+: pieces ts i (d + e)
  | 0 => List.prefix_rfl
  | e + 1 => by
    refine (pieces_prefix ts i d e).trans ?_
    show _ <+: pieces ts i (d + e + 1)
    rw [pieces]; split
    · exact List.prefix_append _ _
    · exact List.prefix_rfl
theorem pieces_get {ts : List Tk} {i d r : Nat} {L : List (Nat × Nat)} (hL : pieces ts i r <+: L) (hd : d < r) (hc : cutB ts i d = true) : L[(pieces ts i d).length]? = some (from_ ts i d, i + d) := by
  have h1 : pieces ts i (d + 1) = pieces ts i d ++ [(from_ ts i d, i + d)] := by rw [pieces, if_pos hc]
  have h2 : pieces ts i (d + 1) <+: L := by
    have := pieces_prefix ts i (d + 1) (r - (d + 1))
    rw [show d + 1 + (r - (d + 1)) = r by omega] at this
    exact this.trans hL
  rw [h1] at h2
  obtain ⟨m, hm⟩ := h2
  rw [← hm, List.append_assoc, List.getElem?_append_right (Nat.le_refl _)]
  simp

/-! ### A step, by what stands there -/
theorem symB_kind {t : Tk} (h : (t.kind.toList == [115, 121, 109, 98, 111, 108]) = false) (s : List UInt8) : symB t s = false := by rw [symB, h, Bool.false_and]
theorem symB_text {t : Tk} (h : (t.kind.toList == [115, 121, 109, 98, 111, 108]) = true) (s : List UInt8) : symB t s = (t.text.toList == s) := by rw [symB, h, Bool.true_and]
theorem atB_of {ts : List Tk} {j : Nat} {t : Tk} (h : ts[j]? = some t) (s : List UInt8) : atB ts j s = symB t s := by rw [atB, h]
theorem step_plain {ts : List Tk} {i d : Nat} (h0 : atB ts (i + d) [40] = false) (h1 : atB ts (i + d) [41] = false) (h2 : cutB ts i d = false) :
    lev ts i (d + 1) = lev ts i d ∧ from_ ts i (d + 1) = from_ ts i d ∧ pieces ts i (d + 1) = pieces ts i d ∧ closeB ts i d = false := by
  refine ⟨by rw [lev, h0, h1]; simp, by rw [from_, h2]; simp, by rw [pieces, h2]; simp, by rw [closeB, h1]; simp⟩
theorem step_open {ts : List Tk} {i d : Nat} (h0 : atB ts (i + d) [40] = true) (h1 : atB ts (i + d) [41] = false) (h2 : atB ts (i + d) [44] = false) :
    lev ts i (d + 1) = lev ts i d + 1 ∧ from_ ts i (d + 1) = from_ ts i d ∧ pieces ts i (d + 1) = pieces ts i d ∧ closeB ts i d = false := by
  have h3 : cutB ts i d = false := by rw [cutB, h2]; simp
  refine ⟨by rw [lev, h0, h1]; simp, by rw [from_, h3]; simp, by rw [pieces, h3]; simp, by rw [closeB, h1]; simp⟩
theorem step_shut {ts : List Tk} {i d : Nat} (h0 : atB ts (i + d) [40] = false) (h1 : atB ts (i + d) [41] = true) (h2 : atB ts (i + d) [44] = false) (hl : 0 < lev ts i d) :
    lev ts i (d + 1) = lev ts i d - 1 ∧ from_ ts i (d + 1) = from_ ts i d ∧ pieces ts i (d + 1) = pieces ts i d ∧ closeB ts i d = false := by
  have h3 : cutB ts i d = false := by rw [cutB, h2]; simp
  refine ⟨by rw [lev, h0, h1]; simp, by rw [from_, h3]; simp, by rw [pieces, h3]; simp, by rw [closeB, decide_eq_false (by omega)]; simp⟩
theorem step_cut {ts : List Tk} {i d : Nat} (h0 : atB ts (i + d) [40] = false) (h1 : atB ts (i + d) [41] = false) (h2 : atB ts (i + d) [44] = true) (hl : lev ts i d = 0) :
    lev ts i (d + 1) = lev ts i d ∧ from_ ts i (d + 1) = i + d + 1 ∧ pieces ts i (d + 1) = pieces ts i d ++ [(from_ ts i d, i + d)] ∧ closeB ts i d = false := by
  have h3 : cutB ts i d = true := by rw [cutB, h2, decide_eq_true hl]; rfl
  refine ⟨by rw [lev, h0, h1]; simp, by rw [from_, h3]; simp, by rw [pieces, h3]; simp, by rw [closeB, h1]; simp⟩
theorem text_other {s : ByteArray} {a b : UInt8} (h : (s.toList == [a]) = true) (hab : a ≠ b) : (s.toList == [b]) = false := by
  have := eq_of_beq h
  rw [this]
  simp [hab]
end Go.Proofs.Qxb6627392aFmt
