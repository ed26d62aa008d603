/-
  A WALK WHOSE FRAME IS A VARIABLE: for the two functions with frames of hundreds of slots ('zzBytes_..'). One law an operation.
-/
import Derived.Test.Qxb6627374aRows
import Derived.Test.Qxb6627374aData
import Derived.WalkKit
import Derived.WalkSpells
namespace Go.Proofs.Qxb6627374a
open Go.RowKit

/-! ### Frames -/
def upd (ρ : Nat → Value) (d : Nat) (v : Value) : Nat → Value := fun t => if t = d then v else ρ t
theorem upd_same (ρ : Nat → Value) (d : Nat) (v : Value) : upd ρ d v d = v := by simp [upd]
theorem upd_other (ρ : Nat → Value) {d t : Nat} (v : Value) (h : t ≠ d) : upd ρ d v t = ρ t := by simp [upd, h]

structure Sees (N : Nat) (a : Act) (ρ : Nat → Value) : Prop where
  defers : a.defers = []
  size : a.tmps.size = N
  slot : ∀ t, t < N → a.eval (.tmp t) = ρ t
theorem Sees.put {N : Nat} {a : Act} {ρ : Nat → Value} (h : Sees N a ρ) (d : Nat) (v : Value) : Sees N (a.put (some d) v) (upd ρ d v) := by
  refine ⟨h.defers, by simp [Act.put, h.size], fun t ht => ?_⟩
  have e := h.slot t ht
  simp only [Act.eval] at e ⊢
  simp only [Act.put, upd]
  have hs : t < a.tmps.size := by rw [h.size]; exact ht
  by_cases hd : t = d
  · subst hd
    simp [hs]
  · rw [if_neg hd, ← e]
    simp [Ne.symm hd]
theorem Sees.self {N : Nat} {a : Act} (hd : a.defers = []) (hs : a.tmps.size = N) : Sees N a (fun t => a.eval (.tmp t)) := ⟨hd, hs, fun _ _ => rfl⟩

/-! ### One operation -/
section
variable {ops : Array Oper} {Q : Exit → Act → World → Prop} {rest : List Oper} {a : Act} {w : World} {N : Nat} {ρ : Nat → Value} {ty : TypeId} {ps : String}

theorem op_of {o : Oper} {d : Nat} {v : Value} (hs : Sees N a ρ) (hg : o.guard = none) (hd : o.dst = some d) (hrun : (execOp a.eval o).run Try.prog w = .ok (.value v) w) (K : ∀ a', Sees N a' (upd ρ d v) → wpList Try.prog ops Q rest a' w) :
    wpList Try.prog ops Q (o :: rest) a w := by
  refine wpList_plain hg fun K' hK' => ?_
  unfold Oper.wp
  rw [hrun]
  show K' (a.put o.dst v) w
  rw [hd]
  exact hK' _ _ (K _ (hs.put d v))
end

section
variable {ops : Array Oper} {Q : Exit → Act → World → Prop} {rest : List Oper} {a : Act} {w : World} {N : Nat} {ρ : Nat → Value} {ty : TypeId} {ps : String}
theorem op_move {af : Array Edge} {d s : Nat} (hs : Sees N a ρ) (hN : s < N)  (K : ∀ a', Sees N a' (upd ρ d (ρ s)) → wpList Try.prog ops Q rest a' w) :
    wpList Try.prog ops Q (⟨some d, .move (.tmp s), ty, ps, af, none⟩ :: rest) a w := by
  have e := hs.slot s hN
  exact op_of hs rfl rfl (by show Sem.run Try.prog (pure (Next.value (a.eval (.tmp s)))) w = _; rw [e]; rfl) K
theorem op_assign {af : Array Edge} {d s : Nat} (hs : Sees N a ρ) (hN : s < N)  (K : ∀ a', Sees N a' (upd ρ d (ρ s)) → wpList Try.prog ops Q rest a' w) :
    wpList Try.prog ops Q (⟨some d, .assign (.tmp s), ty, ps, af, none⟩ :: rest) a w := by
  have e := hs.slot s hN
  exact op_of hs rfl rfl (by show Sem.run Try.prog (pure (Next.value (a.eval (.tmp s)))) w = _; rw [e]; rfl) K
theorem op_const {af : Array Edge} {d : Nat} {v : Value} (hs : Sees N a ρ) (K : ∀ a', Sees N a' (upd ρ d v) → wpList Try.prog ops Q rest a' w) :
    wpList Try.prog ops Q (⟨some d, .assign (.const v), ty, ps, af, none⟩ :: rest) a w :=
  op_of hs rfl rfl rfl K
theorem op_len22 {af : Array Edge} {d s : Nat} (hs : Sees N a ρ) (hN : s < N) {ao : Option Addr} {n c : Nat} (hx : ρ s = .slice ao n c) (K : ∀ a', Sees N a' (upd ρ d (.int .i64 n)) → wpList Try.prog ops Q rest a' w) :
    wpList Try.prog ops Q (⟨some d, .call { callee := .builtin .len, args := #[.tmp s], argTypes := #[22] }, ty, ps, af, none⟩ :: rest) a w := by
  have e := hs.slot s hN
  rw [hx] at e
  refine op_of hs rfl rfl ?_ K
  clear hs hx K
  generalize a.eval = ev at e ⊢
  go_simp
theorem op_len41 {af : Array Edge} {d s : Nat} (hs : Sees N a ρ) (hN : s < N) {ao : Option Addr} {n c : Nat} (hx : ρ s = .slice ao n c) (K : ∀ a', Sees N a' (upd ρ d (.int .i64 n)) → wpList Try.prog ops Q rest a' w) :
    wpList Try.prog ops Q (⟨some d, .call { callee := .builtin .len, args := #[.tmp s], argTypes := #[41] }, ty, ps, af, none⟩ :: rest) a w := by
  have e := hs.slot s hN
  rw [hx] at e
  refine op_of hs rfl rfl ?_ K
  clear hs hx K
  generalize a.eval = ev at e ⊢
  go_simp
theorem op_len44 {af : Array Edge} {d s : Nat} (hs : Sees N a ρ) (hN : s < N) {ao : Option Addr} {n c : Nat} (hx : ρ s = .slice ao n c) (K : ∀ a', Sees N a' (upd ρ d (.int .i64 n)) → wpList Try.prog ops Q rest a' w) :
    wpList Try.prog ops Q (⟨some d, .call { callee := .builtin .len, args := #[.tmp s], argTypes := #[44] }, ty, ps, af, none⟩ :: rest) a w := by
  have e := hs.slot s hN
  rw [hx] at e
  refine op_of hs rfl rfl ?_ K
  clear hs hx K
  generalize a.eval = ev at e ⊢
  go_simp
theorem op_len9 {af : Array Edge} {d s : Nat} (hs : Sees N a ρ) (hN : s < N) {b : ByteArray} (hx : ρ s = .string b) (K : ∀ a', Sees N a' (upd ρ d (.int .i64 b.size)) → wpList Try.prog ops Q rest a' w) :
    wpList Try.prog ops Q (⟨some d, .call { callee := .builtin .len, args := #[.tmp s], argTypes := #[9] }, ty, ps, af, none⟩ :: rest) a w := by
  have e := hs.slot s hN
  rw [hx] at e
  refine op_of hs rfl rfl ?_ K
  clear hs hx K
  generalize a.eval = ev at e ⊢
  go_simp
theorem op_gtr {af : Array Edge} {d s : Nat} (hs : Sees N a ρ) (hN : s < N) {x c : Int} (hx : ρ s = .int .i64 x) (K : ∀ a', Sees N a' (upd ρ d (.bool (decide (c < x)))) → wpList Try.prog ops Q rest a' w) :
    wpList Try.prog ops Q (⟨some d, .binOp .gtr 3 (.tmp s) (.const (.int .i64 c)) 3, ty, ps, af, none⟩ :: rest) a w := by
  have e := hs.slot s hN
  rw [hx] at e
  refine op_of hs rfl rfl ?_ K
  clear hs hx K
  have ec : a.eval (.const (.int .i64 c)) = .int .i64 c := rfl
  generalize a.eval = ev at e ec ⊢
  go_simp
theorem op_addC {af : Array Edge} {d s : Nat} (hs : Sees N a ρ) (hN : s < N) {x c : Int} (hx : ρ s = .int .i64 x) (K : ∀ a', Sees N a' (upd ρ d (.int .i64 (IntKind.i64.wrap (x + c)))) → wpList Try.prog ops Q rest a' w) :
    wpList Try.prog ops Q (⟨some d, .binOp .add 3 (.tmp s) (.const (.int .i64 c)) 3, ty, ps, af, none⟩ :: rest) a w := by
  have e := hs.slot s hN
  rw [hx] at e
  refine op_of hs rfl rfl ?_ K
  clear hs hx K
  have ec : a.eval (.const (.int .i64 c)) = .int .i64 c := rfl
  generalize a.eval = ev at e ec ⊢
  go_simp
theorem op_lss {af : Array Edge} {d s : Nat} (hs : Sees N a ρ) (hN : s < N) {u : Nat} {x y : Int} (hN' : u < N) (hx : ρ s = .int .i64 x) (hy : ρ u = .int .i64 y) (K : ∀ a', Sees N a' (upd ρ d (.bool (decide (x < y)))) → wpList Try.prog ops Q rest a' w) :
    wpList Try.prog ops Q (⟨some d, .binOp .lss 3 (.tmp s) (.tmp u) 3, ty, ps, af, none⟩ :: rest) a w := by
  have e := hs.slot s hN
  have e' := hs.slot u hN'
  rw [hx] at e
  rw [hy] at e'
  refine op_of hs rfl rfl ?_ K
  clear hs hx hy K
  generalize a.eval = ev at e e' ⊢
  go_simp
theorem op_add {af : Array Edge} {d s : Nat} (hs : Sees N a ρ) (hN : s < N) {u : Nat} {x y : Int} (hN' : u < N) (hx : ρ s = .int .i64 x) (hy : ρ u = .int .i64 y) (K : ∀ a', Sees N a' (upd ρ d (.int .i64 (IntKind.i64.wrap (x + y)))) → wpList Try.prog ops Q rest a' w) :
    wpList Try.prog ops Q (⟨some d, .binOp .add 3 (.tmp s) (.tmp u) 3, ty, ps, af, none⟩ :: rest) a w := by
  have e := hs.slot s hN
  have e' := hs.slot u hN'
  rw [hx] at e
  rw [hy] at e'
  refine op_of hs rfl rfl ?_ K
  clear hs hx hy K
  generalize a.eval = ev at e e' ⊢
  go_simp
theorem op_idx22 {af : Array Edge} {d s : Nat} (hs : Sees N a ρ) (hN : s < N) {u b off n c k : Nat} (hN' : u < N) (hx : ρ s = .slice (some ⟨b, off, none⟩) n c) (hy : ρ u = .int .i64 k) (hk : k < n) (K : ∀ a', Sees N a' (upd ρ d (.pointer (some ⟨b, off + k * 2, none⟩))) → wpList Try.prog ops Q rest a' w) :
    wpList Try.prog ops Q (⟨some d, .indexAddr 22 (.tmp s) (.tmp u), ty, ps, af, none⟩ :: rest) a w := by
  have e := hs.slot s hN
  have e' := hs.slot u hN'
  rw [hx] at e
  rw [hy] at e'
  refine op_of hs rfl rfl ?_ K
  clear hs hx hy K
  generalize a.eval = ev at e e' ⊢
  go_simp
theorem op_idx41 {af : Array Edge} {d s : Nat} (hs : Sees N a ρ) (hN : s < N) {u b off n c k : Nat} (hN' : u < N) (hx : ρ s = .slice (some ⟨b, off, none⟩) n c) (hy : ρ u = .int .i64 k) (hk : k < n) (K : ∀ a', Sees N a' (upd ρ d (.pointer (some ⟨b, off + k * 3, none⟩))) → wpList Try.prog ops Q rest a' w) :
    wpList Try.prog ops Q (⟨some d, .indexAddr 41 (.tmp s) (.tmp u), ty, ps, af, none⟩ :: rest) a w := by
  have e := hs.slot s hN
  have e' := hs.slot u hN'
  rw [hx] at e
  rw [hy] at e'
  refine op_of hs rfl rfl ?_ K
  clear hs hx hy K
  generalize a.eval = ev at e e' ⊢
  go_simp
theorem op_idx44 {af : Array Edge} {d s : Nat} (hs : Sees N a ρ) (hN : s < N) {u b off n c k : Nat} (hN' : u < N) (hx : ρ s = .slice (some ⟨b, off, none⟩) n c) (hy : ρ u = .int .i64 k) (hk : k < n) (K : ∀ a', Sees N a' (upd ρ d (.pointer (some ⟨b, off + k, none⟩))) → wpList Try.prog ops Q rest a' w) :
    wpList Try.prog ops Q (⟨some d, .indexAddr 44 (.tmp s) (.tmp u), ty, ps, af, none⟩ :: rest) a w := by
  have e := hs.slot s hN
  have e' := hs.slot u hN'
  rw [hx] at e
  rw [hy] at e'
  refine op_of hs rfl rfl ?_ K
  clear hs hx hy K
  generalize a.eval = ev at e e' ⊢
  go_simp
theorem op_fld43_0 {af : Array Edge} {d s : Nat} (hs : Sees N a ρ) (hN : s < N) {b o : Nat} (hx : ρ s = .pointer (some ⟨b, o, none⟩)) (K : ∀ a', Sees N a' (upd ρ d (.pointer (some ⟨b, o, none⟩))) → wpList Try.prog ops Q rest a' w) :
    wpList Try.prog ops Q (⟨some d, .fieldAddr 43 (.tmp s) 0, ty, ps, af, none⟩ :: rest) a w := by
  have e := hs.slot s hN
  rw [hx] at e
  refine op_of hs rfl rfl ?_ K
  clear hs hx K
  generalize a.eval = ev at e ⊢
  go_simp
theorem op_fld43_1 {af : Array Edge} {d s : Nat} (hs : Sees N a ρ) (hN : s < N) {b o : Nat} (hx : ρ s = .pointer (some ⟨b, o, none⟩)) (K : ∀ a', Sees N a' (upd ρ d (.pointer (some ⟨b, o + 1, none⟩))) → wpList Try.prog ops Q rest a' w) :
    wpList Try.prog ops Q (⟨some d, .fieldAddr 43 (.tmp s) 1, ty, ps, af, none⟩ :: rest) a w := by
  have e := hs.slot s hN
  rw [hx] at e
  refine op_of hs rfl rfl ?_ K
  clear hs hx K
  generalize a.eval = ev at e ⊢
  go_simp
theorem op_fld46_0 {af : Array Edge} {d s : Nat} (hs : Sees N a ρ) (hN : s < N) {b o : Nat} (hx : ρ s = .pointer (some ⟨b, o, none⟩)) (K : ∀ a', Sees N a' (upd ρ d (.pointer (some ⟨b, o, none⟩))) → wpList Try.prog ops Q rest a' w) :
    wpList Try.prog ops Q (⟨some d, .fieldAddr 46 (.tmp s) 0, ty, ps, af, none⟩ :: rest) a w := by
  have e := hs.slot s hN
  rw [hx] at e
  refine op_of hs rfl rfl ?_ K
  clear hs hx K
  generalize a.eval = ev at e ⊢
  go_simp
theorem op_fld46_1 {af : Array Edge} {d s : Nat} (hs : Sees N a ρ) (hN : s < N) {b o : Nat} (hx : ρ s = .pointer (some ⟨b, o, none⟩)) (K : ∀ a', Sees N a' (upd ρ d (.pointer (some ⟨b, o + 1, none⟩))) → wpList Try.prog ops Q rest a' w) :
    wpList Try.prog ops Q (⟨some d, .fieldAddr 46 (.tmp s) 1, ty, ps, af, none⟩ :: rest) a w := by
  have e := hs.slot s hN
  rw [hx] at e
  refine op_of hs rfl rfl ?_ K
  clear hs hx K
  generalize a.eval = ev at e ⊢
  go_simp
theorem op_fld46_2 {af : Array Edge} {d s : Nat} (hs : Sees N a ρ) (hN : s < N) {b o : Nat} (hx : ρ s = .pointer (some ⟨b, o, none⟩)) (K : ∀ a', Sees N a' (upd ρ d (.pointer (some ⟨b, o + 2, none⟩))) → wpList Try.prog ops Q rest a' w) :
    wpList Try.prog ops Q (⟨some d, .fieldAddr 46 (.tmp s) 2, ty, ps, af, none⟩ :: rest) a w := by
  have e := hs.slot s hN
  rw [hx] at e
  refine op_of hs rfl rfl ?_ K
  clear hs hx K
  generalize a.eval = ev at e ⊢
  go_simp
theorem op_ld41 {af : Array Edge} {d s : Nat} (hs : Sees N a ρ) (hN : s < N) {b o : Nat} {v : Value} (hx : ρ s = .pointer (some ⟨b, o, none⟩)) (hc : w.cell? ⟨b, o, none⟩ = some v) (K : ∀ a', Sees N a' (upd ρ d v) → wpList Try.prog ops Q rest a' w) :
    wpList Try.prog ops Q (⟨some d, .load 41 (.tmp s), ty, ps, af, none⟩ :: rest) a w := by
  have e := hs.slot s hN
  rw [hx] at e
  refine op_of hs rfl rfl ?_ K
  clear hs hx K
  generalize a.eval = ev at e ⊢
  go_simp
theorem op_ld44 {af : Array Edge} {d s : Nat} (hs : Sees N a ρ) (hN : s < N) {b o : Nat} {v : Value} (hx : ρ s = .pointer (some ⟨b, o, none⟩)) (hc : w.cell? ⟨b, o, none⟩ = some v) (K : ∀ a', Sees N a' (upd ρ d v) → wpList Try.prog ops Q rest a' w) :
    wpList Try.prog ops Q (⟨some d, .load 44 (.tmp s), ty, ps, af, none⟩ :: rest) a w := by
  have e := hs.slot s hN
  rw [hx] at e
  refine op_of hs rfl rfl ?_ K
  clear hs hx K
  generalize a.eval = ev at e ⊢
  go_simp
theorem op_ld9 {af : Array Edge} {d s : Nat} (hs : Sees N a ρ) (hN : s < N) {b o : Nat} {v : Value} (hx : ρ s = .pointer (some ⟨b, o, none⟩)) (hc : w.cell? ⟨b, o, none⟩ = some v) (K : ∀ a', Sees N a' (upd ρ d v) → wpList Try.prog ops Q rest a' w) :
    wpList Try.prog ops Q (⟨some d, .load 9 (.tmp s), ty, ps, af, none⟩ :: rest) a w := by
  have e := hs.slot s hN
  rw [hx] at e
  refine op_of hs rfl rfl ?_ K
  clear hs hx K
  generalize a.eval = ev at e ⊢
  go_simp
end
end Go.Proofs.Qxb6627374a
