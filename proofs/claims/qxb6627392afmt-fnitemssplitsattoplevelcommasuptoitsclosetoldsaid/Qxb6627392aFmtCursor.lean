/-
  Peek, Next, toTokens, cursorAt.
-/
import Derived.Test.Qxb6627392aFmtBase
namespace Go.Proofs.Qxb6627392aFmt
open Go.RowKit

theorem frozen_alloc (w : World) (C : Array Value) (t : TypeId) (o : Nat) : (w.alloc (.cells C t)).frozen? ⟨w.heap.size, o, none⟩ = false := by
  simp only [World.frozen?]
  rw [heap_alloc_new]
  simp
theorem grown_set {a w : World} {r : Option Nat} (h : a.grownBy w r) {p : Addr} (hp : a.heap.size ≤ p.block ∨ r = some p.block) (u : Value) : a.grownBy (w.setCell p u) r :=
  ⟨h.os, h.tape, h.output, by rw [World.size_setCell]; exact h.size, fun k hk hr => (Below.heap_setCell w p u k (fun e => by
    rcases hp with hp | hp
    · omega
    · exact hr (by rw [hp, e]))).trans (h.block k hk hr)⟩
theorem grown_drew {a w : World} {r : Option Nat} (h : a.grownBy w r) : a.grownBy w.drew r := ⟨h.os, h.tape, h.output, h.size, h.block⟩

theorem results_cell1 {fn : Func} {p : Tmp} {ty : TypeId} (h : fn.results = #[.cell p ty]) (tmps : Array Value) (P : Program) (w : World) :
    (results fn tmps).run P w = ((asAddr (tmps.getD p undef)).run P w).andThen fun a w₁ => (loadVar ty a).run P w₁ := by
  simp only [results, h]
  simp [Sem.run_bind]
/-- Three cells set, one behind the other. -/
theorem set3 {w : World} {R : Nat} {a b c x y z : Value} (r0 : w.cell? ⟨R, 0, none⟩ = some x) (r1 : w.cell? ⟨R, 1, none⟩ = some y) (r2 : w.cell? ⟨R, 2, none⟩ = some z) :
    (((w.setCell ⟨R, 0, none⟩ a).setCell ⟨R, 1, none⟩ b).setCell ⟨R, 2, none⟩ c).cell? ⟨R, 0, none⟩ = some a ∧
    (((w.setCell ⟨R, 0, none⟩ a).setCell ⟨R, 1, none⟩ b).setCell ⟨R, 2, none⟩ c).cell? ⟨R, 1, none⟩ = some b ∧
    (((w.setCell ⟨R, 0, none⟩ a).setCell ⟨R, 1, none⟩ b).setCell ⟨R, 2, none⟩ c).cell? ⟨R, 2, none⟩ = some c := by
  have o : ∀ (v : World) (i j : Nat) (u : Value), i ≠ j → (v.setCell ⟨R, i, none⟩ u).cell? ⟨R, j, none⟩ = v.cell? ⟨R, j, none⟩ := fun v i j u h => World.cell?_setCell_other _ _ _ _ (fun e => h (congrArg Addr.off e))
  have e : ∀ (v : World) (i : Nat) (u x : Value), v.cell? ⟨R, i, none⟩ = some x → (v.setCell ⟨R, i, none⟩ u).cell? ⟨R, i, none⟩ = some u := fun v i u x h => World.cell?_setCell_same _ _ _ h
  refine ⟨?_, ?_, ?_⟩
  · rw [o _ 2 0 _ (by decide), o _ 1 0 _ (by decide)]; exact e _ 0 _ _ r0
  · rw [o _ 2 1 _ (by decide)]; exact e _ 1 _ y (by rw [o _ 0 1 _ (by decide)]; exact r1)
  · exact e _ 2 _ z (by rw [o _ 1 2 _ (by decide), o _ 0 2 _ (by decide)]; exact r2)

theorem load42 (X : World) (R : Nat) (t : Tk) (e0 : X.cell? ⟨R, 0, none⟩ = some (.string t.kind)) (e1 : X.cell? ⟨R, 1, none⟩ = some (.string t.text)) (e2 : X.cell? ⟨R, 2, none⟩ = some (.int .i64 t.line)) :
    (loadVar 42 ⟨R, 0, none⟩).run Tryf.prog X = .ok t.val X := by
  unfold Tk.val
  go_simp

set_option maxHeartbeats 400000 in
theorem peek_any (c p n cap bT oT : Nat) (t : Tk) (w : World) (hn : n ≤ 4096) (hp : p < n) (c0 : w.cell? ⟨c, 0, none⟩ = some (.slice (some ⟨bT, oT, none⟩) n cap)) (c1 : w.cell? ⟨c, 1, none⟩ = some (.int .i64 p)) (ht : TkAt w bT (oT + p * 3) t) :
    Calls Tryf.prog 18 #[.pointer (some ⟨c, 0, none⟩)] w fun e w' => e = .returned t.val ∧ w.grownBy w' none := by
  obtain ⟨t0, t1, t2⟩ := ht
  go_enter Tryf.func18, Tryf.ntmps18
  go_wp2_with fail
  refine (done_any c p n cap _ _ hn (by omega) ((grown_alloc w _ none).cell c0 (by simp)) ((grown_alloc w _ none).cell c1 (by simp))).mono ?_
  rintro e w1 ⟨rfl, k, hw1⟩
  have g1 : w.grownBy w1 none := by rw [hw1]; exact grown_trans (grown_alloc _ _ _) (grown_drewN _ _ _)
  have hd : decide (p = n) = false := by simp; omega
  have r0 : w1.cell? ⟨w.heap.size, 0, none⟩ = some (.string ⟨#[]⟩) := by rw [hw1]; show (w.alloc _).cell? _ = _; rw [World.cell?_alloc_new]; rfl
  have r1 : w1.cell? ⟨w.heap.size, 1, none⟩ = some (.string ⟨#[]⟩) := by rw [hw1]; show (w.alloc _).cell? _ = _; rw [World.cell?_alloc_new]; rfl
  have r2 : w1.cell? ⟨w.heap.size, 2, none⟩ = some (.int .i64 0) := by rw [hw1]; show (w.alloc _).cell? _ = _; rw [World.cell?_alloc_new]; rfl
  have fz : ∀ o, w1.frozen? ⟨w.heap.size, o, none⟩ = false := fun o => by rw [hw1]; exact frozen_alloc w _ _ o
  have d0 := g1.cell c0 (by simp)
  have d1 := g1.cell c1 (by simp)
  have s0 := g1.cell t0 (by simp)
  have s1 := g1.cell t1 (by simp)
  have s2 := g1.cell t2 (by simp)
  obtain ⟨R, hR⟩ : ∃ R, R = w.heap.size := ⟨_, rfl⟩
  have HG : Hid (w.grownBy w1 none ∧ R = w.heap.size) := ⟨g1, hR⟩
  rw [← hR] at r0 r1 r2 fz ⊢
  clear c0 c1 t0 t1 t2 g1 hw1 hR
  rw [hd]
  go_wp2
  go_region
  go_wp2
  obtain ⟨q0, q1, q2⟩ := set3 (a := .string t.kind) (b := .string t.text) (c := .int .i64 t.line) r0 r1 r2
  obtain ⟨g, rfl⟩ := HG.out
  (try simp only [Exit.inBlock, Exit.then])
  refine bodyPost_ret (v := t.val) (by
    rw [results_cell1 rfl]
    obtain ⟨X, hX⟩ : ∃ X, X = ((w1.setCell ⟨w.heap.size, 0, none⟩ (.string t.kind)).setCell ⟨w.heap.size, 1, none⟩ (.string t.text)).setCell ⟨w.heap.size, 2, none⟩ (.int .i64 t.line) := ⟨_, rfl⟩
    rw [← hX] at q0 q1 q2 ⊢
    go_simp
    rfl) rfl ?_
  exact ⟨rfl, grown_drew (grown_set (grown_set (grown_set g (.inl (Nat.le_refl _)) _) (.inl (Nat.le_refl _)) _) (.inl (Nat.le_refl _)) _)⟩

theorem TkAt.grown {w w' : World} {r : Option Nat} (g : w.grownBy w' r) {b o : Nat} {t : Tk} (h : TkAt w b o t) (hb : some b ≠ r) : TkAt w' b o t :=
  ⟨g.cell h.1 hb, g.cell h.2.1 hb, g.cell h.2.2 hb⟩

/-- A cursor in block c: its tokens, its place. -/
structure CurAt (w : World) (c : Nat) (v : Value) (p : Int) : Prop where
  toks : w.cell? ⟨c, 0, none⟩ = some v
  place : w.cell? ⟨c, 1, none⟩ = some (.int .i64 p)
  open0 : w.frozen? ⟨c, 0, none⟩ = false
  open1 : w.frozen? ⟨c, 1, none⟩ = false

theorem grown_frozen {w w' : World} {r : Option Nat} (g : w.grownBy w' r) {b o : Nat} (hb : b < w.heap.size) (hr : some b ≠ r) : w'.frozen? ⟨b, o, none⟩ = w.frozen? ⟨b, o, none⟩ :=
  World.frozen?_of_block (w := w) (g.block b hb hr)
theorem CurAt.lt {w : World} {c : Nat} {v : Value} {p : Int} (h : CurAt w c v p) : c < w.heap.size := World.block_lt_of_cell? w ⟨c, 0, none⟩ h.toks
theorem CurAt.grown {w w' : World} {r : Option Nat} (g : w.grownBy w' r) {c : Nat} {v : Value} {p : Int} (h : CurAt w c v p) (hc : some c ≠ r) : CurAt w' c v p :=
  ⟨g.cell h.toks hc, g.cell h.place hc, (grown_frozen g h.lt hc).trans h.open0, (grown_frozen g h.lt hc).trans h.open1⟩

set_option maxHeartbeats 1000000 in
theorem next_any (c p n cap bT oT : Nat) (t : Tk) (w : World) (hn : n ≤ 4096) (hp : p < n) (hc : CurAt w c (.slice (some ⟨bT, oT, none⟩) n cap) p) (ht : TkAt w bT (oT + p * 3) t) :
    Calls Tryf.prog 13 #[.pointer (some ⟨c, 0, none⟩)] w fun e w' => e = .returned t.val ∧ w.grownBy w' (some c) ∧ CurAt w' c (.slice (some ⟨bT, oT, none⟩) n cap) (p + 1 : Nat) := by
  go_enter Tryf.func13, Tryf.ntmps13
  go_wp2_with fail
  obtain ⟨W, hW⟩ : ∃ W, W = w.alloc (.cells #[.string ⟨#[]⟩, .string ⟨#[]⟩, .int .i64 0] 42) := ⟨_, rfl⟩
  rw [← hW]
  have g0 : w.grownBy W none := by rw [hW]; exact grown_alloc _ _ _
  have hc0 := hc.grown g0 (by simp)
  refine (peek_any c p n cap bT oT t W hn hp hc0.toks hc0.place (ht.grown g0 (by simp))).mono ?_
  rintro e w1 ⟨rfl, g1⟩
  have r0 : w1.cell? ⟨w.heap.size, 0, none⟩ = some (.string ⟨#[]⟩) := g1.cell (by rw [hW, World.cell?_alloc_new]; rfl) (by simp)
  have r1 : w1.cell? ⟨w.heap.size, 1, none⟩ = some (.string ⟨#[]⟩) := g1.cell (by rw [hW, World.cell?_alloc_new]; rfl) (by simp)
  have r2 : w1.cell? ⟨w.heap.size, 2, none⟩ = some (.int .i64 0) := g1.cell (by rw [hW, World.cell?_alloc_new]; rfl) (by simp)
  have hR : w.heap.size < w1.heap.size := World.block_lt_of_cell? w1 ⟨w.heap.size, 0, none⟩ r0
  have fz : ∀ o, w1.frozen? ⟨w.heap.size, o, none⟩ = false := fun o => (grown_frozen g1 (by rw [hW, World.size_alloc]; omega) (by simp)).trans (by rw [hW]; exact frozen_alloc w _ _ o)
  have g01 : w.grownBy w1 none := grown_trans g0 g1
  have hcl := hc.lt
  have hc1 := hc.grown g01 (by simp)
  clear g0 g1 hc0 hc hW W
  unfold Tk.val
  go_wp2_with fail
  obtain ⟨W, hW⟩ : ∃ W, W = w1.alloc (.cells #[.string t.kind, .string t.text, .int .i64 t.line] 42) := ⟨_, rfl⟩
  rw [← hW]
  have g2 : w1.grownBy W none := by rw [hW]; exact grown_alloc _ _ _
  have hc2 := hc1.grown g2 (by simp)
  refine (done_any c p n cap _ W hn (by omega) hc2.toks hc2.place).mono ?_
  rintro e w2 ⟨rfl, k, hw2⟩
  have hd : decide (p = n) = false := by simp; omega
  rw [hd]
  have g3 : w1.grownBy w2 none := by rw [hw2]; exact grown_trans g2 (grown_drewN _ _ _)
  have g4 : W.grownBy w2 none := by rw [hw2]; exact grown_drewN _ _ _
  have q0 := g3.cell r0 (by simp)
  have q1 := g3.cell r1 (by simp)
  have q2 := g3.cell r2 (by simp)
  have s0 : w2.cell? ⟨w1.heap.size, 0, none⟩ = some (.string t.kind) := g4.cell (by rw [hW, World.cell?_alloc_new]; rfl) (by simp)
  have s1 : w2.cell? ⟨w1.heap.size, 1, none⟩ = some (.string t.text) := g4.cell (by rw [hW, World.cell?_alloc_new]; rfl) (by simp)
  have s2 : w2.cell? ⟨w1.heap.size, 2, none⟩ = some (.int .i64 t.line) := g4.cell (by rw [hW, World.cell?_alloc_new]; rfl) (by simp)
  have fy : ∀ o, w2.frozen? ⟨w.heap.size, o, none⟩ = false := fun o => (grown_frozen g3 hR (by simp)).trans (fz o)
  obtain ⟨d0, d1, d2, d3⟩ := hc1.grown g3 (by simp)
  obtain ⟨R1, hR1⟩ : ∃ R1, R1 = w.heap.size := ⟨_, rfl⟩
  obtain ⟨R2, hR2⟩ : ∃ R2, R2 = w1.heap.size := ⟨_, rfl⟩
  have HG : Hid (w.grownBy w2 none ∧ R1 = w.heap.size) := ⟨grown_trans g01 g3, hR1⟩
  rw [← hR1] at q0 q1 q2 fy hcl hR ⊢
  rw [← hR2] at s0 s1 s2 hR ⊢
  clear hw2 g2 g3 g4 hc2 hc1 hW fz r0 r1 r2 hR1 hR2 g01 hd
  have n1 : c ≠ R1 := by omega
  have n2 : c ≠ R2 := by omega
  have n3 : R1 ≠ R2 := by omega
  go_wp2_with fail
  have far : ∀ (v : World) (i o o' : Nat) (u : Value) (j : Nat), i ≠ j → (v.setCell ⟨i, o, none⟩ u).cell? ⟨j, o', none⟩ = v.cell? ⟨j, o', none⟩ := fun v i o o' u j h => World.cell?_setCell_other _ _ _ _ (fun e => h (congrArg Addr.block e))
  obtain ⟨g, hR1⟩ := HG.out
  obtain ⟨w3, hw3⟩ : ∃ w3, w3 = w2.setCell ⟨c, 1, none⟩ (.int .i64 (p + 1)) := ⟨_, rfl⟩
  have hk : w.grownBy w3 (some c) := by rw [hw3]; exact grown_set (grown_any g) (.inr rfl) _
  have a0 : w3.cell? ⟨R1, 0, none⟩ = some (.string ⟨#[]⟩) := by rw [hw3, far _ _ _ _ _ _ n1]; exact q0
  have a1 : w3.cell? ⟨R1, 1, none⟩ = some (.string ⟨#[]⟩) := by rw [hw3, far _ _ _ _ _ _ n1]; exact q1
  have a2 : w3.cell? ⟨R1, 2, none⟩ = some (.int .i64 0) := by rw [hw3, far _ _ _ _ _ _ n1]; exact q2
  have b0 : w3.cell? ⟨c, 0, none⟩ = some (.slice (some ⟨bT, oT, none⟩) n cap) := by rw [hw3, World.cell?_setCell_other _ _ _ _ (fun e => by cases e)]; exact d0
  have b1 : w3.cell? ⟨c, 1, none⟩ = some (.int .i64 (p + 1)) := by rw [hw3]; exact World.cell?_setCell_same _ _ _ d1
  have b2 : w3.frozen? ⟨c, 0, none⟩ = false := by rw [hw3, World.frozen?_setCell]; exact d2
  have b3 : w3.frozen? ⟨c, 1, none⟩ = false := by rw [hw3, World.frozen?_setCell]; exact d3
  rw [← hw3]
  obtain ⟨e0, e1, e2⟩ := set3 (a := .string t.kind) (b := .string t.text) (c := .int .i64 t.line) a0 a1 a2
  obtain ⟨X, hX⟩ : ∃ X, X = ((w3.setCell ⟨R1, 0, none⟩ (.string t.kind)).setCell ⟨R1, 1, none⟩ (.string t.text)).setCell ⟨R1, 2, none⟩ (.int .i64 t.line) := ⟨_, rfl⟩
  rw [← hX] at e0 e1 e2 ⊢
  (try simp only [Exit.inBlock, Exit.then])
  refine bodyPost_ret (v := t.val) (by rw [results_cell1 rfl]; exact load42 X R1 t e0 e1 e2) rfl ⟨rfl, ?_, ?_, ?_, ?_, ?_⟩
  · rw [hX]; exact grown_set (grown_set (grown_set hk (.inl (by show _ ≤ R1; omega)) _) (.inl (by show _ ≤ R1; omega)) _) (.inl (by show _ ≤ R1; omega)) _
  · rw [hX, far _ _ _ _ _ _ n1.symm, far _ _ _ _ _ _ n1.symm, far _ _ _ _ _ _ n1.symm]; exact b0
  · rw [hX, far _ _ _ _ _ _ n1.symm, far _ _ _ _ _ _ n1.symm, far _ _ _ _ _ _ n1.symm]; exact b1
  · rw [hX, World.frozen?_setCell, World.frozen?_setCell, World.frozen?_setCell]; exact b2
  · rw [hX, World.frozen?_setCell, World.frozen?_setCell, World.frozen?_setCell]; exact b3
end Go.Proofs.Qxb6627392aFmt
