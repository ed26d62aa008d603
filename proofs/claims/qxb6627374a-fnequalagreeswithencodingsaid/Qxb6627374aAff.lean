/-
  'zzAffinity': a copy of the terms in new memory, behind a pointer.
-/
import Derived.Test.Qxb6627374aBuild
import Derived.Deep.RegionHeld3
namespace Go.Proofs.Qxb6627374a
open Go.RowKit

theorem sumT_mem (l : List Term) (k : Nat) (h : k < l.length) : wReqs l[k].1 + wReqs l[k].2 ≤ sumT l := by
  induction l generalizing k with
  | nil => simp at h
  | cons s l ih =>
    cases k with
    | zero => simp [sumT]
    | succ k =>
      have := ih k (by simpa using h)
      simp only [sumT, List.getElem_cons_succ]; omega

/-- Where the new term is stored: two cells, not frozen. -/
theorem term_store {w wo w1 w2 : World} {B n k : Nat} {ts : List Term} (h : TInv w B n ts k wo) (hk : k < n) (hB : B < wo.heap.size) (HB : Hid (B = w.heap.size)) (g1 : Grew wo.drew.heap.size wo.drew w1) (g2 : Grew w1.heap.size w1 w2) :
    ∃ o0 o1, w2.cell? ⟨B, k * 2, none⟩ = some o0 ∧ w2.cell? ⟨B, k * 2 + 1, none⟩ = some o1 ∧ w2.frozen? ⟨B, k * 2, none⟩ = false ∧ w2.frozen? ⟨B, k * 2 + 1, none⟩ = false := by
  have hc : ∀ o, w2.cell? ⟨B, o, none⟩ = wo.cell? ⟨B, o, none⟩ := fun o => (g2.cell (Nat.lt_of_lt_of_le hB g1.1.size) o).trans (g1.cell hB o)
  have hf : ∀ o, w2.frozen? ⟨B, o, none⟩ = false := fun o => (g2.2 _).trans ((g1.2 _).trans ((h.grew.2 _).trans (frozen_new w (by rw [← HB.out]; exact Nat.le_refl _) o)))
  obtain ⟨o0, h0⟩ := h.row (k * 2) (by omega)
  obtain ⟨o1, h1⟩ := h.row (k * 2 + 1) (by omega)
  exact ⟨o0, o1, (hc _).trans h0, (hc _).trans h1, hf _, hf _⟩

/-- The loop's relation. -/
def RelA (w : World) (B n : Nat) (ts : List Term) (i : Value) (wr : World) : Prop := ∃ k : Nat, k ≤ n ∧ i = .int .i64 k ∧ TInv w B n ts k wr

set_option maxHeartbeats 2000000 in
theorem aff_loop (x1 y1 m1 n : Nat) (ts : List Term) (lo hi : Nat) (hn : n ≤ 1048576) (HN : Hid (n = ts.length)) (HW : Hid (wTerms ts ≤ 1048576)) (w : World) (hx : x1 < w.heap.size) (hhi : hi ≤ w.heap.size)
    (f1 : ∀ j (h : j < ts.length), TermAt w lo hi x1 (y1 + j * 2) ts[j]) :
    Calls Try.prog 7 #[.bool false, .slice (some ⟨x1, y1, none⟩) n m1] w fun e w' => ∃ bA v, e = .returned (.pointer (some ⟨bA, 0, none⟩)) ∧ Grew w.heap.size w w' ∧ w.heap.size ≤ bA ∧ w'.heap.size = bA + 1 ∧ w'.cell? ⟨bA, 0, none⟩ = some v ∧ TermsNew w' w.heap.size bA v ts := by
  obtain ⟨C, hC, hmk⟩ := make_named 34 39 _ 2 48 Try.underlying34 Try.info39 n (by omega) (by omega)
  have HI := TInv.start w C 39 n ts hC
  go_enter Try.func7, Try.ntmps7
  go_wp2
  obtain ⟨B, hB⟩ : ∃ B, B = w.heap.size := ⟨_, rfl⟩
  rw [← hB] at HI ⊢
  have HB : Hid (B = w.heap.size) := hB
  rw [← hB] at hx hhi
  clear hB hmk
  go_loopw [6] (fun i wr => RelA w B n ts i wr) (fun i _ => n - (intOf i).toNat)
  case atStart => exact ⟨0, Nat.zero_le _, rfl, HI⟩
  case round =>
    obtain ⟨k, hk, rfl, HR⟩ := hrel
    obtain ⟨wo, rfl⟩ : ∃ wo : World, wo = wr := ⟨wr, rfl⟩
    by_cases hlt : k < n
    · have hk1 : k < ts.length := by rw [← HN.out]; exact hlt
      obtain ⟨v0, v1, c0, c1, g0, g1⟩ := f1 k hk1
      have hwr := sumT_mem ts k hk1
      obtain ⟨t, ht⟩ : ∃ t, t = ts[k] := ⟨_, rfl⟩
      have HK : Hid (ts[k]? = some t) := by show _ = _; rw [ht]; exact List.getElem?_eq_getElem hk1
      rw [← ht] at g0 g1 hwr
      have hw0 : wReqs t.1 ≤ 1048576 ∧ wReqs t.2 ≤ 1048576 := by have := HW.out; unfold wTerms at this; omega
      rw [← HR.grew.cell hx] at c0 c1
      have hBs := HR.size
      have HC0 : ∀ W, Base B wo W → Calls Try.prog 14 #[v0] W fun e w' => ∃ ao, e = .returned (.slice ao t.1.length t.1.length) ∧ Grew W.heap.size W w' ∧ ReqsNew w' W.heap.size w'.heap.size (.slice ao t.1.length t.1.length) t.1 := fun W hb => by
        refine (reqs_any v0 t.1 lo hi hw0.1 W (by have := hb.2; omega) ((g0.carry (HR.grew.same hhi) (Nat.le_refl _) (Nat.le_refl _)).carry (hb.1.same hhi) (Nat.le_refl _) (Nat.le_refl _))).mono ?_
        rintro e w' ⟨v', rfl, h1, h2, h3⟩
        obtain ⟨ao, rfl, r⟩ := h3
        exact ⟨ao, rfl, h1, ao, rfl, r⟩
      have HC1 : ∀ W, Base B wo W → Calls Try.prog 14 #[v1] W fun e w' => ∃ ao, e = .returned (.slice ao t.2.length t.2.length) ∧ Grew W.heap.size W w' ∧ ReqsNew w' W.heap.size w'.heap.size (.slice ao t.2.length t.2.length) t.2 := fun W hb => by
        refine (reqs_any v1 t.2 lo hi hw0.2 W (by have := hb.2; omega) ((g1.carry (HR.grew.same hhi) (Nat.le_refl _) (Nat.le_refl _)).carry (hb.1.same hhi) (Nat.le_refl _) (Nat.le_refl _))).mono ?_
        rintro e w' ⟨v', rfl, h1, h2, h3⟩
        obtain ⟨ao, rfl, r⟩ := h3
        exact ⟨ao, rfl, h1, ao, rfl, r⟩
      obtain ⟨a0, m0, rfl, _⟩ := g0.len
      obtain ⟨a1, m1', rfl, _⟩ := g1.len
      have hS : ∀ W, Base B wo W → W.cell? ⟨x1, y1 + k * 2, none⟩ = some (.slice a0 t.1.length m0) ∧ W.cell? ⟨x1, y1 + k * 2 + 1, none⟩ = some (.slice a1 t.2.length m1') ∧ Base B wo W :=
        fun W hb => ⟨(hb.cell hx _).trans c0, (hb.cell hx _).trans c1, hb⟩
      have HS : Hid (∀ W, Base B wo W → W.cell? ⟨x1, y1 + k * 2, none⟩ = some (.slice a0 t.1.length m0) ∧ W.cell? ⟨x1, y1 + k * 2 + 1, none⟩ = some (.slice a1 t.2.length m1') ∧ Base B wo W) := hS
      clear hwr hk1 HI f1 g0 g1 hw0 ht hS c0 c1
      go_wp2
      go_region_held3 (fun w' => w'.cell? ⟨x1, y1 + k * 2, none⟩ = some (.slice a0 t.1.length m0) ∧ w'.cell? ⟨x1, y1 + k * 2 + 1, none⟩ = some (.slice a1 t.2.length m1') ∧ Base B wo w')
        (first | exact HS.out _ (Base.start _ _) | exact HS.out _ (Base.call (Base.start _ _) (Nat.le_of_lt hBs) hg1) | exact HS.out _ (Base.call (Base.call (Base.start _ _) (Nat.le_of_lt hBs) hg1) (Nat.le_of_lt hBs) hg2) | exact HS.out _ (((Base.call (Base.call (Base.start _ _) (Nat.le_of_lt hBs) hg1) (Nat.le_of_lt hBs) hg2).set _ _).set _ _))
        (first
          | (go_at_call_of 14 (Value.slice a0 t.1.length m0); refine (HC0 _ (Base.start _ _)).mono ?_; rintro e w1 ⟨p0, rfl, hg1, hn1⟩)
          | (go_at_call 14; refine (HC1 _ (Base.call (Base.start _ _) (Nat.le_of_lt hBs) hg1)).mono ?_; rintro e w2 ⟨p1, rfl, hg2, hn2⟩; obtain ⟨o0, o1, r0, r1, hf0, hf1⟩ := term_store HR hlt hBs HB hg1 hg2))
      go_wp2
      go_roundw
      case rel => exact ⟨k + 1, by omega, by go_num, HR.drew.step hlt HK.out hg1 hn1 hg2 hn2⟩
      case measure => simp [intOf]; omega
    · go_wp2
      go_ret
      have hT := HR.new HN.out (by omega) hn
      refine ⟨wo.heap.size, .slice (some ⟨B, 0, none⟩) n n, rfl, ?_⟩
      rw [← HB.out]
      exact ⟨HR.grew.alloc (Nat.le_of_lt HR.size) _ _, Nat.le_of_lt HR.size, by simp, by simp, hT.carry (fun b o _ h2 => World.cell?_alloc_lt _ _ _ h2) (Nat.le_refl _) (Nat.le_refl _)⟩

set_option maxHeartbeats 400000 in
theorem aff_isNil (v : Value) (w : World) : Calls Try.prog 7 #[.bool true, v] w fun e w' => e = .returned (.pointer none) ∧ w' = w := by
  go_enter Try.func7, Try.ntmps7
  go_wp2
  go_ret
  exact ⟨rfl, rfl⟩

set_option maxHeartbeats 400000 in
theorem aff_nilTerms (m : Nat) (w : World) : Calls Try.prog 7 #[.bool false, .slice none 0 m] w fun e w' => e = .returned (.pointer (some ⟨w.heap.size, 0, none⟩)) ∧ w' = w.alloc (.cells #[.slice none 0 0] 36) := by
  go_enter Try.func7, Try.ntmps7
  go_wp2
  go_ret
  exact ⟨rfl, rfl⟩

set_option maxHeartbeats 400000 in
theorem aff_empty (a : Addr) (m : Nat) (w : World) : Calls Try.prog 7 #[.bool false, .slice (some a) 0 m] w fun e w' => e = .returned (.pointer (some ⟨w.heap.size + 1, 0, none⟩)) ∧ ∃ C, w' = (w.alloc (.cells C 39)).alloc (.cells #[.slice (some ⟨w.heap.size, 0, none⟩) 0 0] 36) := by
  obtain ⟨C, hC, hmk⟩ := make_named 34 39 _ 2 48 Try.underlying34 Try.info39 0 (by omega) (by omega)
  have hmk' : ∀ w, (Instr.makeSlice 34 (.int .i64 0) (.int .i64 0)).run Try.prog w = .ok (.slice (some ⟨w.heap.size, 0, none⟩) 0 0) (w.alloc (.cells C 39)) := hmk
  clear hmk hC
  go_enter Try.func7, Try.ntmps7
  go_wp2
  refine wp_loop_rounds 1 ?_
  rw [rounds_succ]
  go_wp2
  go_ret
  exact ⟨rfl, _, rfl⟩

/-- What zzAffinity leaves. -/
def AffPost (ts : List Term) (w : World) (e : Ending) (w' : World) : Prop :=
  ∃ bA v, e = .returned (.pointer (some ⟨bA, 0, none⟩)) ∧ Grew w.heap.size w w' ∧ w.heap.size ≤ bA ∧ w'.heap.size = bA + 1 ∧ w'.cell? ⟨bA, 0, none⟩ = some v ∧ TermsNew w' w.heap.size bA v ts

theorem aff_any (v : Value) (ts : List Term) (lo hi : Nat) (hw : wTerms ts ≤ 1048576) (w : World) (hhi : hi ≤ w.heap.size) (h : Terms w lo hi v ts) :
    Calls Try.prog 7 #[.bool false, v] w fun e w' => AffPost ts w e w' := by
  obtain ⟨ao, m, rfl, hn, z, f⟩ := h
  by_cases h0 : ts.length = 0
  · have e : ts = [] := List.length_eq_zero_iff.1 h0
    subst e
    cases ao with
    | none =>
      refine (aff_nilTerms m w).mono ?_
      rintro e w' ⟨rfl, rfl⟩
      exact ⟨w.heap.size, .slice none 0 0, rfl, (Grew.refl _ _).alloc (Nat.le_refl _) _ _, Nat.le_refl _, by simp, by simp, TermsNew.nil _ _ _⟩
    | some a =>
      refine (aff_empty a m w).mono ?_
      rintro e w' ⟨rfl, C, rfl⟩
      refine ⟨w.heap.size + 1, .slice (some ⟨w.heap.size, 0, none⟩) 0 0, rfl, ((Grew.refl _ _).alloc (Nat.le_refl _) _ _).alloc (by simp) _ _, by simp, by simp, ?_, ⟨_, rfl, Nat.zero_le _, fun e => (by cases e), fun a' e => ⟨w.heap.size, by simpa using e.symm, Nat.le_refl _, by simp⟩, fun j hj => absurd hj (Nat.not_lt_zero _)⟩⟩
      simp
  · obtain ⟨b, o, rfl, _, hb, _⟩ := f 0 (by omega)
    have hl : ts.length ≤ 1048576 := by unfold wTerms at hw; omega
    exact aff_loop b o m ts.length ts lo hi hl rfl hw w (by omega) hhi
      (fun j hj => by obtain ⟨b', o', e, _, _, h⟩ := f j hj; simp only [Option.some.injEq, Addr.mk.injEq] at e; rw [e.1, e.2.1]; exact h)
end Go.Proofs.Qxb6627374a
