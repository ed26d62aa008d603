/-
  toTokens, cursorAt.
-/
import Derived.Test.Qxb6627392aFmtCursor
namespace Go.Proofs.Qxb6627392aFmt
open Go.RowKit

theorem Tryf.info42 : (Tryf.prog.info? 42).map (fun i => (i.zero, i.size, i.bytes)) = some (some (.agg #[.string ⟨#[]⟩, .string ⟨#[]⟩, .int .i64 0]), 3, 40) := by kernel_rfl

/-- 'make([]T, n)': the new block's cells behind a name. -/
theorem make_named {P : Program} (t e : TypeId) (z : Value) (size bytes : Nat) (ht : P.underlying t = some (.slice e)) (hinfo : (P.info? e).map (fun i => (i.zero, i.size, i.bytes)) = some (some z, size, bytes))
    (n : Nat) (hb : bytes * n ≤ 281474976710656) (h63 : n ≤ 9223372036854775807) :
    ∃ C : Array Value, C.size = n * size ∧ ∀ w, (Instr.makeSlice t (.int .i64 (n : Int)) (.int .i64 (n : Int))).run P w = .ok (.slice (some ⟨w.heap.size, 0, none⟩) n n) (w.alloc (.cells C e)) := by
  obtain ⟨i, hi, hz, hs, hb'⟩ := info_parts hinfo
  refine ⟨madeCells z.cells (n * size), size_madeCells _ _, fun w => ?_⟩
  have hb2 : (i.bytes : Int) * (n : Int) ≤ 281474976710656 := by
    have h : ((i.bytes * n : Nat) : Int) ≤ 281474976710656 := by rw [hb']; omega
    rwa [Int.natCast_mul] at h
  have hr := run_make (P := P) w t e i z ht hi hz .i64 .i64 n n (by omega) (Int.le_refl _) hb2 (by omega)
  simp only [Int.toNat_natCast, hs] at hr
  exact hr

/-- The tokens of a slice's memory. -/
def TksAt (w : World) (ao : Option Addr) (hi : Nat) (ts : List Tk) : Prop :=
  ∀ j (h : j < ts.length), ∃ b off, ao = some ⟨b, off, none⟩ ∧ b < hi ∧ TkAt w b (off + j * 3) ts[j]
theorem TksAt.grown {w w' : World} {ao : Option Addr} {hi : Nat} {ts : List Tk} (h : TksAt w ao hi ts) (g : w.grownBy w' none) : TksAt w' ao hi ts := fun j hj => by
  obtain ⟨b, off, e, hb, ht⟩ := h j hj
  exact ⟨b, off, e, hb, ht.grown g (by simp)⟩

/-- The new row, its first k tokens laid. -/
structure Laid (w : World) (B n k : Nat) (ts : List Tk) (wr : World) : Prop where
  grew : w.grownBy wr none
  toks : ∀ j (h : j < ts.length), j < k → TkAt wr B (j * 3) ts[j]
  row : ∀ o, o < n * 3 → ∃ u, wr.cell? ⟨B, o, none⟩ = some u
  thaw : ∀ o, wr.frozen? ⟨B, o, none⟩ = false
  big : B < wr.heap.size

theorem Laid.start (w : World) (C : Array Value) (n : Nat) (ts : List Tk) (hC : C.size = n * 3) : Laid w w.heap.size n 0 ts (w.alloc (.cells C 42)) where
  grew := grown_alloc _ _ _
  toks := fun _ _ h => absurd h (by omega)
  row := fun o ho => ⟨C[o]'(by omega), by rw [World.cell?_alloc_new]; exact Array.getElem?_eq_getElem (by omega)⟩
  thaw := fun o => frozen_alloc _ _ _ _
  big := by rw [World.size_alloc]; omega

theorem Laid.step {w wr : World} {B n k : Nat} {ts : List Tk} (h : Laid w B n k ts wr) (hB : w.heap.size ≤ B) (hk : k < ts.length) (hkn : k < n) {t : Tk} (ht : ts[k]? = some t) :
    Laid w B n (k + 1) ts ((((wr.setCell ⟨B, k * 3, none⟩ (.string t.kind)).setCell ⟨B, k * 3 + 1, none⟩ (.string t.text)).setCell ⟨B, k * 3 + 2, none⟩ (.int .i64 t.line)).drew) := by
  have o : ∀ (v : World) (i j : Nat) (u : Value), i ≠ j → (v.setCell ⟨B, i, none⟩ u).cell? ⟨B, j, none⟩ = v.cell? ⟨B, j, none⟩ := fun v i j u h => World.cell?_setCell_other _ _ _ _ (fun e => h (congrArg Addr.off e))
  have e : ∀ (v : World) (i : Nat) (u x : Value), v.cell? ⟨B, i, none⟩ = some x → (v.setCell ⟨B, i, none⟩ u).cell? ⟨B, i, none⟩ = some u := fun v i u x h => World.cell?_setCell_same _ _ _ h
  obtain ⟨u0, h0⟩ := h.row (k * 3) (by omega)
  obtain ⟨u1, h1⟩ := h.row (k * 3 + 1) (by omega)
  obtain ⟨u2, h2⟩ := h.row (k * 3 + 2) (by omega)
  have et : ts[k] = t := by rw [List.getElem?_eq_getElem hk] at ht; exact Option.some.inj ht
  have x1 : (wr.setCell ⟨B, k * 3, none⟩ (.string t.kind)).cell? ⟨B, k * 3 + 1, none⟩ = some u1 := by rw [o _ _ _ _ (by omega)]; exact h1
  have x2 : ((wr.setCell ⟨B, k * 3, none⟩ (.string t.kind)).setCell ⟨B, k * 3 + 1, none⟩ (.string t.text)).cell? ⟨B, k * 3 + 2, none⟩ = some u2 := by rw [o _ _ _ _ (by omega), o _ _ _ _ (by omega)]; exact h2
  refine ⟨grown_drew (grown_set (grown_set (grown_set h.grew (.inl hB) _) (.inl hB) _) (.inl hB) _), ?_, ?_, ?_, ?_⟩
  · intro j hj hjk
    by_cases ej : j = k
    · subst ej
      rw [et]
      refine ⟨?_, ?_, ?_⟩
      · show (World.setCell _ _ _).cell? _ = _
        rw [o _ _ _ _ (by omega), o _ _ _ _ (by omega)]; exact e _ _ _ _ h0
      · show (World.setCell _ _ _).cell? _ = _
        rw [o _ _ _ _ (by omega)]; exact e _ _ _ _ x1
      · exact e _ _ _ _ x2
    · obtain ⟨y0, y1, y2⟩ := h.toks j hj (by omega)
      refine ⟨?_, ?_, ?_⟩
      all_goals
        show (World.setCell _ _ _).cell? _ = _
        rw [o _ _ _ _ (by omega), o _ _ _ _ (by omega), o _ _ _ _ (by omega)]
        assumption
  · intro q hq
    by_cases q2 : q = k * 3 + 2
    · exact ⟨_, by subst q2; exact e _ _ _ _ x2⟩
    · by_cases q1 : q = k * 3 + 1
      · refine ⟨.string t.text, ?_⟩
        subst q1
        show (World.setCell _ _ _).cell? _ = _
        rw [o _ _ _ _ (by omega)]; exact e _ _ _ _ x1
      · by_cases q0 : q = k * 3
        · refine ⟨.string t.kind, ?_⟩
          subst q0
          show (World.setCell _ _ _).cell? _ = _
          rw [o _ _ _ _ (by omega), o _ _ _ _ (by omega)]; exact e _ _ _ _ h0
        · obtain ⟨u, hu⟩ := h.row q hq
          refine ⟨u, ?_⟩
          show (World.setCell _ _ _).cell? _ = _
          rw [o _ _ _ _ (by omega), o _ _ _ _ (by omega), o _ _ _ _ (by omega)]; exact hu
  · intro q
    show (World.setCell _ _ _).frozen? _ = _
    rw [World.frozen?_setCell, World.frozen?_setCell, World.frozen?_setCell]; exact h.thaw q
  · show B < (World.setCell _ _ _).heap.size
    rw [World.size_setCell, World.size_setCell, World.size_setCell]; exact h.big

def RelT (w : World) (B n : Nat) (ts : List Tk) (i : Value) (wr : World) : Prop := ∃ k : Nat, k ≤ n ∧ i = .int .i64 k ∧ Laid w B n k ts wr

set_option maxHeartbeats 1000000 in
theorem toTokens_any (ao : Option Addr) (n cap : Nat) (ts : List Tk) (hn : n ≤ 4096) (HN : Hid (n = ts.length)) (w : World) (h : TksAt w ao w.heap.size ts) :
    Calls Tryf.prog 12 #[.slice ao n cap] w fun e w' => e = .returned (.slice (some ⟨w.heap.size, 0, none⟩) n n) ∧ w.grownBy w' none ∧ w.heap.size < w'.heap.size ∧ ∀ j (h : j < ts.length), TkAt w' w.heap.size (0 + j * 3) ts[j] := by
  obtain ⟨C, hC, hmk⟩ := make_named 38 42 _ 3 40 Tryf.underlying38 Tryf.info42 n (by omega) (by omega)
  have HI := Laid.start w C n ts hC
  go_enter Tryf.func12, Tryf.ntmps12
  go_wp2
  obtain ⟨B, hB⟩ : ∃ B, B = w.heap.size := ⟨_, rfl⟩
  rw [← hB] at HI ⊢
  have HB : Hid (B = w.heap.size) := hB
  clear hB hmk
  go_loopw [4] (fun i wr => RelT w B n ts i wr) (fun i _ => n - (intOf i).toNat)
  case atStart => exact ⟨0, Nat.zero_le _, rfl, HI⟩
  case round =>
    obtain ⟨k, hk, rfl, HL⟩ := hrel
    by_cases hlt : k < n
    · have hk1 : k < ts.length := by rw [← HN.out]; exact hlt
      obtain ⟨b, off, rfl, hb, c0, c1, c2⟩ := h k hk1
      obtain ⟨t, ht⟩ : ∃ t, t = ts[k] := ⟨_, rfl⟩
      have HT : Hid (ts[k]? = some t) := by show _ = _; rw [ht]; exact List.getElem?_eq_getElem hk1
      have d0 := HL.grew.cell c0 (by simp)
      have d1 := HL.grew.cell c1 (by simp)
      have d2 := HL.grew.cell c2 (by simp)
      rw [← ht] at d0 d1 d2
      obtain ⟨u0, r0⟩ := HL.row (k * 3) (by omega)
      obtain ⟨u1, r1⟩ := HL.row (k * 3 + 1) (by omega)
      obtain ⟨u2, r2⟩ := HL.row (k * 3 + 2) (by omega)
      have fz := HL.thaw
      have HH : Hid (Laid w B n k ts wr) := HL
      have hne : b ≠ B := by have := HB.out; omega
      clear HL h HI c0 c1 c2 ht
      go_wp2
      go_region
      go_wp2
      go_roundw
      case rel => exact ⟨k + 1, by omega, by go_num, HH.out.step (Nat.le_of_eq HB.out.symm) hk1 hlt HT.out⟩
      case measure => simp [intOf]; omega
    · go_wp2
      go_ret
      have hb := HB.out
      subst hb
      refine ⟨rfl, HL.grew, HL.big, fun j hj => ?_⟩
      rw [Nat.zero_add]
      exact HL.toks j hj (by rw [← HN.out] at hj; omega)

theorem grown_new {a b w : World} {r : Option Nat} (h : a.grownBy b none) (k : b.grownBy w r) (hc : ∀ c, r = some c → a.heap.size ≤ c) : a.grownBy w none :=
  ⟨k.os.trans h.os, k.tape.trans h.tape, k.output.trans h.output, Nat.le_trans h.size k.size, fun i hi _ => (k.block i (Nat.lt_of_lt_of_le hi h.size) (fun e => by have := hc i e.symm; omega)).trans (h.block i hi (by simp))⟩

/-- The cursor's own tokens: all in block bT, from its first cell on. -/
def Own (w : World) (bT : Nat) (ts : List Tk) : Prop := ∀ j (h : j < ts.length), TkAt w bT (0 + j * 3) ts[j]
theorem Own.grown {w w' : World} {r : Option Nat} {bT : Nat} {ts : List Tk} (h : Own w bT ts) (g : w.grownBy w' r) (hr : some bT ≠ r) : Own w' bT ts := fun j hj => (h j hj).grown g hr

theorem CurAt.made (w : World) (v : Value) : CurAt (w.alloc (.cells #[v, .int .i64 0] 45)) w.heap.size v 0 :=
  ⟨by rw [World.cell?_alloc_new]; rfl, by rw [World.cell?_alloc_new]; rfl, frozen_alloc _ _ _ _, frozen_alloc _ _ _ _⟩

def RelC (W : World) (c i : Nat) (v : Value) (x : Value) (wr : World) : Prop := ∃ k : Nat, k ≤ i ∧ x = .int .i64 k ∧ W.grownBy wr (some c) ∧ CurAt wr c v k

set_option maxHeartbeats 1000000 in
theorem cursorAt_any (ao : Option Addr) (n cap i : Nat) (ts : List Tk) (hn : n ≤ 4096) (HN : Hid (n = ts.length)) (hi : i ≤ n) (w : World) (h : Hid (TksAt w ao w.heap.size ts)) :
    Calls Tryf.prog 5 #[.slice ao n cap, .int .i64 i] w fun e w' => ∃ bT c, e = .returned (.pointer (some ⟨c, 0, none⟩)) ∧ Hid (w.heap.size ≤ bT ∧ bT < c ∧ w.grownBy w' none ∧ CurAt w' c (.slice (some ⟨bT, 0, none⟩) n n) i ∧ Own w' bT ts) := by
  go_enter Tryf.func5, Tryf.ntmps5
  go_wp2_with fail
  refine (toTokens_any ao n cap ts hn HN w h.out).mono ?_
  rintro e w1 ⟨rfl, g1, hlt, o1⟩
  have HO1 : Hid (Own w1 w.heap.size ts) := o1
  clear o1
  go_wp2_with fail
  refine (newCursor_any _ n n w1).mono ?_
  rintro e W ⟨rfl, hW⟩
  have gW : w1.grownBy W none := by rw [hW]; exact grown_alloc _ _ _
  have hc0 : CurAt W w1.heap.size (.slice (some ⟨w.heap.size, 0, none⟩) n n) 0 := by rw [hW]; exact CurAt.made _ _
  have HOW : Hid (Own W w.heap.size ts) := HO1.out.grown gW (by simp)
  obtain ⟨c, hc⟩ : ∃ c, c = w1.heap.size := ⟨_, rfl⟩
  obtain ⟨bT, hb⟩ : ∃ bT, bT = w.heap.size := ⟨_, rfl⟩
  have HG : Hid (w.grownBy W none ∧ bT = w.heap.size ∧ bT < c) := ⟨grown_trans g1 gW, hb, by omega⟩
  rw [← hc] at hc0 ⊢
  rw [← hb] at hc0 HOW ⊢
  have HC0 : Hid (CurAt W c (.slice (some ⟨bT, 0, none⟩) n n) 0) := hc0
  clear hc hb hW gW hlt g1 HO1 hc0
  go_wp2_with fail
  go_loopw [6] (fun x wr => RelC W c i (.slice (some ⟨bT, 0, none⟩) n n) x wr) (fun x _ => i - (intOf x).toNat)
  case atStart => exact ⟨0, Nat.zero_le _, rfl, grown_refl _ _, HC0.out⟩
  case round =>
    obtain ⟨k, hk, rfl, hg, hcu⟩ := hrel
    have HU : Hid (W.grownBy wr (some c) ∧ CurAt wr c (.slice (some ⟨bT, 0, none⟩) n n) k) := ⟨hg, hcu⟩
    clear hg hcu
    by_cases hlt : k < i
    · have hk1 : k < ts.length := by rw [← HN.out]; omega
      go_wp2_with fail
      refine (next_any c k n n bT 0 ts[k] wr hn (by omega) HU.out.2 ((HOW.out k hk1).grown HU.out.1 (fun e => by have := HG.out.2.2; cases e; omega))).mono ?_
      rintro e w2 ⟨rfl, g2, c2⟩
      have HU2 : Hid (W.grownBy w2 (some c) ∧ CurAt w2 c (.slice (some ⟨bT, 0, none⟩) n n) (k + 1 : Nat)) := ⟨grown_trans HU.out.1 g2, c2⟩
      clear g2 c2
      go_wp2_with fail
      go_roundw
      case rel => exact ⟨k + 1, by omega, by go_num, HU2.out⟩
      case measure => simp [intOf]; omega
    · have hki : k = i := by omega
      subst hki
      go_wp2_with fail
      go_ret
      obtain ⟨gW, e1, e2⟩ := HG.out
      exact ⟨bT, c, rfl, by omega, e2, grown_new gW HU.out.1 (fun x hx => by cases hx; omega), HU.out.2, HOW.out.grown HU.out.1 (fun e => by cases e; omega)⟩
end Go.Proofs.Qxb6627392aFmt
