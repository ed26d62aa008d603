/-
  'zzReqs': a copy of a slice of requirements in new memory.
-/
import Derived.Test.Qxb6627374aFit
import Derived.Test.Qxb6627374aBuildLaws
import Derived.WalkLawsBesides
import Derived.RegionTactic
import Derived.ChangeAlike
import Derived.BigRegion
namespace Go.Proofs.Qxb6627374a
open Go.RowKit

theorem Try.info54 : (Try.prog.info? 54).map (fun i => (i.zero, i.size, i.bytes)) = some (some (.agg #[.string ⟨#[]⟩, .string ⟨#[]⟩, .slice none 0 0]), 3, 56) := by kernel_rfl
theorem Try.info9 : (Try.prog.info? 9).map (fun i => (i.zero, i.size, i.bytes)) = some (some (.string ⟨#[]⟩), 1, 16) := by kernel_rfl
theorem Try.info39 : (Try.prog.info? 39).map (fun i => (i.zero, i.size, i.bytes)) = some (some (.agg #[.slice none 0 0, .slice none 0 0]), 2, 48) := by kernel_rfl

theorem eql_slice_nil {P : Program} (w : World) (t e : TypeId) (a : Option Addr) (l c : Nat) (h : P.underlying t = some (.slice e)) : (binOp .eql t (.slice a l c) (.slice none 0 0)).run P w = .ok (.bool a.isNone) w := by
  have h : ∀ d : Nat, (Op.equalIn (d + 1) t (.slice a l c) (.slice none 0 0)).run P w = .ok a.isNone w := fun d => by
    cases a <;> simp [Op.equalIn, run_underlying h]
  simp only [binOp]
  simp [Op.equal, Op.maxDepth, h 9999]

/-- 'make([]T, n)': the new block's cells behind a name. -/
theorem make_named {P : Program} (t e : TypeId) (z : Value) (size bytes : Nat) (ht : P.underlying t = some (.slice e)) (hinfo : (P.info? e).map (fun i => (i.zero, i.size, i.bytes)) = some (some z, size, bytes))
    (n : Nat) (hb : bytes * n ≤ 281474976710656) (h63 : n ≤ 9223372036854775807) :
    ∃ C : Array Value, C.size = n * size ∧ ∀ w, (Instr.makeSlice t (.int .i64 (n : Int)) (.int .i64 (n : Int))).run P w = .ok (.slice (some ⟨w.heap.size, 0, none⟩) n n) (w.alloc (.cells C e)) := by
  obtain ⟨i, hi, hz, hs, hb'⟩ := info_parts hinfo
  refine ⟨madeCells z.cells (n * size), size_madeCells _ _, fun w => ?_⟩
  have hb2 : (i.bytes : Int) * (n : Int) ≤ 281474976710656 := by
    have h : ((i.bytes * n : Nat) : Int) ≤ 281474976710656 := by rw [hb']; omega
    rwa [Int.natCast_mul] at h
  have hr := run_make (P := P) w t e i z ht hi hz .i64 .i64 n n (by omega) (Int.le_refl _) hb2 (by omega)
  simp only [Int.toNat_natCast, hs] at hr
  exact hr

theorem sumR_mem (l : List Req) (k : Nat) (h : k < l.length) : wReq l[k] ≤ sumR l := by
  induction l generalizing k with
  | nil => simp at h
  | cons s l ih =>
    cases k with
    | zero => simp [sumR]
    | succ k =>
      have := ih k (by simpa using h)
      simp only [sumR, List.getElem_cons_succ]; omega

/-- The inner loop's relation. -/
def RelV (w0 : World) (B m : Nat) (ss : List ByteArray) (i : Value) (wi : World) : Prop := ∃ l : Nat, l ≤ m ∧ i = .int .i64 l ∧ SInv w0 B m ss l wi
/-- The outer loop's relation. -/
def RelB (w : World) (B n : Nat) (rs : List Req) (i : Value) (wr : World) : Prop := ∃ k : Nat, k ≤ n ∧ i = .int .i64 k ∧ RInv w B n rs k wr

set_option maxHeartbeats 2000000 in
theorem reqs_loop (x1 y1 m1 n : Nat) (rs : List Req) (lo hi : Nat) (hn : n ≤ 1048576) (HN : Hid (n = rs.length)) (HW : Hid (wReqs rs ≤ 1048576)) (w : World) (hx : x1 < w.heap.size) (hhi : hi ≤ w.heap.size)
    (f1 : ∀ j (h : j < rs.length), ReqAt w lo hi x1 (y1 + j * 3) rs[j]) :
    Calls Try.prog 14 #[.slice (some ⟨x1, y1, none⟩) n m1] w fun e w' => ∃ v, e = .returned v ∧ Grew w.heap.size w w' ∧ w.heap.size ≤ w'.heap.size ∧ ReqsNew w' w.heap.size w'.heap.size v rs := by
  obtain ⟨C, hC, hmk⟩ := make_named 37 54 _ 3 56 Try.underlying37 Try.info54 n (by omega) (by omega)
  have hq := fun w => eql_slice_nil w 41 _ (some ⟨x1, y1, none⟩) n m1 Try.underlying41
  have HI := RInv.start w C 54 n rs hC
  go_enter Try.func14, Try.ntmps14
  go_wp2
  obtain ⟨B, hB⟩ : ∃ B, B = w.heap.size := ⟨_, rfl⟩
  rw [← hB] at HI ⊢
  have HB : Hid (B = w.heap.size) := hB
  rw [← hB] at hx hhi
  clear hB hmk hq
  go_loopw [4] (fun i wr => RelB w B n rs i wr) (fun i _ => n - (intOf i).toNat)
  case atStart => exact ⟨0, Nat.zero_le _, rfl, HI⟩
  case round =>
    obtain ⟨k, hk, rfl, HR⟩ := hrel
    obtain ⟨wo, rfl⟩ : ∃ wo : World, wo = wr := ⟨wr, rfl⟩
    by_cases hlt : k < n
    · have hk1 : k < rs.length := by rw [← HN.out]; exact hlt
      obtain ⟨c1, c2, v, c3, g⟩ := f1 k hk1
      have hwr := sumR_mem rs k hk1
      obtain ⟨r, hr⟩ : ∃ r, r = rs[k] := ⟨_, rfl⟩
      have HK : Hid (rs[k]? = some r) := by show _ = _; rw [hr]; exact List.getElem?_eq_getElem hk1
      rw [← hr] at c1 c2 g hwr
      have hml : r.vals.length ≤ 1048576 := by have := HW.out; unfold wReqs at this; unfold wReq at hwr; omega
      rw [← HR.grew.cell hx] at c1 c2 c3
      have g' : Strs wo lo hi v r.vals := g.carry (HR.grew.same hhi) (Nat.le_refl _) (Nat.le_refl _)
      have hBs := HR.size
      clear hr hwr hk1 g HI f1
      obtain ⟨av, mv, ev, hm0, hnone, gc⟩ := g'
      obtain ⟨m, hm⟩ : ∃ m, m = r.vals.length := ⟨_, rfl⟩
      rw [← hm] at ev hml
      rw [ev] at c3
      have HM : Hid (m = r.vals.length) := hm
      clear hm hm0
      cases av with
      | none =>
        have HE : Hid (r.vals = []) := hnone rfl
        have hrow := HR.row
        obtain ⟨o0, r0⟩ := hrow (k * 3) (by omega)
        obtain ⟨o1, r1⟩ := hrow (k * 3 + 1) (by omega)
        obtain ⟨o2, r2⟩ := hrow (k * 3 + 2) (by omega)
        have hfz : ∀ o, wo.frozen? ⟨B, o, none⟩ = false := fun o => (HR.grew.2 _).trans (frozen_new w (by rw [← HB.out]; exact Nat.le_refl _) o)
        clear hnone gc hrow
        go_wp2
        go_region
        go_wp2
        go_roundw
        case rel => exact ⟨k + 1, by omega, by go_num, (HR.step hlt HK.out (Grew.refl _ _) (Strs.nil _ _ _ HE.out)).drew⟩
        case measure => simp [intOf]; omega
      | some ad =>
        clear hnone
        obtain ⟨C2, hC2, hmk⟩ := make_named 44 9 _ 1 16 Try.underlying44 Try.info9 m (by omega) (by omega)
        have HS := SInv.start wo C2 9 m r.vals (by rw [hC2, Nat.mul_one])
        go_wp2
        obtain ⟨B2, hB2⟩ : ∃ B2, B2 = wo.heap.size := ⟨_, rfl⟩
        rw [← hB2] at HS ⊢
        have HB2 : Hid (B2 = wo.heap.size) := hB2
        have hx2 : x1 < B2 := by omega
        have hhi2 : hi ≤ B2 := by omega
        have hB12 : B < B2 := by omega
        clear hB2 hmk
        go_loopw [6] (fun i wi => RelV wo B2 m r.vals i wi) (fun i _ => m - (intOf i).toNat)
        case atStart => exact ⟨0, Nat.zero_le _, rfl, HS⟩
        case round =>
          obtain ⟨l, hl, rfl, HV⟩ := hrel
          have d3 : wr.cell? ⟨x1, y1 + k * 3 + 2, none⟩ = some (.slice (some ad) m mv) := (HV.grew.cell hx2 _).trans c3
          by_cases hll : l < m
          · have hl1 : l < r.vals.length := by rw [← HM.out]; exact hll
            obtain ⟨bx, ox, ea, _, hbx, gx⟩ := gc l hl1
            obtain ⟨u, hu⟩ : ∃ u, u = r.vals[l] := ⟨_, rfl⟩
            have HU : Hid (r.vals[l]? = some u) := by show _ = _; rw [hu]; exact List.getElem?_eq_getElem hl1
            rw [← hu, ← HV.grew.cell (show bx < B2 by omega)] at gx
            rw [ea] at d3
            obtain ⟨old, hold⟩ := HV.row l hll
            have hfz : wr.frozen? ⟨B2, l, none⟩ = false := (HV.grew.2 _).trans (frozen_new wo (by rw [← HB2.out]; exact Nat.le_refl _) l)
            clear hu hl1 ea gc c1 c2 c3
            go_wp2
            go_roundw
            case rel => exact ⟨l + 1, by omega, by go_num, HV.step hll HU.out⟩
            case measure => simp [intOf]; omega
          · have hst := HV.strs HM.out (by omega) (by omega)
            have d1 := (HV.grew.cell hx2 _).trans c1
            have d2 := (HV.grew.cell hx2 _).trans c2
            have hrow : Row wr B (n * 3) := HR.row.carry fun o => HV.grew.cell hB12 o
            obtain ⟨o0, r0⟩ := hrow (k * 3) (by omega)
            obtain ⟨o1, r1⟩ := hrow (k * 3 + 1) (by omega)
            obtain ⟨o2, r2⟩ := hrow (k * 3 + 2) (by omega)
            have hfz : ∀ o, wr.frozen? ⟨B, o, none⟩ = false := fun o => (HV.grew.2 _).trans ((HR.grew.2 _).trans (frozen_new w (by rw [← HB.out]; exact Nat.le_refl _) o))
            have HG := HV.grew
            have HZ := HV.size
            clear c1 c2 c3 gc
            go_wp2
            go_region
            go_wp2
            go_roundw
            case rel =>
              have hb := HB2.out
              exact ⟨k + 1, by omega, by go_num, (HR.step hlt HK.out (by rw [← hb]; exact HG) (hst.carry Same.refl (by omega) (by omega))).drew⟩
            case measure => simp [intOf]; omega
    · go_wp2
      go_ret
      refine ⟨_, rfl, ?_⟩
      rw [← HB.out]
      exact ⟨HR.grew, Nat.le_of_lt HR.size, HR.new HN.out (by omega) hn⟩

set_option maxHeartbeats 400000 in
theorem reqs_nil (m : Nat) (w : World) : Calls Try.prog 14 #[.slice none 0 m] w fun e w' => e = .returned (.slice none 0 0) ∧ w' = w := by
  have hq := fun w => eql_slice_nil w 41 _ none 0 m Try.underlying41
  go_enter Try.func14, Try.ntmps14
  go_wp2
  go_ret
  exact ⟨rfl, rfl⟩

set_option maxHeartbeats 400000 in
theorem reqs_empty (a : Addr) (m : Nat) (w : World) : Calls Try.prog 14 #[.slice (some a) 0 m] w fun e w' => e = .returned (.slice (some ⟨w.heap.size, 0, none⟩) 0 0) ∧ ∃ C, w' = w.alloc (.cells C 54) := by
  obtain ⟨C, hC, hmk⟩ := make_named 37 54 _ 3 56 Try.underlying37 Try.info54 0 (by omega) (by omega)
  have hq := fun w => eql_slice_nil w 41 _ (some a) 0 m Try.underlying41
  have hmk' : ∀ w, (Instr.makeSlice 37 (.int .i64 0) (.int .i64 0)).run Try.prog w = .ok (.slice (some ⟨w.heap.size, 0, none⟩) 0 0) (w.alloc (.cells C 54)) := hmk
  clear hmk hC
  go_enter Try.func14, Try.ntmps14
  go_wp2
  refine wp_loop_rounds 1 ?_
  rw [rounds_succ]
  go_wp2
  go_ret
  exact ⟨rfl, _, rfl⟩

/-- zzReqs: a copy in new memory. -/
theorem reqs_any (v : Value) (rs : List Req) (lo hi : Nat) (hw : wReqs rs ≤ 1048576) (w : World) (hhi : hi ≤ w.heap.size) (h : Reqs w lo hi v rs) :
    Calls Try.prog 14 #[v] w fun e w' => ∃ v', e = .returned v' ∧ Grew w.heap.size w w' ∧ w.heap.size ≤ w'.heap.size ∧ ReqsNew w' w.heap.size w'.heap.size v' rs := by
  obtain ⟨ao, m, rfl, hn, z, f⟩ := h
  by_cases h0 : rs.length = 0
  · have e : rs = [] := List.length_eq_zero_iff.1 h0
    subst e
    cases ao with
    | none =>
      refine (reqs_nil m w).mono ?_
      rintro e w' ⟨rfl, rfl⟩
      exact ⟨_, rfl, Grew.refl _ _, Nat.le_refl _, ReqsNew.nil _ _ _⟩
    | some a =>
      refine (reqs_empty a m w).mono ?_
      rintro e w' ⟨rfl, C, rfl⟩
      exact ⟨_, rfl, (Grew.refl _ _).alloc (Nat.le_refl _) _ _, by simp, ⟨_, rfl, Nat.zero_le _, fun e => (by cases e), fun a' e => ⟨w.heap.size, by simpa using e.symm, Nat.le_refl _, by simp⟩, fun j hj => absurd hj (Nat.not_lt_zero _)⟩⟩
  · obtain ⟨b, o, rfl, _, hb, _⟩ := f 0 (by omega)
    have hl : rs.length ≤ 1048576 := by unfold wReqs at hw; omega
    exact reqs_loop b o m rs.length rs lo hi hl rfl hw w (by omega) hhi
      (fun j hj => by obtain ⟨b', o', e, _, _, h⟩ := f j hj; simp only [Option.some.injEq, Addr.mk.injEq] at e; rw [e.1, e.2.1]; exact h)
end Go.Proofs.Qxb6627374a
