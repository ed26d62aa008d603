/-
  'equalRequirements' and 'Equal'.
-/
import Derived.Test.Qxb6627374aEqual
import Derived.Deep.RegionWith
namespace Go.Proofs.Qxb6627374a
open Go.RowKit

set_option maxHeartbeats 400000 in
theorem eqReqs_len (a1 a2 : Option Addr) (n1 n2 m1 m2 : Nat) (hne : ((n1 : Int) == (n2 : Int)) = false) (w : World) :
    Calls Try.prog 17 #[.slice a1 n1 m1, .slice a2 n2 m2] w fun e w' => e = .returned (.bool false) ∧ w' = w := by
  go_enter Try.func17, Try.ntmps17
  go_wp2
  go_ret
  exact ⟨rfl, rfl⟩

set_option maxHeartbeats 400000 in
theorem eqReqs_none (a1 a2 : Option Addr) (m1 m2 : Nat) (w : World) :
    Calls Try.prog 17 #[.slice a1 0 m1, .slice a2 0 m2] w fun e w' => e = .returned (.bool true) ∧ w' = w := by
  go_enter Try.func17, Try.ntmps17
  go_wp2
  refine wp_loop_rounds 1 ?_
  rw [rounds_succ]
  go_wp2
  go_ret
  exact ⟨rfl, rfl⟩

/-- The loop's relation of 'equalRequirements'. -/
def RelQ (w : World) (s1 s2 : List Req) (i : Value) (wr : World) : Prop := ∃ k n : Nat, k ≤ s1.length ∧ i = .int .i64 k ∧ Agree s1 s2 k ∧ wr = w.drewN n

set_option maxHeartbeats 1000000 in
theorem eqReqs_loop (x1 y1 m1 x2 y2 m2 n : Nat) (s1 s2 : List Req) (lo hi lo' hi' : Nat) (hn : n ≤ 9223372036854775807) (HL : Hid (s1.length = s2.length)) (HN : Hid (n = s1.length)) (w : World)
    (f1 : ∀ j (h : j < s1.length), ReqAt w lo hi x1 (y1 + j * 3) s1[j]) (f2 : ∀ j (h : j < s2.length), ReqAt w lo' hi' x2 (y2 + j * 3) s2[j]) :
    Calls Try.prog 17 #[.slice (some ⟨x1, y1, none⟩) n m1, .slice (some ⟨x2, y2, none⟩) n m2] w fun e w' => e = .returned (.bool (rsEq s1 s2)) ∧ ∃ n, w' = w.drewN n := by
  go_enter Try.func17, Try.ntmps17
  go_wp2
  go_loopw [13] (fun i wr => RelQ w s1 s2 i wr) (fun i _ => n - (intOf i).toNat)
  case atStart => exact ⟨0, 0, Nat.zero_le _, rfl, fun j hj => absurd hj (Nat.not_lt_zero _), rfl⟩
  case round =>
    obtain ⟨k, q, hk, rfl, hag, hwr⟩ := hrel
    have HW : Hid (wr = w.drewN q) := hwr
    clear hwr
    rw [← HN.out] at hk
    by_cases hlt : k < n
    · have hk1 : k < s1.length := by rw [← HN.out]; exact hlt
      have hk2 : k < s2.length := by rw [← HL.out]; exact hk1
      have g1 := f1 k hk1
      have g2 := f2 k hk2
      obtain ⟨u1, hu1⟩ : ∃ u, u = s1[k] := ⟨_, rfl⟩
      obtain ⟨u2, hu2⟩ : ∃ u, u = s2[k] := ⟨_, rfl⟩
      rw [← hu1] at g1
      rw [← hu2] at g2
      have HA : Hid (Agree s1 s2 k ∧ s1[k]? = some u1 ∧ s2[k]? = some u2) := ⟨hag, by rw [hu1]; exact List.getElem?_eq_getElem hk1, by rw [hu2]; exact List.getElem?_eq_getElem hk2⟩
      have hsame : ∀ m a, (wr.drewN m).cell? a = w.cell? a := fun m a => by rw [HW.out]; rfl
      have HC : ∀ m, Calls Try.prog 20 #[.pointer (some ⟨x1, y1 + k * 3, none⟩), .pointer (some ⟨x2, y2 + k * 3, none⟩)] (wr.drewN m) fun e w' => e = .returned (.bool (rEq u1 u2)) ∧ ∃ m', w' = (wr.drewN m).drewN m' :=
        fun m => equal_any _ _ _ _ u1 u2 lo hi lo' hi' (wr.drewN m) (g1.carry (fun _ _ _ _ => hsame m _) (Nat.le_refl _) (Nat.le_refl _) fun _ => hsame m _) (g2.carry (fun _ _ _ _ => hsame m _) (Nat.le_refl _) (Nat.le_refl _) fun _ => hsame m _)
      clear hag hu1 hu2 hk1 hk2 f1 f2 g1 g2 hsame
      by_cases hu : rEq u1 u2 = true
      · go_wp2
        go_quiet ((go_at_call 20; exact Calls.quiet_of (HC _)))
        go_wp2
        go_roundw
        case rel => exact ⟨k + 1, _, by rw [← HN.out]; omega, by go_num, agree_step HA.out ((rEq_iff u1 u2).1 hu), by rw [HW.out]; exact World.drewN_drewN _ _ _⟩
        case measure => simp [intOf]; omega
      · have hf : rEq u1 u2 = false := by simpa using hu
        clear hu
        go_wp2
        go_quiet ((go_at_call 20; exact Calls.quiet_of (HC _)))
        go_wp2
        go_ret
        refine ⟨ret_bool ?_, _, by rw [HW.out]; exact World.drewN_drewN _ _ _⟩
        obtain ⟨_, h1, h2⟩ := HA.out
        refine bool_of_iff (p := s1 = s2) ⟨fun h => (by cases h), fun h => ?_⟩ (rsEq_iff s1 s2)
        rw [h, h2] at h1
        rw [show u1 = u2 by simpa using h1.symm, (rEq_iff u2 u2).2 rfl] at hf
        exact hf.symm
    · go_wp2
      go_ret
      exact ⟨ret_bool ((rsEq_iff s1 s2).2 (agree_all hag HL.out (by rw [← HN.out]; omega))).symm, _, HW.out⟩

theorem eqReqs_any (v1 v2 : Value) (s1 s2 : List Req) (lo hi lo' hi' : Nat) (w : World) (h1 : Reqs w lo hi v1 s1) (h2 : Reqs w lo' hi' v2 s2) :
    Calls Try.prog 17 #[v1, v2] w fun e w' => e = .returned (.bool (rsEq s1 s2)) ∧ ∃ n, w' = w.drewN n := by
  obtain ⟨a1, m1, rfl, hn1, z1, f1⟩ := h1
  obtain ⟨a2, m2, rfl, hn2, z2, f2⟩ := h2
  by_cases hl : s1.length = s2.length
  · by_cases h0 : s1.length = 0
    · have e1 : s1 = [] := List.length_eq_zero_iff.1 h0
      have e2 : s2 = [] := List.length_eq_zero_iff.1 (by omega)
      subst e1 e2
      refine (eqReqs_none a1 a2 m1 m2 w).mono ?_
      rintro e w' ⟨rfl, rfl⟩
      exact ⟨rfl, 0, rfl⟩
    · obtain ⟨b1, o1, rfl, _⟩ := f1 0 (by omega)
      obtain ⟨b2, o2, rfl, _⟩ := f2 0 (by omega)
      have := eqReqs_loop b1 o1 m1 b2 o2 m2 s1.length s1 s2 lo hi lo' hi' hn1 hl rfl w
        (fun j hj => by obtain ⟨b, o, e, _, _, h⟩ := f1 j hj; simp only [Option.some.injEq, Addr.mk.injEq] at e; rw [e.1, e.2.1]; exact h)
        (fun j hj => by obtain ⟨b, o, e, _, _, h⟩ := f2 j hj; simp only [Option.some.injEq, Addr.mk.injEq] at e; rw [e.1, e.2.1]; exact h)
      rw [← hl]
      exact this
  · refine (eqReqs_len a1 a2 _ _ m1 m2 (by simp; omega) w).mono ?_
    rintro e w' ⟨rfl, rfl⟩
    exact ⟨ret_bool (bool_of_iff ⟨fun h => (by cases h), fun h => absurd (by rw [h]) hl⟩ (rsEq_iff s1 s2)), 0, rfl⟩

/-! ### Equal -/
set_option maxHeartbeats 400000 in
theorem eq_nil_nil (w : World) : Calls Try.prog 10 #[.pointer none, .pointer none] w fun e w' => e = .returned (.bool true) ∧ ∃ n, w' = w.drewN n := by
  go_enter Try.func10, Try.ntmps10
  go_wp2
  go_ret
  exact ⟨rfl, 0, rfl⟩
theorem nil_eql_ptr {P : Program} (w : World) (t e : TypeId) (a : Addr) (h : P.underlying t = some (.pointer e)) :
    (binOp .eql t (.pointer none) (.pointer (some a))).run P w = .ok (.bool false) w := by
  have h : ∀ d : Nat, (Op.equalIn (d + 1) t (.pointer none) (.pointer (some a))).run P w = .ok false w := fun d => by
    simp [Op.equalIn, run_underlying h]
  simp only [binOp]
  simp [Op.equal, Op.maxDepth, h 9999]
set_option maxHeartbeats 400000 in
theorem eq_nil_ptr (b : Nat) (w : World) : Calls Try.prog 10 #[.pointer none, .pointer (some ⟨b, 0, none⟩)] w fun e w' => e = .returned (.bool false) ∧ ∃ n, w' = w.drewN n := by
  have hnp := nil_eql_ptr w 25 _ ⟨b, 0, none⟩ Try.underlying25
  go_enter Try.func10, Try.ntmps10
  go_wp2
  go_ret
  exact ⟨rfl, 0, rfl⟩
set_option maxHeartbeats 400000 in
theorem eq_ptr_nil (b : Nat) (w : World) : Calls Try.prog 10 #[.pointer (some ⟨b, 0, none⟩), .pointer none] w fun e w' => e = .returned (.bool false) ∧ ∃ n, w' = w.drewN n := by
  go_enter Try.func10, Try.ntmps10
  go_wp2
  go_ret
  exact ⟨rfl, 0, rfl⟩

set_option maxHeartbeats 400000 in
theorem eq_len (b1 b2 : Nat) (a1 a2 : Option Addr) (n1 n2 m1 m2 : Nat) (hne : ((n1 : Int) == (n2 : Int)) = false) (w : World) (c1 : w.cell? ⟨b1, 0, none⟩ = some (.slice a1 n1 m1)) (c2 : w.cell? ⟨b2, 0, none⟩ = some (.slice a2 n2 m2)) :
    Calls Try.prog 10 #[.pointer (some ⟨b1, 0, none⟩), .pointer (some ⟨b2, 0, none⟩)] w fun e w' => e = .returned (.bool false) ∧ ∃ n, w' = w.drewN n := by
  go_enter Try.func10, Try.ntmps10
  go_wp2
  go_quiet (fail)
  go_wp2
  go_ret
  exact ⟨rfl, _, rfl⟩

/-- The loop's relation of 'Equal'. -/
def RelT (w : World) (s1 s2 : List Term) (i : Value) (wr : World) : Prop := ∃ k n : Nat, k ≤ s1.length ∧ i = .int .i64 k ∧ Agree s1 s2 k ∧ wr = w.drewN n

set_option maxHeartbeats 2000000 in
theorem eq_loop (b1 b2 : Nat) (v1 v2 : Value) (s1 s2 : List Term) (lo hi lo' hi' : Nat) (hlen : s1.length = s2.length) (w : World) (e1 : w.cell? ⟨b1, 0, none⟩ = some v1) (e2 : w.cell? ⟨b2, 0, none⟩ = some v2)
    (f1 : Terms w lo hi v1 s1) (f2 : Terms w lo' hi' v2 s2) :
    Calls Try.prog 10 #[.pointer (some ⟨b1, 0, none⟩), .pointer (some ⟨b2, 0, none⟩)] w fun e w' => e = .returned (.bool (tsEq s1 s2)) ∧ ∃ n, w' = w.drewN n := by
  obtain ⟨a1, m1, rfl, hn, _, f1⟩ := f1
  obtain ⟨a2, m2, rfl, _, _, f2⟩ := f2
  have HL : Hid (s1.length = s2.length) := hlen
  obtain ⟨n, hn1⟩ : ∃ n, n = s1.length := ⟨_, rfl⟩
  rw [← hlen, ← hn1] at e2
  rw [← hn1] at e1 hn
  have HN : Hid (n = s1.length) := hn1
  clear hlen hn1
  have hsame0 : ∀ m a, (w.drewN m).cell? a = w.cell? a := fun _ _ => rfl
  go_enter Try.func10, Try.ntmps10
  go_wp2
  go_quiet (fail)
  go_wp2
  go_loopw [31] (fun i wr => RelT w s1 s2 i wr) (fun i _ => n - (intOf i).toNat)
  case atStart => exact ⟨0, _, Nat.zero_le _, rfl, fun j hj => absurd hj (Nat.not_lt_zero _), rfl⟩
  case round =>
    obtain ⟨k, q, hk, rfl, hag, hwr⟩ := hrel
    have HW : Hid (wr = w.drewN q) := hwr
    clear hwr
    rw [← HN.out] at hk
    by_cases hlt : k < n
    · have hk1 : k < s1.length := by rw [← HN.out]; exact hlt
      have hk2 : k < s2.length := by rw [← HL.out]; exact hk1
      obtain ⟨x1, y1, ha1, _, _, p0, p1, g1, g2, g3, g4⟩ := f1 k hk1
      obtain ⟨x2, y2, ha2, _, _, q0, q1, h1, h2, h3, h4⟩ := f2 k hk2
      rw [ha1] at e1
      rw [ha2] at e2
      obtain ⟨t1, ht1⟩ : ∃ t, t = s1[k] := ⟨_, rfl⟩
      obtain ⟨t2, ht2⟩ : ∃ t, t = s2[k] := ⟨_, rfl⟩
      rw [← ht1] at g3 g4
      rw [← ht2] at h3 h4
      have HA : Hid (Agree s1 s2 k ∧ s1[k]? = some t1 ∧ s2[k]? = some t2) := ⟨hag, by rw [ht1]; exact List.getElem?_eq_getElem hk1, by rw [ht2]; exact List.getElem?_eq_getElem hk2⟩
      have hsame : ∀ m a, (wr.drewN m).cell? a = w.cell? a := fun m a => by rw [HW.out]; rfl
      have hs0 : ∀ a, wr.cell? a = w.cell? a := fun a => by rw [HW.out]; rfl
      have HC1 : ∀ m, Calls Try.prog 17 #[p0, q0] (wr.drewN m) fun e w' => e = .returned (.bool (rsEq t1.1 t2.1)) ∧ ∃ m', w' = (wr.drewN m).drewN m' :=
        fun m => eqReqs_any p0 q0 _ _ lo hi lo' hi' (wr.drewN m) (g3.carry (fun _ _ _ _ => hsame m _) (Nat.le_refl _) (Nat.le_refl _)) (h3.carry (fun _ _ _ _ => hsame m _) (Nat.le_refl _) (Nat.le_refl _))
      have HC2 : ∀ m, Calls Try.prog 17 #[p1, q1] (wr.drewN m) fun e w' => e = .returned (.bool (rsEq t1.2 t2.2)) ∧ ∃ m', w' = (wr.drewN m).drewN m' :=
        fun m => eqReqs_any p1 q1 _ _ lo hi lo' hi' (wr.drewN m) (g4.carry (fun _ _ _ _ => hsame m _) (Nat.le_refl _) (Nat.le_refl _)) (h4.carry (fun _ _ _ _ => hsame m _) (Nat.le_refl _) (Nat.le_refl _))
      obtain ⟨pa0, pm0, rfl, _⟩ := g3.len
      obtain ⟨pa1, pm1, rfl, _⟩ := g4.len
      obtain ⟨qa0, qm0, rfl, _⟩ := h3.len
      obtain ⟨qa1, qm1, rfl, _⟩ := h4.len
      rw [← hs0] at e1 e2 g1 g2 h1 h2
      obtain ⟨E, hE⟩ : ∃ E, E = rsEq t1.1 t2.1 := ⟨_, rfl⟩
      obtain ⟨F, hF⟩ : ∃ F, F = rsEq t1.2 t2.2 := ⟨_, rfl⟩
      rw [← hE] at HC1
      rw [← hF] at HC2
      have HT : Hid ((E && F) = tEq t1 t2) := by show _ = _; rw [hE, hF]; rfl
      clear hag ht1 ht2 hk1 hk2 f1 f2 g3 g4 h3 h4 hsame hs0 hE hF ha1 ha2 hsame0
      cases E
      · go_wp2
        go_quiet ((go_at_call 17; exact Calls.quiet_of (HC1 _)))
        go_wp2
        go_ret
        refine ⟨ret_bool ?_, _, by rw [HW.out]; exact World.drewN_drewN _ _ _⟩
        obtain ⟨_, h1, h2⟩ := HA.out
        refine bool_of_iff (p := s1 = s2) ⟨fun h => (by cases h), fun h => ?_⟩ (tsEq_iff s1 s2)
        rw [h, h2] at h1
        have ht := HT.out
        rw [show t1 = t2 by simpa using h1.symm, (tEq_iff t2 t2).2 rfl] at ht
        simp at ht
      · cases F
        · go_wp2
          go_quiet (first | (go_at_call_of 17 (Value.slice pa0 t1.1.length pm0); exact Calls.quiet_of (HC1 _)) | (go_at_call 17; exact Calls.quiet_of (HC2 _)))
          go_wp2
          go_ret
          refine ⟨ret_bool ?_, _, by rw [HW.out]; exact World.drewN_drewN _ _ _⟩
          obtain ⟨_, h1, h2⟩ := HA.out
          refine bool_of_iff (p := s1 = s2) ⟨fun h => (by cases h), fun h => ?_⟩ (tsEq_iff s1 s2)
          rw [h, h2] at h1
          have ht := HT.out
          rw [show t1 = t2 by simpa using h1.symm, (tEq_iff t2 t2).2 rfl] at ht
          simp at ht
        · go_wp2
          go_quiet (first | (go_at_call_of 17 (Value.slice pa0 t1.1.length pm0); exact Calls.quiet_of (HC1 _)) | (go_at_call 17; exact Calls.quiet_of (HC2 _)))
          go_wp2
          go_roundw
          case rel => exact ⟨k + 1, _, by rw [← HN.out]; omega, by go_num, agree_step HA.out ((tEq_iff t1 t2).1 HT.out.symm), by rw [HW.out]; exact World.drewN_drewN _ _ _⟩
          case measure => simp [intOf]; omega
    · go_wp2
      go_ret
      exact ⟨ret_bool ((tsEq_iff s1 s2).2 (agree_all hag HL.out (by rw [← HN.out]; omega))).symm, _, HW.out⟩

/-- Equal of two affinities that are not nil. -/
theorem eq_any (b1 b2 : Nat) (s1 s2 : List Term) (lo hi lo' hi' : Nat) (w : World) (h1 : Aff w lo hi b1 s1) (h2 : Aff w lo' hi' b2 s2) :
    Calls Try.prog 10 #[.pointer (some ⟨b1, 0, none⟩), .pointer (some ⟨b2, 0, none⟩)] w fun e w' => e = .returned (.bool (tsEq s1 s2)) ∧ ∃ n, w' = w.drewN n := by
  obtain ⟨v1, c1, f1⟩ := h1
  obtain ⟨v2, c2, f2⟩ := h2
  by_cases hl : s1.length = s2.length
  · exact eq_loop b1 b2 v1 v2 s1 s2 lo hi lo' hi' hl w c1 c2 f1 f2
  · obtain ⟨a1, m1, rfl, _⟩ := f1.len
    obtain ⟨a2, m2, rfl, _⟩ := f2.len
    refine (eq_len b1 b2 a1 a2 _ _ m1 m2 (by simp; omega) w c1 c2).mono ?_
    rintro e w' ⟨rfl, hw⟩
    exact ⟨ret_bool (bool_of_iff ⟨fun h => (by cases h), fun h => absurd (by rw [h]) hl⟩ (tsEq_iff s1 s2)), hw⟩
end Go.Proofs.Qxb6627374a
