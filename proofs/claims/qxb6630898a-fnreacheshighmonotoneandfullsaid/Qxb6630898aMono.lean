import Derived.Test.Qxb6630898aLaws
namespace Go.Proofs.Qxb6630898a
open Go.RowKit

/-! ### The plain laws -/
theorem rh_full (c h : Int) (hc : 0 ≤ c) (hh' : h ≤ 100) : rh c h c = true := by
  have := Int.mul_le_mul_of_nonneg_left hh' hc
  simp [rh]; omega
theorem rh_use (c h ua ub : Int) (h0 : ua ≤ ub) : rh c h ua = true → rh c h ub = true := by
  simp [rh]; omega
theorem rh_high (c ha hb u : Int) (hc : 0 ≤ c) (h0 : ha ≤ hb) : rh c hb u = true → rh c ha u = true := by
  have := Int.mul_le_mul_of_nonneg_left h0 hc
  simp [rh]; omega
/-- The six ways in which four answers can stand. -/
theorem six (ra rb sa sb : Bool) (h1 : ra = true → rb = true) (h2 : sa = true → sb = true) (h3 : sa = true → ra = true) (h4 : sb = true → rb = true) :
    (ra = true ∧ rb = true ∧ sa = true ∧ sb = true) ∨ (ra = true ∧ rb = true ∧ sa = false ∧ sb = true) ∨ (ra = false ∧ rb = true ∧ sa = false ∧ sb = true) ∨
    (ra = true ∧ rb = true ∧ sa = false ∧ sb = false) ∨ (ra = false ∧ rb = true ∧ sa = false ∧ sb = false) ∨ (ra = false ∧ rb = false ∧ sa = false ∧ sb = false) := by
  cases ra <;> cases rb <;> cases sa <;> cases sb <;> simp_all
set_option maxHeartbeats 2000000 in
theorem mono_00 (c h1 h2 l u1 u2 : Int) (hc : 0 ≤ c) (hc' : c < 9223372036854775808) (a1 : 0 ≤ h1) (a2 : h1 ≤ 100) (b1 : 0 ≤ h2) (b2 : h2 ≤ 100) (hl : 0 ≤ l) (l1 : l ≤ h1) (l2 : l ≤ h2)
    (s1 : h1 ≤ h2) (s2 : u1 ≤ u2) (v1 : u1 < 9223372036854775808) (v2 : u2 < 9223372036854775808) (w : World) :
    Calls Try.prog 4 #[.int .i64 c, .int .i64 h1, .int .i64 h2, .int .i64 l, .int .i64 u1, .int .i64 u2] w fun e w' => e = .returned (.bool true) ∧ Grown w w' := by
  have f1 := rh_full c h1 hc a2
  have f2 := rh_full c h2 hc b2
  have hsix := six (rh c h1 u1) (rh c h1 u2) (rh c h2 u1) (rh c h2 u2) (rh_use c h1 u1 u2 (by omega)) (rh_use c h2 u1 u2 (by omega)) (rh_high c h1 h2 u1 hc (by omega)) (rh_high c h1 h2 u2 hc (by omega))
  rcases hsix with ⟨k1, k2, k3, k4⟩ | ⟨k1, k2, k3, k4⟩ | ⟨k1, k2, k3, k4⟩ | ⟨k1, k2, k3, k4⟩ | ⟨k1, k2, k3, k4⟩ | ⟨k1, k2, k3, k4⟩
  all_goals
    go_enter Try.func4, Try.ntmps4
    go_wp2_with (first
      | (go_at_call 5; refine (budget_any _ _ _ _).mono ?_; rintro e w' ⟨rfl, c1, rfl⟩)
      | (go_at_call 7; refine (reach_any c _ l _ hc hc' (by omega) (by omega) (by omega) _).mono ?_; rintro e w' ⟨rfl, c2, rfl⟩))
    go_ret
    exact ⟨rfl, by repeat (first | apply Grown.alloc | exact Grown.refl _)⟩

set_option maxHeartbeats 2000000 in
theorem mono_01 (c h1 h2 l u1 u2 : Int) (hc : 0 ≤ c) (hc' : c < 9223372036854775808) (a1 : 0 ≤ h1) (a2 : h1 ≤ 100) (b1 : 0 ≤ h2) (b2 : h2 ≤ 100) (hl : 0 ≤ l) (l1 : l ≤ h1) (l2 : l ≤ h2)
    (s1 : h1 ≤ h2) (s2 : u2 < u1) (v1 : u1 < 9223372036854775808) (v2 : u2 < 9223372036854775808) (w : World) :
    Calls Try.prog 4 #[.int .i64 c, .int .i64 h1, .int .i64 h2, .int .i64 l, .int .i64 u1, .int .i64 u2] w fun e w' => e = .returned (.bool true) ∧ Grown w w' := by
  have f1 := rh_full c h1 hc a2
  have f2 := rh_full c h2 hc b2
  have hsix := six (rh c h1 u2) (rh c h1 u1) (rh c h2 u2) (rh c h2 u1) (rh_use c h1 u2 u1 (by omega)) (rh_use c h2 u2 u1 (by omega)) (rh_high c h1 h2 u2 hc (by omega)) (rh_high c h1 h2 u1 hc (by omega))
  rcases hsix with ⟨k1, k2, k3, k4⟩ | ⟨k1, k2, k3, k4⟩ | ⟨k1, k2, k3, k4⟩ | ⟨k1, k2, k3, k4⟩ | ⟨k1, k2, k3, k4⟩ | ⟨k1, k2, k3, k4⟩
  all_goals
    go_enter Try.func4, Try.ntmps4
    go_wp2_with (first
      | (go_at_call 5; refine (budget_any _ _ _ _).mono ?_; rintro e w' ⟨rfl, c1, rfl⟩)
      | (go_at_call 7; refine (reach_any c _ l _ hc hc' (by omega) (by omega) (by omega) _).mono ?_; rintro e w' ⟨rfl, c2, rfl⟩))
    go_ret
    exact ⟨rfl, by repeat (first | apply Grown.alloc | exact Grown.refl _)⟩

set_option maxHeartbeats 2000000 in
theorem mono_10 (c h1 h2 l u1 u2 : Int) (hc : 0 ≤ c) (hc' : c < 9223372036854775808) (a1 : 0 ≤ h1) (a2 : h1 ≤ 100) (b1 : 0 ≤ h2) (b2 : h2 ≤ 100) (hl : 0 ≤ l) (l1 : l ≤ h1) (l2 : l ≤ h2)
    (s1 : h2 < h1) (s2 : u1 ≤ u2) (v1 : u1 < 9223372036854775808) (v2 : u2 < 9223372036854775808) (w : World) :
    Calls Try.prog 4 #[.int .i64 c, .int .i64 h1, .int .i64 h2, .int .i64 l, .int .i64 u1, .int .i64 u2] w fun e w' => e = .returned (.bool true) ∧ Grown w w' := by
  have f1 := rh_full c h1 hc a2
  have f2 := rh_full c h2 hc b2
  have hsix := six (rh c h2 u1) (rh c h2 u2) (rh c h1 u1) (rh c h1 u2) (rh_use c h2 u1 u2 (by omega)) (rh_use c h1 u1 u2 (by omega)) (rh_high c h2 h1 u1 hc (by omega)) (rh_high c h2 h1 u2 hc (by omega))
  rcases hsix with ⟨k1, k2, k3, k4⟩ | ⟨k1, k2, k3, k4⟩ | ⟨k1, k2, k3, k4⟩ | ⟨k1, k2, k3, k4⟩ | ⟨k1, k2, k3, k4⟩ | ⟨k1, k2, k3, k4⟩
  all_goals
    go_enter Try.func4, Try.ntmps4
    go_wp2_with (first
      | (go_at_call 5; refine (budget_any _ _ _ _).mono ?_; rintro e w' ⟨rfl, c1, rfl⟩)
      | (go_at_call 7; refine (reach_any c _ l _ hc hc' (by omega) (by omega) (by omega) _).mono ?_; rintro e w' ⟨rfl, c2, rfl⟩))
    go_ret
    exact ⟨rfl, by repeat (first | apply Grown.alloc | exact Grown.refl _)⟩

set_option maxHeartbeats 2000000 in
theorem mono_11 (c h1 h2 l u1 u2 : Int) (hc : 0 ≤ c) (hc' : c < 9223372036854775808) (a1 : 0 ≤ h1) (a2 : h1 ≤ 100) (b1 : 0 ≤ h2) (b2 : h2 ≤ 100) (hl : 0 ≤ l) (l1 : l ≤ h1) (l2 : l ≤ h2)
    (s1 : h2 < h1) (s2 : u2 < u1) (v1 : u1 < 9223372036854775808) (v2 : u2 < 9223372036854775808) (w : World) :
    Calls Try.prog 4 #[.int .i64 c, .int .i64 h1, .int .i64 h2, .int .i64 l, .int .i64 u1, .int .i64 u2] w fun e w' => e = .returned (.bool true) ∧ Grown w w' := by
  have f1 := rh_full c h1 hc a2
  have f2 := rh_full c h2 hc b2
  have hsix := six (rh c h2 u2) (rh c h2 u1) (rh c h1 u2) (rh c h1 u1) (rh_use c h2 u2 u1 (by omega)) (rh_use c h1 u2 u1 (by omega)) (rh_high c h2 h1 u2 hc (by omega)) (rh_high c h2 h1 u1 hc (by omega))
  rcases hsix with ⟨k1, k2, k3, k4⟩ | ⟨k1, k2, k3, k4⟩ | ⟨k1, k2, k3, k4⟩ | ⟨k1, k2, k3, k4⟩ | ⟨k1, k2, k3, k4⟩ | ⟨k1, k2, k3, k4⟩
  all_goals
    go_enter Try.func4, Try.ntmps4
    go_wp2_with (first
      | (go_at_call 5; refine (budget_any _ _ _ _).mono ?_; rintro e w' ⟨rfl, c1, rfl⟩)
      | (go_at_call 7; refine (reach_any c _ l _ hc hc' (by omega) (by omega) (by omega) _).mono ?_; rintro e w' ⟨rfl, c2, rfl⟩))
    go_ret
    exact ⟨rfl, by repeat (first | apply Grown.alloc | exact Grown.refl _)⟩

set_option maxHeartbeats 1000000 in
theorem mono_out (c h1 h2 l u1 u2 : Int) (ho : c < 0 ∨ h1 < 0 ∨ 100 < h1 ∨ h2 < 0 ∨ 100 < h2 ∨ l < 0 ∨ h1 < l ∨ h2 < l) (w : World) :
    Calls Try.prog 4 #[.int .i64 c, .int .i64 h1, .int .i64 h2, .int .i64 l, .int .i64 u1, .int .i64 u2] w fun e w' => e = .returned (.bool true) ∧ Grown w w' := by
  by_cases g0 : c < 0
  · clear ho
    go_enter Try.func4, Try.ntmps4
    go_wp2
    go_ret
    exact ⟨rfl, Grown.refl _⟩
  by_cases g1 : h1 < 0
  · clear ho
    go_enter Try.func4, Try.ntmps4
    go_wp2
    go_ret
    exact ⟨rfl, Grown.refl _⟩
  by_cases g2 : 100 < h1
  · clear ho
    go_enter Try.func4, Try.ntmps4
    go_wp2
    go_ret
    exact ⟨rfl, Grown.refl _⟩
  by_cases g3 : h2 < 0
  · clear ho
    go_enter Try.func4, Try.ntmps4
    go_wp2
    go_ret
    exact ⟨rfl, Grown.refl _⟩
  by_cases g4 : 100 < h2
  · clear ho
    go_enter Try.func4, Try.ntmps4
    go_wp2
    go_ret
    exact ⟨rfl, Grown.refl _⟩
  by_cases g5 : l < 0
  · clear ho
    go_enter Try.func4, Try.ntmps4
    go_wp2
    go_ret
    exact ⟨rfl, Grown.refl _⟩
  by_cases g6 : h1 < l
  · clear ho
    go_enter Try.func4, Try.ntmps4
    go_wp2
    go_ret
    exact ⟨rfl, Grown.refl _⟩
  have g7 : h2 < l := by omega
  clear ho
  go_enter Try.func4, Try.ntmps4
  go_wp2
  go_ret
  exact ⟨rfl, Grown.refl _⟩

theorem mono_all (c h1 h2 l u1 u2 : Int) (hc : (Lit.int .i64 c).wf = true) (hu : (Lit.int .i64 u1).wf = true) (hv : (Lit.int .i64 u2).wf = true) (w : World) :
    Calls Try.prog 4 #[.int .i64 c, .int .i64 h1, .int .i64 h2, .int .i64 l, .int .i64 u1, .int .i64 u2] w fun e w' => e = .returned (.bool true) ∧ Grown w w' := by
  obtain ⟨_, c2⟩ := i64_of_wf hc
  obtain ⟨_, x1⟩ := i64_of_wf hu
  obtain ⟨_, x2⟩ := i64_of_wf hv
  by_cases ho : c < 0 ∨ h1 < 0 ∨ 100 < h1 ∨ h2 < 0 ∨ 100 < h2 ∨ l < 0 ∨ h1 < l ∨ h2 < l
  · exact mono_out c h1 h2 l u1 u2 ho w
  · by_cases s1 : h1 ≤ h2
    · by_cases s2 : u1 ≤ u2
      · exact mono_00 c h1 h2 l u1 u2 (by omega) c2 (by omega) (by omega) (by omega) (by omega) (by omega) (by omega) (by omega) s1 s2 x1 x2 w
      · exact mono_01 c h1 h2 l u1 u2 (by omega) c2 (by omega) (by omega) (by omega) (by omega) (by omega) (by omega) (by omega) s1 (by omega) x1 x2 w
    · by_cases s2 : u1 ≤ u2
      · exact mono_10 c h1 h2 l u1 u2 (by omega) c2 (by omega) (by omega) (by omega) (by omega) (by omega) (by omega) (by omega) (by omega) s2 x1 x2 w
      · exact mono_11 c h1 h2 l u1 u2 (by omega) c2 (by omega) (by omega) (by omega) (by omega) (by omega) (by omega) (by omega) (by omega) (by omega) x1 x2 w
end Go.Proofs.Qxb6630898a
