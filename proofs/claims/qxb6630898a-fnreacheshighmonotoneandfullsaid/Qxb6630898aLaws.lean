import Derived.Test.Qxb6630898aReach
namespace Go.Proofs.Qxb6630898a
open Go.RowKit
set_option maxHeartbeats 1000000 in
theorem least_walk (c h l u : Int) (hc : 0 ≤ c) (hc' : c < 9223372036854775808) (hh : 0 ≤ h) (hh' : h ≤ 100) (hl : 0 ≤ l) (hl' : l ≤ h) (hu' : u < 9223372036854775808) (w : World) :
    Calls Try.prog 3 #[.int .i64 c, .int .i64 h, .int .i64 l, .int .i64 u] w fun e w' => e = .returned (.bool true) ∧ Grown w w' := by
  obtain ⟨t1, t2⟩ := thr_bd c h hc hc' hh hh'
  have e1 : rh c h (thr c h) = true := by rw [thr_is c h _ hc hh hh']; simp
  have e2 : rh c h (thr c h - 1) = false := by rw [thr_is c h _ hc hh hh']; simp; omega
  have e3 : rh c h u = decide (thr c h ≤ u) := thr_is c h u hc hh hh'
  by_cases ht : 0 < thr c h
  all_goals
    go_enter Try.func3, Try.ntmps3
    go_wp2_with (first
      | (go_at_call 5; refine (budget_any _ _ _ _).mono ?_; rintro e w' ⟨rfl, c1, rfl⟩)
      | (go_at_call 6; refine (thr_any c h hc hc' hh hh' _).mono ?_; rintro e w' ⟨rfl, rfl⟩)
      | (go_at_call 7; refine (reach_any c h l _ hc hc' hh hh' (by omega) _).mono ?_; rintro e w' ⟨rfl, c2, rfl⟩))
    go_ret
    exact ⟨ret_bool (by simp), by repeat (first | exact Grown.refl _ | apply Grown.drew | apply Grown.alloc)⟩

/-- What 'open_int' hands over of an int64. -/
theorem i64_of_wf {x : Int} (h : (Lit.int .i64 x).wf = true) : -9223372036854775808 ≤ x ∧ x < 9223372036854775808 := by
  simp [Lit.wf, IntKind.min, IntKind.max, IntKind.signed, IntKind.bits] at h
  omega

set_option maxHeartbeats 1000000 in
theorem least_out (c h l u : Int) (ho : c < 0 ∨ h < 0 ∨ 100 < h ∨ l < 0 ∨ h < l) (w : World) :
    Calls Try.prog 3 #[.int .i64 c, .int .i64 h, .int .i64 l, .int .i64 u] w fun e w' => e = .returned (.bool true) ∧ Grown w w' := by
  by_cases g1 : c < 0
  · go_enter Try.func3, Try.ntmps3
    go_wp2
    go_ret
    exact ⟨rfl, Grown.refl _⟩
  by_cases g2 : h < 0
  · go_enter Try.func3, Try.ntmps3
    go_wp2
    go_ret
    exact ⟨rfl, Grown.refl _⟩
  by_cases g3 : 100 < h
  · go_enter Try.func3, Try.ntmps3
    go_wp2
    go_ret
    exact ⟨rfl, Grown.refl _⟩
  by_cases g4 : l < 0
  · go_enter Try.func3, Try.ntmps3
    go_wp2
    go_ret
    exact ⟨rfl, Grown.refl _⟩
  have g5 : h < l := by omega
  clear ho
  go_enter Try.func3, Try.ntmps3
  go_wp2
  go_ret
  exact ⟨rfl, Grown.refl _⟩

theorem least_all (c h l u : Int) (hc : (Lit.int .i64 c).wf = true) (hu : (Lit.int .i64 u).wf = true) (w : World) :
    Calls Try.prog 3 #[.int .i64 c, .int .i64 h, .int .i64 l, .int .i64 u] w fun e w' => e = .returned (.bool true) ∧ Grown w w' := by
  obtain ⟨_, c2⟩ := i64_of_wf hc
  obtain ⟨_, u2⟩ := i64_of_wf hu
  by_cases ho : c < 0 ∨ h < 0 ∨ 100 < h ∨ l < 0 ∨ h < l
  · exact least_out c h l u ho w
  · exact least_walk c h l u (by omega) c2 (by omega) (by omega) (by omega) (by omega) u2 w
end Go.Proofs.Qxb6630898a
