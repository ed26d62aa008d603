import Derived.Test.Qxb6630898aMul
import Derived.WalkKit
import Derived.WalkSpells
import Derived.StillTactics
import Derived.Laws.Pointers
import Derived.Deep.RegionHeld3
import Derived.RowKit3
namespace Go.Proofs.Qxb6630898a
open Go.RowKit

def rh (c h u : Int) : Bool := decide (0 ≤ u ∧ c * h ≤ u * 100)
theorem ret_bool {a b : Bool} (h : a = b) : Ending.returned (.bool a) = .returned (.bool b) := by rw [h]

set_option maxHeartbeats 400000 in
theorem reach_neg (c h l u : Int) (hu : u < 0) (w : World) :
    Calls Try.prog 7 #[.agg #[.int .i64 c, .int .i64 h, .int .i64 l], .int .i64 u] w fun e w' =>
      e = .returned (.bool false) ∧ ∃ c1 : Array Value, w' = w.alloc (.cells c1 23) := by
  go_enter Try.func7, Try.ntmps7
  go_wp2
  go_ret
  exact ⟨rfl, _, rfl⟩

set_option maxHeartbeats 400000 in
theorem reach_pos (c h l u : Int) (hc : 0 ≤ c) (hc' : c < 9223372036854775808) (hh : 0 ≤ h) (hh' : h ≤ 100) (hu : 0 ≤ u) (hu' : u < 9223372036854775808) (w : World) :
    Calls Try.prog 7 #[.agg #[.int .i64 c, .int .i64 h, .int .i64 l], .int .i64 u] w fun e w' =>
      e = .returned (.bool (rh c h u)) ∧ ∃ c1 : Array Value, w' = w.alloc (.cells c1 23) := by
  go_enter Try.func7, Try.ntmps7
  go_wp2_with (go_at_call 8; refine (mul64 _ _ (by omega) (by omega) (by omega) (by omega) _).mono ?_; rintro e w' ⟨rfl, rfl⟩)
  all_goals
    go_ret
    refine ⟨ret_bool ?_, _, rfl⟩
    clear hc hc' hh hh'
    unfold rh
    generalize c * h = T at *
    rw [Bool.eq_iff_iff]
    simp only [decide_eq_true_eq, true_iff] at *
    omega

theorem reach_any (c h l u : Int) (hc : 0 ≤ c) (hc' : c < 9223372036854775808) (hh : 0 ≤ h) (hh' : h ≤ 100) (hu' : u < 9223372036854775808) (w : World) :
    Calls Try.prog 7 #[.agg #[.int .i64 c, .int .i64 h, .int .i64 l], .int .i64 u] w fun e w' =>
      e = .returned (.bool (rh c h u)) ∧ ∃ c1 : Array Value, w' = w.alloc (.cells c1 23) := by
  by_cases hu : 0 ≤ u
  · exact reach_pos c h l u hc hc' hh hh' hu hu' w
  · have e : rh c h u = false := by simp [rh]; omega
    rw [e]
    exact reach_neg c h l u (by omega) w

set_option maxHeartbeats 400000 in
theorem budget_any (c h l : Int) (w : World) :
    Calls Try.prog 5 #[.int .i64 c, .int .i64 h, .int .i64 l] w fun e w' =>
      e = .returned (.agg #[.int .i64 c, .int .i64 h, .int .i64 l]) ∧ ∃ c1 : Array Value, w' = w.alloc (.cells c1 23) := by
  go_enter Try.func5, Try.ntmps5
  go_wp2
  simp [bodyPost, results, Try.results5, go_sem]
  exact ⟨_, rfl⟩

def thr (c h : Int) : Int := h * (c / 100) + (h * (c % 100) + 99) / 100

theorem mul_le100 (h x B : Int) (hh : 0 ≤ h) (hh' : h ≤ 100) (hx : 0 ≤ x) (hB : x ≤ B) : 0 ≤ h * x ∧ h * x ≤ 100 * B := by
  have h1 : h * x ≤ 100 * x := Int.mul_le_mul_of_nonneg_right hh' hx
  exact ⟨Int.mul_nonneg hh hx, by omega⟩

theorem thr_bd (c h : Int) (hc : 0 ≤ c) (hc' : c < 9223372036854775808) (hh : 0 ≤ h) (hh' : h ≤ 100) :
    0 ≤ thr c h ∧ thr c h < 9223372036854775808 := by
  unfold thr
  obtain ⟨a1, a2⟩ := mul_le100 h (c / 100) (c / 100) hh hh' (by omega) (by omega)
  obtain ⟨b1, b2⟩ := mul_le100 h (c % 100) (c % 100) hh hh' (by omega) (by omega)
  omega

set_option maxHeartbeats 400000 in
theorem thr_any (c h : Int) (hc : 0 ≤ c) (hc' : c < 9223372036854775808) (hh : 0 ≤ h) (hh' : h ≤ 100) (w : World) :
    Calls Try.prog 6 #[.int .i64 c, .int .i64 h] w fun e w' =>
      e = .returned (.int .i64 (thr c h)) ∧ w' = w := by
  obtain ⟨a1, a2⟩ := mul_le100 h (c / 100) (c / 100) hh hh' (by omega) (by omega)
  obtain ⟨b1, b2⟩ := mul_le100 h (c % 100) 99 hh hh' (by omega) (by omega)
  obtain ⟨t1, t2⟩ := thr_bd c h hc hc' hh hh'
  unfold thr at t1 t2
  go_enter Try.func6, Try.ntmps6
  go_wp2
  go_ret
  exact ⟨rfl, rfl⟩

/-! ### The plain laws -/
theorem thr_is (c h u : Int) (hc : 0 ≤ c) (hh : 0 ≤ h) (hh' : h ≤ 100) : rh c h u = decide (thr c h ≤ u) := by
  have e : c * h = 100 * (h * (c / 100)) + h * (c % 100) := by
    have k : c = 100 * (c / 100) + c % 100 := by omega
    calc c * h = h * (100 * (c / 100) + c % 100) := by rw [← k, Int.mul_comm]
      _ = _ := by rw [Int.mul_add, Int.mul_left_comm]
  obtain ⟨a1, a2⟩ := mul_le100 h (c / 100) (c / 100) hh hh' (by omega) (by omega)
  obtain ⟨b1, b2⟩ := mul_le100 h (c % 100) (c % 100) hh hh' (by omega) (by omega)
  unfold rh thr
  rw [e]
  congr 1
  generalize h * (c / 100) = A at *
  generalize h * (c % 100) = B at *
  apply propext
  omega
end Go.Proofs.Qxb6630898a
