import Derived.Test.Qxb6627457aRows
import Derived.WalkKit
import Derived.WalkSpells
import Derived.RowKit3
namespace Go.Proofs.Qxb6627457a
open Go.RowKit

/-- The suite's number. -/
def su (a : Int) : Int := if a = 5 then 1 else if a = 7 then 2 else 0
theorem su5 : su 5 = 1 := rfl
theorem su7 : su 7 = 2 := rfl
theorem su_no (a : Int) (h5 : a ≠ 5) (h7 : a ≠ 7) : su a = 0 := by simp [su, h5, h7]
theorem ret_bool {a b : Bool} (h : a = b) : Ending.returned (.bool a) = .returned (.bool b) := by rw [h]

set_option maxHeartbeats 400000 in
theorem suite_any (a : Int) (w : World) :
    Calls Try.prog 5 #[.int .u16 a] w fun e w' => e = .returned (.int .u8 (su a)) ∧ w' = w := by
  by_cases h5 : a = 5
  · subst h5
    go_enter Try.func5, Try.ntmps5
    go_wp2
    go_ret
    exact ⟨rfl, rfl⟩
  by_cases h7 : a = 7
  · subst h7
    go_enter Try.func5, Try.ntmps5
    go_wp2
    go_ret
    exact ⟨rfl, rfl⟩
  have e : su a = 0 := su_no a h5 h7
  rw [e]
  clear e
  have g5 : (a == 5) = false := by simpa using h5
  have g7 : (a == 7) = false := by simpa using h7
  clear h5 h7
  go_enter Try.func5, Try.ntmps5
  go_wp2
  go_ret
  exact ⟨rfl, rfl⟩

theorem big_is : ∃ N : Nat, (N : Int) = 65536 := ⟨65536, rfl⟩

/-- How many of the first k algorithms have the suite s. -/
def cnt (s : Int) : Nat → Int
  | 0 => 0
  | k + 1 => cnt s k + if su k = s then 1 else 0
theorem cnt_bd (s : Int) (k : Nat) : 0 ≤ cnt s k ∧ cnt s k ≤ k := by
  induction k with
  | zero => simp [cnt]
  | succ k ih => simp only [cnt]; split <;> omega
theorem cnt_succ (s : Int) (k : Nat) : cnt s (k + 1) = cnt s k + if su k = s then 1 else 0 := rfl
theorem cnt1 (k : Nat) : cnt 1 k = if 5 < k then 1 else 0 := by
  induction k with
  | zero => rfl
  | succ k ih =>
    rw [cnt_succ, ih]
    unfold su
    repeat' split
    all_goals omega
theorem cnt2 (k : Nat) : cnt 2 k = if 7 < k then 1 else 0 := by
  induction k with
  | zero => rfl
  | succ k ih =>
    rw [cnt_succ, ih]
    unfold su
    repeat' split
    all_goals omega
theorem cnt0 (k : Nat) : cnt 0 k = k - (if 5 < k then 1 else 0) - (if 7 < k then 1 else 0) := by
  induction k with
  | zero => rfl
  | succ k ih =>
    rw [cnt_succ, ih]
    unfold su
    repeat' split
    all_goals omega

/-- The loop's relation, behind a name. -/
def Rel (s : Int) (c i : Value) : Prop := ∃ k : Nat, (k : Int) ≤ 65536 ∧ i = .int .i64 k ∧ c = .int .i64 (cnt s k)

theorem cnt1_end (k : Nat) (h : ¬ (k : Int) < 65536) (_ : (k : Int) ≤ 65536) : cnt 1 k = 1 := by
  rw [cnt1, if_pos (by omega)]
theorem cnt2_end (k : Nat) (h : ¬ (k : Int) < 65536) (_ : (k : Int) ≤ 65536) : cnt 2 k = 1 := by
  rw [cnt2, if_pos (by omega)]
theorem cnt0_end (k : Nat) (h : ¬ (k : Int) < 65536) (h' : (k : Int) ≤ 65536) : cnt 0 k = 65534 := by
  rw [cnt0, if_pos (by omega), if_pos (by omega)]
  omega

set_option maxHeartbeats 1000000 in
theorem pre5 (w : World) :
    Calls Try.prog 3 #[.int .u16 5] w fun e w' => e = .returned (.bool true) ∧ Grown w w' := by
  obtain ⟨N, hN⟩ := big_is
  have HN : Hid ((N : Int) = 65536) := hN
  clear hN
  have s5 := su5
  go_enter Try.func3, Try.ntmps3
  go_wp2_with (go_at_call 5; refine (suite_any _ _).mono ?_; rintro e w' ⟨rfl, rfl⟩)
  go_loop [4, 5] (fun c i => Rel 1 c i) (fun _ i => N - (intOf i).toNat)
  case atStart => exact ⟨0, by decide, rfl, rfl⟩
  case round =>
    obtain ⟨k, hk, rfl, rfl⟩ := hrel
    obtain ⟨b1, b2⟩ := cnt_bd 1 k
    have HS : Hid (cnt 1 (k + 1) = cnt 1 k + if su k = 1 then 1 else 0) := cnt_succ 1 k
    obtain ⟨c, hc⟩ : ∃ c, c = cnt 1 k := ⟨_, rfl⟩
    rw [← hc] at b1 b2 ⊢
    have HC : Hid (c = cnt 1 k) := hc
    clear hc
    by_cases hlt : (k : Int) < 65536
    · by_cases k5 : (k : Int) = 5
      · have e5 : su (k : Int) = 1 := by rw [k5]; rfl
        clear k5
        go_wp2_with (go_at_call 5; refine (suite_any _ _).mono ?_; rintro e w' ⟨rfl, rfl⟩)
        go_round
        case rel => exact ⟨k + 1, by omega, by go_num, by rw [HS.out, if_pos (by rw [e5]), ← HC.out]⟩
        case measure => have := HN.out; simp [intOf]; omega
      by_cases k7 : (k : Int) = 7
      · have e7 : su (k : Int) = 2 := by rw [k7]; rfl
        clear k7
        go_wp2_with (go_at_call 5; refine (suite_any _ _).mono ?_; rintro e w' ⟨rfl, rfl⟩)
        go_round
        case rel => exact ⟨k + 1, by omega, by go_num, by rw [HS.out, if_neg (by rw [e7]; decide), ← HC.out]; go_num⟩
        case measure => have := HN.out; simp [intOf]; omega
      · have e0 : su (k : Int) = 0 := su_no _ k5 k7
        clear k5 k7
        go_wp2_with (go_at_call 5; refine (suite_any _ _).mono ?_; rintro e w' ⟨rfl, rfl⟩)
        go_round
        case rel => exact ⟨k + 1, by omega, by go_num, by rw [HS.out, if_neg (by rw [e0]; decide), ← HC.out]; go_num⟩
        case measure => have := HN.out; simp [intOf]; omega
    · have he : c = 1 := HC.out.trans (cnt1_end k hlt hk)
      subst he
      go_wp2
      go_ret
      exact ⟨rfl, Grown.refl _⟩

set_option maxHeartbeats 1000000 in
theorem pre7 (w : World) :
    Calls Try.prog 3 #[.int .u16 7] w fun e w' => e = .returned (.bool true) ∧ Grown w w' := by
  obtain ⟨N, hN⟩ := big_is
  have HN : Hid ((N : Int) = 65536) := hN
  clear hN
  have s7 := su7
  go_enter Try.func3, Try.ntmps3
  go_wp2_with (go_at_call 5; refine (suite_any _ _).mono ?_; rintro e w' ⟨rfl, rfl⟩)
  go_loop [4, 5] (fun c i => Rel 2 c i) (fun _ i => N - (intOf i).toNat)
  case atStart => exact ⟨0, by decide, rfl, rfl⟩
  case round =>
    obtain ⟨k, hk, rfl, rfl⟩ := hrel
    obtain ⟨b1, b2⟩ := cnt_bd 2 k
    have HS : Hid (cnt 2 (k + 1) = cnt 2 k + if su k = 2 then 1 else 0) := cnt_succ 2 k
    obtain ⟨c, hc⟩ : ∃ c, c = cnt 2 k := ⟨_, rfl⟩
    rw [← hc] at b1 b2 ⊢
    have HC : Hid (c = cnt 2 k) := hc
    clear hc
    by_cases hlt : (k : Int) < 65536
    · by_cases k5 : (k : Int) = 5
      · have e5 : su (k : Int) = 1 := by rw [k5]; rfl
        clear k5
        go_wp2_with (go_at_call 5; refine (suite_any _ _).mono ?_; rintro e w' ⟨rfl, rfl⟩)
        go_round
        case rel => exact ⟨k + 1, by omega, by go_num, by rw [HS.out, if_neg (by rw [e5]; decide), ← HC.out]; go_num⟩
        case measure => have := HN.out; simp [intOf]; omega
      by_cases k7 : (k : Int) = 7
      · have e7 : su (k : Int) = 2 := by rw [k7]; rfl
        clear k7
        go_wp2_with (go_at_call 5; refine (suite_any _ _).mono ?_; rintro e w' ⟨rfl, rfl⟩)
        go_round
        case rel => exact ⟨k + 1, by omega, by go_num, by rw [HS.out, if_pos (by rw [e7]), ← HC.out]⟩
        case measure => have := HN.out; simp [intOf]; omega
      · have e0 : su (k : Int) = 0 := su_no _ k5 k7
        clear k5 k7
        go_wp2_with (go_at_call 5; refine (suite_any _ _).mono ?_; rintro e w' ⟨rfl, rfl⟩)
        go_round
        case rel => exact ⟨k + 1, by omega, by go_num, by rw [HS.out, if_neg (by rw [e0]; decide), ← HC.out]; go_num⟩
        case measure => have := HN.out; simp [intOf]; omega
    · have he : c = 1 := HC.out.trans (cnt2_end k hlt hk)
      subst he
      go_wp2
      go_ret
      exact ⟨rfl, Grown.refl _⟩

set_option maxHeartbeats 1000000 in
theorem pre0 (a : Int) (h5 : a ≠ 5) (h7 : a ≠ 7) (w : World) :
    Calls Try.prog 3 #[.int .u16 a] w fun e w' => e = .returned (.bool true) ∧ Grown w w' := by
  obtain ⟨N, hN⟩ := big_is
  have HN : Hid ((N : Int) = 65536) := hN
  clear hN
  have s0 := su_no a h5 h7
  clear h5 h7
  go_enter Try.func3, Try.ntmps3
  go_wp2_with (go_at_call 5; refine (suite_any _ _).mono ?_; rintro e w' ⟨rfl, rfl⟩)
  go_loop [4, 5] (fun c i => Rel 0 c i) (fun _ i => N - (intOf i).toNat)
  case atStart => exact ⟨0, by decide, rfl, rfl⟩
  case round =>
    obtain ⟨k, hk, rfl, rfl⟩ := hrel
    obtain ⟨b1, b2⟩ := cnt_bd 0 k
    have HS : Hid (cnt 0 (k + 1) = cnt 0 k + if su k = 0 then 1 else 0) := cnt_succ 0 k
    obtain ⟨c, hc⟩ : ∃ c, c = cnt 0 k := ⟨_, rfl⟩
    rw [← hc] at b1 b2 ⊢
    have HC : Hid (c = cnt 0 k) := hc
    clear hc
    by_cases hlt : (k : Int) < 65536
    · by_cases k5 : (k : Int) = 5
      · have e5 : su (k : Int) = 1 := by rw [k5]; rfl
        clear k5
        go_wp2_with (go_at_call 5; refine (suite_any _ _).mono ?_; rintro e w' ⟨rfl, rfl⟩)
        go_round
        case rel => exact ⟨k + 1, by omega, by go_num, by rw [HS.out, if_neg (by rw [e5]; decide), ← HC.out]; go_num⟩
        case measure => have := HN.out; simp [intOf]; omega
      by_cases k7 : (k : Int) = 7
      · have e7 : su (k : Int) = 2 := by rw [k7]; rfl
        clear k7
        go_wp2_with (go_at_call 5; refine (suite_any _ _).mono ?_; rintro e w' ⟨rfl, rfl⟩)
        go_round
        case rel => exact ⟨k + 1, by omega, by go_num, by rw [HS.out, if_neg (by rw [e7]; decide), ← HC.out]; go_num⟩
        case measure => have := HN.out; simp [intOf]; omega
      · have e0 : su (k : Int) = 0 := su_no _ k5 k7
        clear k5 k7
        go_wp2_with (go_at_call 5; refine (suite_any _ _).mono ?_; rintro e w' ⟨rfl, rfl⟩)
        go_round
        case rel => exact ⟨k + 1, by omega, by go_num, by rw [HS.out, if_pos (by rw [e0]), ← HC.out]⟩
        case measure => have := HN.out; simp [intOf]; omega
    · have he : c = 65534 := HC.out.trans (cnt0_end k hlt hk)
      subst he
      go_wp2
      go_ret
      exact ⟨rfl, Grown.refl _⟩

theorem pre_all (a : Int) (w : World) :
    Calls Try.prog 3 #[.int .u16 a] w fun e w' => e = .returned (.bool true) ∧ Grown w w' := by
  by_cases h5 : a = 5
  · subst h5; exact pre5 w
  by_cases h7 : a = 7
  · subst h7; exact pre7 w
  exact pre0 a h5 h7 w
end Go.Proofs.Qxb6627457a
