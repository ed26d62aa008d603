import Derived.Test.Qxb6627457aSuite
namespace Go.Proofs.Qxb6627457a
open Go.RowKit

/-- How many of the first k algorithms that are at most a have a suite. -/
def rnk (a : Int) : Nat → Int
  | 0 => 0
  | k + 1 => rnk a k + if su k ≠ 0 ∧ (k : Int) ≤ a then 1 else 0
theorem rnk_bd (a : Int) (k : Nat) : 0 ≤ rnk a k ∧ rnk a k ≤ k := by
  induction k with
  | zero => simp [rnk]
  | succ k ih => simp only [rnk]; split <;> omega
theorem rnk_hit (a : Int) (k : Nat) (h : su k ≠ 0) (h' : (k : Int) ≤ a) : rnk a (k + 1) = rnk a k + 1 := by
  rw [rnk, if_pos ⟨h, h'⟩]
theorem rnk_above (a : Int) (k : Nat) (h' : a < (k : Int)) : rnk a (k + 1) = rnk a k := by
  rw [rnk, if_neg (by omega), Int.add_zero]
theorem rnk_none (a : Int) (k : Nat) (h : su k = 0) : rnk a (k + 1) = rnk a k := by
  rw [rnk, if_neg (by simp [h]), Int.add_zero]
theorem rnk_is (a : Int) (k : Nat) : rnk a k = (if 5 < k ∧ 5 ≤ a then 1 else 0) + (if 7 < k ∧ 7 ≤ a then 1 else 0) := by
  induction k with
  | zero => simp [rnk]
  | succ k ih =>
    rw [rnk, ih]
    unfold su
    repeat' split
    all_goals omega
theorem rnk_end (a : Int) (k : Nat) (h : ¬ (k : Int) < 65536) (h7 : 7 ≤ a) : rnk a k = 2 := by
  rw [rnk_is, if_pos (by omega), if_pos (by omega)]; rfl
theorem rnk5_end (k : Nat) (h : ¬ (k : Int) < 65536) : rnk 5 k = 1 := by
  rw [rnk_is, if_pos (by omega), if_neg (by omega)]; rfl

/-- How many of the first k algorithms have a suite. -/
def tot : Nat → Int
  | 0 => 0
  | k + 1 => tot k + if su k ≠ 0 then 1 else 0
theorem tot_bd (k : Nat) : 0 ≤ tot k ∧ tot k ≤ k := by
  induction k with
  | zero => simp [tot]
  | succ k ih => simp only [tot]; split <;> omega
theorem tot_hit (k : Nat) (h : su k ≠ 0) : tot (k + 1) = tot k + 1 := by rw [tot, if_pos h]
theorem tot_none (k : Nat) (h : su k = 0) : tot (k + 1) = tot k := by rw [tot, if_neg (by simp [h]), Int.add_zero]
theorem tot_is (k : Nat) : tot k = (if 5 < k then 1 else 0) + (if 7 < k then 1 else 0) := by
  induction k with
  | zero => simp [tot]
  | succ k ih =>
    rw [tot, ih]
    unfold su
    repeat' split
    all_goals omega
theorem tot_end (k : Nat) (h : ¬ (k : Int) < 65536) : tot k = 2 := by
  rw [tot_is, if_pos (by omega), if_pos (by omega)]; rfl

/-- The loop's relation, behind a name. -/
def RelR (a b : Int) (t ra rb i : Value) : Prop := ∃ (k : Nat) (T x y : Int), (k : Int) ≤ 65536 ∧ i = .int .i64 k ∧ t = .int .i64 T ∧ ra = .int .i64 x ∧ rb = .int .i64 y ∧ Hid (T = tot k) ∧ Hid (x = rnk a k) ∧ Hid (y = rnk b k)

/-- What one round does to the three counts. -/
theorem relR_hit {a b t x y x' y' : Int} {k : Nat} (hk : (k : Int) < 65536) (hs : su k ≠ 0) (HT : Hid (t = tot k)) (HA : Hid (x = rnk a k)) (HB : Hid (y = rnk b k))
    (ha : ((k : Int) ≤ a ∧ x' = x + 1) ∨ (a < (k : Int) ∧ x' = x)) (hb : ((k : Int) ≤ b ∧ y' = y + 1) ∨ (b < (k : Int) ∧ y' = y)) :
    RelR a b (.int .i64 (t + 1)) (.int .i64 x') (.int .i64 y') (.int .i64 ((k : Int) + 1)) := by
  refine ⟨k + 1, t + 1, x', y', by omega, by go_num, rfl, rfl, rfl, ?_, ?_, ?_⟩
  · show _ = _; rw [HT.out, tot_hit k hs]
  · show _ = _
    rcases ha with ⟨h, rfl⟩ | ⟨h, rfl⟩
    · rw [rnk_hit a k hs h, HA.out]
    · rw [rnk_above a k h, HA.out]
  · show _ = _
    rcases hb with ⟨h, rfl⟩ | ⟨h, rfl⟩
    · rw [rnk_hit b k hs h, HB.out]
    · rw [rnk_above b k h, HB.out]
theorem relR_none {a b t x y : Int} {k : Nat} (hk : (k : Int) < 65536) (hs : su k = 0) (HT : Hid (t = tot k)) (HA : Hid (x = rnk a k)) (HB : Hid (y = rnk b k)) :
    RelR a b (.int .i64 t) (.int .i64 x) (.int .i64 y) (.int .i64 ((k : Int) + 1)) := by
  refine ⟨k + 1, t, x, y, by omega, by go_num, rfl, rfl, rfl, ?_, ?_, ?_⟩
  · show _ = _; rw [HT.out, tot_none k hs]
  · show _ = _; rw [HA.out, rnk_none a k hs]
  · show _ = _; rw [HB.out, rnk_none b k hs]
theorem su_of5 {k : Nat} (h : (k : Int) = 5) : su (k : Int) = 1 := by rw [h]; rfl
theorem su_of7 {k : Nat} (h : (k : Int) = 7) : su (k : Int) = 2 := by rw [h]; rfl

set_option maxHeartbeats 2000000 in
theorem rank_5_5 (w : World) :
    Calls Try.prog 4 #[.int .u16 5, .int .u16 5] w fun e w' => e = .returned (.bool true) ∧ Grown w w' := by
  obtain ⟨N, hN⟩ := big_is
  have HN : Hid ((N : Int) = 65536) := hN
  clear hN
  have S5 : Hid (su 5 = 1) := su5
  go_enter Try.func4, Try.ntmps4
  go_wp2_with (go_at_call 5; refine (suite_any _ _).mono ?_; rintro e w' ⟨rfl, rfl⟩; (rw [S5.out]))
  go_loop [7, 8, 9, 10] (fun t ra rb i => RelR 5 5 t ra rb i) (fun _ _ _ i => N - (intOf i).toNat)
  case atStart => exact ⟨0, 0, 0, 0, by decide, rfl, rfl, rfl, rfl, rfl, rfl, rfl⟩
  case round =>
    obtain ⟨k, t, x, y, hk, rfl, rfl, rfl, rfl, HT, HA, HB⟩ := hrel
    obtain ⟨b1, b2⟩ : 0 ≤ t ∧ t ≤ k := by rw [HT.out]; exact tot_bd k
    obtain ⟨b3, b4⟩ : 0 ≤ x ∧ x ≤ k := by rw [HA.out]; exact rnk_bd _ k
    obtain ⟨b5, b6⟩ : 0 ≤ y ∧ y ≤ k := by rw [HB.out]; exact rnk_bd _ k
    by_cases hlt : (k : Int) < 65536
    · by_cases k5 : (k : Int) = 5
      · have E : Hid (su (k : Int) = 1) := su_of5 k5
        have g5 : (k : Int) ≤ 5 := by rw [k5]; decide
        clear k5
        go_wp2_with (go_at_call 5; refine (suite_any _ _).mono ?_; rintro e w' ⟨rfl, rfl⟩; rw [E.out])
        go_round
        case rel => exact relR_hit hlt (by rw [E.out]; decide) HT HA HB (Or.inl ⟨g5, rfl⟩) (Or.inl ⟨g5, rfl⟩)
        case measure => have := HN.out; simp [intOf]; omega
      by_cases k7 : (k : Int) = 7
      · have E : Hid (su (k : Int) = 2) := su_of7 k7
        have g5 : ¬ (k : Int) ≤ 5 := by rw [k7]; decide
        have G5 : Hid (5 < (k : Int)) := (Int.not_le.1 g5)
        have d5 : decide ((k : Int) ≤ 5) = false := decide_eq_false g5
        clear g5
        clear k5 k7
        go_wp2_with (go_at_call 5; refine (suite_any _ _).mono ?_; rintro e w' ⟨rfl, rfl⟩; rw [E.out])
        go_round
        case rel => exact relR_hit hlt (by rw [E.out]; decide) HT HA HB (Or.inr ⟨G5.out, rfl⟩) (Or.inr ⟨G5.out, rfl⟩)
        case measure => have := HN.out; simp [intOf]; omega
      · have E : Hid (su (k : Int) = 0) := su_no _ k5 k7
        clear k5 k7
        go_wp2_with (go_at_call 5; refine (suite_any _ _).mono ?_; rintro e w' ⟨rfl, rfl⟩; rw [E.out])
        go_round
        case rel => exact relR_none hlt E.out HT HA HB
        case measure => have := HN.out; simp [intOf]; omega
    · obtain rfl : t = 2 := HT.out.trans (tot_end k hlt)
      obtain rfl : x = 1 := HA.out.trans (rnk5_end k hlt)
      obtain rfl : y = 1 := HB.out.trans (rnk5_end k hlt)
      go_wp2
      all_goals
        go_ret
        exact ⟨rfl, Grown.refl _⟩

set_option maxHeartbeats 2000000 in
theorem rank_5_7 (w : World) :
    Calls Try.prog 4 #[.int .u16 5, .int .u16 7] w fun e w' => e = .returned (.bool true) ∧ Grown w w' := by
  obtain ⟨N, hN⟩ := big_is
  have HN : Hid ((N : Int) = 65536) := hN
  clear hN
  have S5 : Hid (su 5 = 1) := su5
  have S7 : Hid (su 7 = 2) := su7
  go_enter Try.func4, Try.ntmps4
  go_wp2_with (go_at_call 5; refine (suite_any _ _).mono ?_; rintro e w' ⟨rfl, rfl⟩; (first | rw [S5.out] | rw [S7.out]))
  go_loop [7, 8, 9, 10] (fun t ra rb i => RelR 5 7 t ra rb i) (fun _ _ _ i => N - (intOf i).toNat)
  case atStart => exact ⟨0, 0, 0, 0, by decide, rfl, rfl, rfl, rfl, rfl, rfl, rfl⟩
  case round =>
    obtain ⟨k, t, x, y, hk, rfl, rfl, rfl, rfl, HT, HA, HB⟩ := hrel
    obtain ⟨b1, b2⟩ : 0 ≤ t ∧ t ≤ k := by rw [HT.out]; exact tot_bd k
    obtain ⟨b3, b4⟩ : 0 ≤ x ∧ x ≤ k := by rw [HA.out]; exact rnk_bd _ k
    obtain ⟨b5, b6⟩ : 0 ≤ y ∧ y ≤ k := by rw [HB.out]; exact rnk_bd _ k
    by_cases hlt : (k : Int) < 65536
    · by_cases k5 : (k : Int) = 5
      · have E : Hid (su (k : Int) = 1) := su_of5 k5
        have g7 : (k : Int) ≤ 7 := by rw [k5]; decide
        have g5 : (k : Int) ≤ 5 := by rw [k5]; decide
        clear k5
        go_wp2_with (go_at_call 5; refine (suite_any _ _).mono ?_; rintro e w' ⟨rfl, rfl⟩; rw [E.out])
        go_round
        case rel => exact relR_hit hlt (by rw [E.out]; decide) HT HA HB (Or.inl ⟨g5, rfl⟩) (Or.inl ⟨g7, rfl⟩)
        case measure => have := HN.out; simp [intOf]; omega
      by_cases k7 : (k : Int) = 7
      · have E : Hid (su (k : Int) = 2) := su_of7 k7
        have g7 : (k : Int) ≤ 7 := by rw [k7]; decide
        have g5 : ¬ (k : Int) ≤ 5 := by rw [k7]; decide
        have G5 : Hid (5 < (k : Int)) := (Int.not_le.1 g5)
        have d5 : decide ((k : Int) ≤ 5) = false := decide_eq_false g5
        clear g5
        clear k5 k7
        go_wp2_with (go_at_call 5; refine (suite_any _ _).mono ?_; rintro e w' ⟨rfl, rfl⟩; rw [E.out])
        go_round
        case rel => exact relR_hit hlt (by rw [E.out]; decide) HT HA HB (Or.inr ⟨G5.out, rfl⟩) (Or.inl ⟨g7, rfl⟩)
        case measure => have := HN.out; simp [intOf]; omega
      · have E : Hid (su (k : Int) = 0) := su_no _ k5 k7
        clear k5 k7
        go_wp2_with (go_at_call 5; refine (suite_any _ _).mono ?_; rintro e w' ⟨rfl, rfl⟩; rw [E.out])
        go_round
        case rel => exact relR_none hlt E.out HT HA HB
        case measure => have := HN.out; simp [intOf]; omega
    · obtain rfl : t = 2 := HT.out.trans (tot_end k hlt)
      obtain rfl : x = 1 := HA.out.trans (rnk5_end k hlt)
      obtain rfl : y = 2 := HB.out.trans (rnk_end 7 k hlt (by decide))
      go_wp2
      all_goals
        go_ret
        exact ⟨rfl, Grown.refl _⟩

set_option maxHeartbeats 2000000 in
theorem rank_5_b (b : Int) (SB : Hid (su b = 0)) (w : World) :
    Calls Try.prog 4 #[.int .u16 5, .int .u16 b] w fun e w' => e = .returned (.bool true) ∧ Grown w w' := by
  obtain ⟨N, hN⟩ := big_is
  have HN : Hid ((N : Int) = 65536) := hN
  clear hN
  have S5 : Hid (su 5 = 1) := su5
  go_enter Try.func4, Try.ntmps4
  go_wp2_with (go_at_call 5; refine (suite_any _ _).mono ?_; rintro e w' ⟨rfl, rfl⟩; (first | rw [S5.out] | rw [SB.out]))
  go_loop [7, 8, 9, 10] (fun t ra rb i => RelR 5 b t ra rb i) (fun _ _ _ i => N - (intOf i).toNat)
  case atStart => exact ⟨0, 0, 0, 0, by decide, rfl, rfl, rfl, rfl, rfl, rfl, rfl⟩
  case round =>
    obtain ⟨k, t, x, y, hk, rfl, rfl, rfl, rfl, HT, HA, HB⟩ := hrel
    obtain ⟨b1, b2⟩ : 0 ≤ t ∧ t ≤ k := by rw [HT.out]; exact tot_bd k
    obtain ⟨b3, b4⟩ : 0 ≤ x ∧ x ≤ k := by rw [HA.out]; exact rnk_bd _ k
    obtain ⟨b5, b6⟩ : 0 ≤ y ∧ y ≤ k := by rw [HB.out]; exact rnk_bd _ k
    by_cases hlt : (k : Int) < 65536
    · by_cases k5 : (k : Int) = 5
      · have E : Hid (su (k : Int) = 1) := su_of5 k5
        have g5 : (k : Int) ≤ 5 := by rw [k5]; decide
        clear k5
        by_cases gb : (k : Int) ≤ b
        · go_wp2_with (go_at_call 5; refine (suite_any _ _).mono ?_; rintro e w' ⟨rfl, rfl⟩; rw [E.out])
          go_round
          case rel => exact relR_hit hlt (by rw [E.out]; decide) HT HA HB (Or.inl ⟨g5, rfl⟩) (Or.inl ⟨gb, rfl⟩)
          case measure => have := HN.out; simp [intOf]; omega
        · have Gb : Hid (b < (k : Int)) := (Int.not_le.1 gb)
          have db : decide ((k : Int) ≤ b) = false := decide_eq_false gb
          clear gb
          go_wp2_with (go_at_call 5; refine (suite_any _ _).mono ?_; rintro e w' ⟨rfl, rfl⟩; rw [E.out])
          go_round
          case rel => exact relR_hit hlt (by rw [E.out]; decide) HT HA HB (Or.inl ⟨g5, rfl⟩) (Or.inr ⟨Gb.out, rfl⟩)
          case measure => have := HN.out; simp [intOf]; omega
      by_cases k7 : (k : Int) = 7
      · have E : Hid (su (k : Int) = 2) := su_of7 k7
        have g5 : ¬ (k : Int) ≤ 5 := by rw [k7]; decide
        have G5 : Hid (5 < (k : Int)) := (Int.not_le.1 g5)
        have d5 : decide ((k : Int) ≤ 5) = false := decide_eq_false g5
        clear g5
        clear k5 k7
        by_cases gb : (k : Int) ≤ b
        · go_wp2_with (go_at_call 5; refine (suite_any _ _).mono ?_; rintro e w' ⟨rfl, rfl⟩; rw [E.out])
          go_round
          case rel => exact relR_hit hlt (by rw [E.out]; decide) HT HA HB (Or.inr ⟨G5.out, rfl⟩) (Or.inl ⟨gb, rfl⟩)
          case measure => have := HN.out; simp [intOf]; omega
        · have Gb : Hid (b < (k : Int)) := (Int.not_le.1 gb)
          have db : decide ((k : Int) ≤ b) = false := decide_eq_false gb
          clear gb
          go_wp2_with (go_at_call 5; refine (suite_any _ _).mono ?_; rintro e w' ⟨rfl, rfl⟩; rw [E.out])
          go_round
          case rel => exact relR_hit hlt (by rw [E.out]; decide) HT HA HB (Or.inr ⟨G5.out, rfl⟩) (Or.inr ⟨Gb.out, rfl⟩)
          case measure => have := HN.out; simp [intOf]; omega
      · have E : Hid (su (k : Int) = 0) := su_no _ k5 k7
        clear k5 k7
        go_wp2_with (go_at_call 5; refine (suite_any _ _).mono ?_; rintro e w' ⟨rfl, rfl⟩; rw [E.out])
        go_round
        case rel => exact relR_none hlt E.out HT HA HB
        case measure => have := HN.out; simp [intOf]; omega
    · obtain rfl : t = 2 := HT.out.trans (tot_end k hlt)
      obtain rfl : x = 1 := HA.out.trans (rnk5_end k hlt)
      go_wp2
      all_goals
        go_ret
        exact ⟨rfl, Grown.refl _⟩

set_option maxHeartbeats 2000000 in
theorem rank_7_5 (w : World) :
    Calls Try.prog 4 #[.int .u16 7, .int .u16 5] w fun e w' => e = .returned (.bool true) ∧ Grown w w' := by
  obtain ⟨N, hN⟩ := big_is
  have HN : Hid ((N : Int) = 65536) := hN
  clear hN
  have S5 : Hid (su 5 = 1) := su5
  have S7 : Hid (su 7 = 2) := su7
  go_enter Try.func4, Try.ntmps4
  go_wp2_with (go_at_call 5; refine (suite_any _ _).mono ?_; rintro e w' ⟨rfl, rfl⟩; (first | rw [S7.out] | rw [S5.out]))
  go_loop [7, 8, 9, 10] (fun t ra rb i => RelR 7 5 t ra rb i) (fun _ _ _ i => N - (intOf i).toNat)
  case atStart => exact ⟨0, 0, 0, 0, by decide, rfl, rfl, rfl, rfl, rfl, rfl, rfl⟩
  case round =>
    obtain ⟨k, t, x, y, hk, rfl, rfl, rfl, rfl, HT, HA, HB⟩ := hrel
    obtain ⟨b1, b2⟩ : 0 ≤ t ∧ t ≤ k := by rw [HT.out]; exact tot_bd k
    obtain ⟨b3, b4⟩ : 0 ≤ x ∧ x ≤ k := by rw [HA.out]; exact rnk_bd _ k
    obtain ⟨b5, b6⟩ : 0 ≤ y ∧ y ≤ k := by rw [HB.out]; exact rnk_bd _ k
    by_cases hlt : (k : Int) < 65536
    · by_cases k5 : (k : Int) = 5
      · have E : Hid (su (k : Int) = 1) := su_of5 k5
        have g7 : (k : Int) ≤ 7 := by rw [k5]; decide
        have g5 : (k : Int) ≤ 5 := by rw [k5]; decide
        clear k5
        go_wp2_with (go_at_call 5; refine (suite_any _ _).mono ?_; rintro e w' ⟨rfl, rfl⟩; rw [E.out])
        go_round
        case rel => exact relR_hit hlt (by rw [E.out]; decide) HT HA HB (Or.inl ⟨g7, rfl⟩) (Or.inl ⟨g5, rfl⟩)
        case measure => have := HN.out; simp [intOf]; omega
      by_cases k7 : (k : Int) = 7
      · have E : Hid (su (k : Int) = 2) := su_of7 k7
        have g7 : (k : Int) ≤ 7 := by rw [k7]; decide
        have g5 : ¬ (k : Int) ≤ 5 := by rw [k7]; decide
        have G5 : Hid (5 < (k : Int)) := (Int.not_le.1 g5)
        have d5 : decide ((k : Int) ≤ 5) = false := decide_eq_false g5
        clear g5
        clear k5 k7
        go_wp2_with (go_at_call 5; refine (suite_any _ _).mono ?_; rintro e w' ⟨rfl, rfl⟩; rw [E.out])
        go_round
        case rel => exact relR_hit hlt (by rw [E.out]; decide) HT HA HB (Or.inl ⟨g7, rfl⟩) (Or.inr ⟨G5.out, rfl⟩)
        case measure => have := HN.out; simp [intOf]; omega
      · have E : Hid (su (k : Int) = 0) := su_no _ k5 k7
        clear k5 k7
        go_wp2_with (go_at_call 5; refine (suite_any _ _).mono ?_; rintro e w' ⟨rfl, rfl⟩; rw [E.out])
        go_round
        case rel => exact relR_none hlt E.out HT HA HB
        case measure => have := HN.out; simp [intOf]; omega
    · obtain rfl : t = 2 := HT.out.trans (tot_end k hlt)
      obtain rfl : x = 2 := HA.out.trans (rnk_end 7 k hlt (by decide))
      obtain rfl : y = 1 := HB.out.trans (rnk5_end k hlt)
      go_wp2
      all_goals
        go_ret
        exact ⟨rfl, Grown.refl _⟩

set_option maxHeartbeats 2000000 in
theorem rank_7_7 (w : World) :
    Calls Try.prog 4 #[.int .u16 7, .int .u16 7] w fun e w' => e = .returned (.bool true) ∧ Grown w w' := by
  obtain ⟨N, hN⟩ := big_is
  have HN : Hid ((N : Int) = 65536) := hN
  clear hN
  have S7 : Hid (su 7 = 2) := su7
  go_enter Try.func4, Try.ntmps4
  go_wp2_with (go_at_call 5; refine (suite_any _ _).mono ?_; rintro e w' ⟨rfl, rfl⟩; (rw [S7.out]))
  go_loop [7, 8, 9, 10] (fun t ra rb i => RelR 7 7 t ra rb i) (fun _ _ _ i => N - (intOf i).toNat)
  case atStart => exact ⟨0, 0, 0, 0, by decide, rfl, rfl, rfl, rfl, rfl, rfl, rfl⟩
  case round =>
    obtain ⟨k, t, x, y, hk, rfl, rfl, rfl, rfl, HT, HA, HB⟩ := hrel
    obtain ⟨b1, b2⟩ : 0 ≤ t ∧ t ≤ k := by rw [HT.out]; exact tot_bd k
    obtain ⟨b3, b4⟩ : 0 ≤ x ∧ x ≤ k := by rw [HA.out]; exact rnk_bd _ k
    obtain ⟨b5, b6⟩ : 0 ≤ y ∧ y ≤ k := by rw [HB.out]; exact rnk_bd _ k
    by_cases hlt : (k : Int) < 65536
    · by_cases k5 : (k : Int) = 5
      · have E : Hid (su (k : Int) = 1) := su_of5 k5
        have g7 : (k : Int) ≤ 7 := by rw [k5]; decide
        clear k5
        go_wp2_with (go_at_call 5; refine (suite_any _ _).mono ?_; rintro e w' ⟨rfl, rfl⟩; rw [E.out])
        go_round
        case rel => exact relR_hit hlt (by rw [E.out]; decide) HT HA HB (Or.inl ⟨g7, rfl⟩) (Or.inl ⟨g7, rfl⟩)
        case measure => have := HN.out; simp [intOf]; omega
      by_cases k7 : (k : Int) = 7
      · have E : Hid (su (k : Int) = 2) := su_of7 k7
        have g7 : (k : Int) ≤ 7 := by rw [k7]; decide
        clear k5 k7
        go_wp2_with (go_at_call 5; refine (suite_any _ _).mono ?_; rintro e w' ⟨rfl, rfl⟩; rw [E.out])
        go_round
        case rel => exact relR_hit hlt (by rw [E.out]; decide) HT HA HB (Or.inl ⟨g7, rfl⟩) (Or.inl ⟨g7, rfl⟩)
        case measure => have := HN.out; simp [intOf]; omega
      · have E : Hid (su (k : Int) = 0) := su_no _ k5 k7
        clear k5 k7
        go_wp2_with (go_at_call 5; refine (suite_any _ _).mono ?_; rintro e w' ⟨rfl, rfl⟩; rw [E.out])
        go_round
        case rel => exact relR_none hlt E.out HT HA HB
        case measure => have := HN.out; simp [intOf]; omega
    · obtain rfl : t = 2 := HT.out.trans (tot_end k hlt)
      obtain rfl : x = 2 := HA.out.trans (rnk_end 7 k hlt (by decide))
      obtain rfl : y = 2 := HB.out.trans (rnk_end 7 k hlt (by decide))
      go_wp2
      all_goals
        go_ret
        exact ⟨rfl, Grown.refl _⟩

set_option maxHeartbeats 2000000 in
theorem rank_7_b (b : Int) (SB : Hid (su b = 0)) (w : World) :
    Calls Try.prog 4 #[.int .u16 7, .int .u16 b] w fun e w' => e = .returned (.bool true) ∧ Grown w w' := by
  obtain ⟨N, hN⟩ := big_is
  have HN : Hid ((N : Int) = 65536) := hN
  clear hN
  have S7 : Hid (su 7 = 2) := su7
  go_enter Try.func4, Try.ntmps4
  go_wp2_with (go_at_call 5; refine (suite_any _ _).mono ?_; rintro e w' ⟨rfl, rfl⟩; (first | rw [S7.out] | rw [SB.out]))
  go_loop [7, 8, 9, 10] (fun t ra rb i => RelR 7 b t ra rb i) (fun _ _ _ i => N - (intOf i).toNat)
  case atStart => exact ⟨0, 0, 0, 0, by decide, rfl, rfl, rfl, rfl, rfl, rfl, rfl⟩
  case round =>
    obtain ⟨k, t, x, y, hk, rfl, rfl, rfl, rfl, HT, HA, HB⟩ := hrel
    obtain ⟨b1, b2⟩ : 0 ≤ t ∧ t ≤ k := by rw [HT.out]; exact tot_bd k
    obtain ⟨b3, b4⟩ : 0 ≤ x ∧ x ≤ k := by rw [HA.out]; exact rnk_bd _ k
    obtain ⟨b5, b6⟩ : 0 ≤ y ∧ y ≤ k := by rw [HB.out]; exact rnk_bd _ k
    by_cases hlt : (k : Int) < 65536
    · by_cases k5 : (k : Int) = 5
      · have E : Hid (su (k : Int) = 1) := su_of5 k5
        have g7 : (k : Int) ≤ 7 := by rw [k5]; decide
        clear k5
        by_cases gb : (k : Int) ≤ b
        · go_wp2_with (go_at_call 5; refine (suite_any _ _).mono ?_; rintro e w' ⟨rfl, rfl⟩; rw [E.out])
          go_round
          case rel => exact relR_hit hlt (by rw [E.out]; decide) HT HA HB (Or.inl ⟨g7, rfl⟩) (Or.inl ⟨gb, rfl⟩)
          case measure => have := HN.out; simp [intOf]; omega
        · have Gb : Hid (b < (k : Int)) := (Int.not_le.1 gb)
          have db : decide ((k : Int) ≤ b) = false := decide_eq_false gb
          clear gb
          go_wp2_with (go_at_call 5; refine (suite_any _ _).mono ?_; rintro e w' ⟨rfl, rfl⟩; rw [E.out])
          go_round
          case rel => exact relR_hit hlt (by rw [E.out]; decide) HT HA HB (Or.inl ⟨g7, rfl⟩) (Or.inr ⟨Gb.out, rfl⟩)
          case measure => have := HN.out; simp [intOf]; omega
      by_cases k7 : (k : Int) = 7
      · have E : Hid (su (k : Int) = 2) := su_of7 k7
        have g7 : (k : Int) ≤ 7 := by rw [k7]; decide
        clear k5 k7
        by_cases gb : (k : Int) ≤ b
        · go_wp2_with (go_at_call 5; refine (suite_any _ _).mono ?_; rintro e w' ⟨rfl, rfl⟩; rw [E.out])
          go_round
          case rel => exact relR_hit hlt (by rw [E.out]; decide) HT HA HB (Or.inl ⟨g7, rfl⟩) (Or.inl ⟨gb, rfl⟩)
          case measure => have := HN.out; simp [intOf]; omega
        · have Gb : Hid (b < (k : Int)) := (Int.not_le.1 gb)
          have db : decide ((k : Int) ≤ b) = false := decide_eq_false gb
          clear gb
          go_wp2_with (go_at_call 5; refine (suite_any _ _).mono ?_; rintro e w' ⟨rfl, rfl⟩; rw [E.out])
          go_round
          case rel => exact relR_hit hlt (by rw [E.out]; decide) HT HA HB (Or.inl ⟨g7, rfl⟩) (Or.inr ⟨Gb.out, rfl⟩)
          case measure => have := HN.out; simp [intOf]; omega
      · have E : Hid (su (k : Int) = 0) := su_no _ k5 k7
        clear k5 k7
        go_wp2_with (go_at_call 5; refine (suite_any _ _).mono ?_; rintro e w' ⟨rfl, rfl⟩; rw [E.out])
        go_round
        case rel => exact relR_none hlt E.out HT HA HB
        case measure => have := HN.out; simp [intOf]; omega
    · obtain rfl : t = 2 := HT.out.trans (tot_end k hlt)
      obtain rfl : x = 2 := HA.out.trans (rnk_end 7 k hlt (by decide))
      go_wp2
      all_goals
        go_ret
        exact ⟨rfl, Grown.refl _⟩

set_option maxHeartbeats 2000000 in
theorem rank_a_5 (a : Int) (SA : Hid (su a = 0)) (w : World) :
    Calls Try.prog 4 #[.int .u16 a, .int .u16 5] w fun e w' => e = .returned (.bool true) ∧ Grown w w' := by
  obtain ⟨N, hN⟩ := big_is
  have HN : Hid ((N : Int) = 65536) := hN
  clear hN
  have S5 : Hid (su 5 = 1) := su5
  go_enter Try.func4, Try.ntmps4
  go_wp2_with (go_at_call 5; refine (suite_any _ _).mono ?_; rintro e w' ⟨rfl, rfl⟩; (first | rw [SA.out] | rw [S5.out]))
  go_loop [7, 8, 9, 10] (fun t ra rb i => RelR a 5 t ra rb i) (fun _ _ _ i => N - (intOf i).toNat)
  case atStart => exact ⟨0, 0, 0, 0, by decide, rfl, rfl, rfl, rfl, rfl, rfl, rfl⟩
  case round =>
    obtain ⟨k, t, x, y, hk, rfl, rfl, rfl, rfl, HT, HA, HB⟩ := hrel
    obtain ⟨b1, b2⟩ : 0 ≤ t ∧ t ≤ k := by rw [HT.out]; exact tot_bd k
    obtain ⟨b3, b4⟩ : 0 ≤ x ∧ x ≤ k := by rw [HA.out]; exact rnk_bd _ k
    obtain ⟨b5, b6⟩ : 0 ≤ y ∧ y ≤ k := by rw [HB.out]; exact rnk_bd _ k
    by_cases hlt : (k : Int) < 65536
    · by_cases k5 : (k : Int) = 5
      · have E : Hid (su (k : Int) = 1) := su_of5 k5
        have g5 : (k : Int) ≤ 5 := by rw [k5]; decide
        clear k5
        by_cases ga : (k : Int) ≤ a
        · go_wp2_with (go_at_call 5; refine (suite_any _ _).mono ?_; rintro e w' ⟨rfl, rfl⟩; rw [E.out])
          go_round
          case rel => exact relR_hit hlt (by rw [E.out]; decide) HT HA HB (Or.inl ⟨ga, rfl⟩) (Or.inl ⟨g5, rfl⟩)
          case measure => have := HN.out; simp [intOf]; omega
        · have Ga : Hid (a < (k : Int)) := (Int.not_le.1 ga)
          have da : decide ((k : Int) ≤ a) = false := decide_eq_false ga
          clear ga
          go_wp2_with (go_at_call 5; refine (suite_any _ _).mono ?_; rintro e w' ⟨rfl, rfl⟩; rw [E.out])
          go_round
          case rel => exact relR_hit hlt (by rw [E.out]; decide) HT HA HB (Or.inr ⟨Ga.out, rfl⟩) (Or.inl ⟨g5, rfl⟩)
          case measure => have := HN.out; simp [intOf]; omega
      by_cases k7 : (k : Int) = 7
      · have E : Hid (su (k : Int) = 2) := su_of7 k7
        have g5 : ¬ (k : Int) ≤ 5 := by rw [k7]; decide
        have G5 : Hid (5 < (k : Int)) := (Int.not_le.1 g5)
        have d5 : decide ((k : Int) ≤ 5) = false := decide_eq_false g5
        clear g5
        clear k5 k7
        by_cases ga : (k : Int) ≤ a
        · go_wp2_with (go_at_call 5; refine (suite_any _ _).mono ?_; rintro e w' ⟨rfl, rfl⟩; rw [E.out])
          go_round
          case rel => exact relR_hit hlt (by rw [E.out]; decide) HT HA HB (Or.inl ⟨ga, rfl⟩) (Or.inr ⟨G5.out, rfl⟩)
          case measure => have := HN.out; simp [intOf]; omega
        · have Ga : Hid (a < (k : Int)) := (Int.not_le.1 ga)
          have da : decide ((k : Int) ≤ a) = false := decide_eq_false ga
          clear ga
          go_wp2_with (go_at_call 5; refine (suite_any _ _).mono ?_; rintro e w' ⟨rfl, rfl⟩; rw [E.out])
          go_round
          case rel => exact relR_hit hlt (by rw [E.out]; decide) HT HA HB (Or.inr ⟨Ga.out, rfl⟩) (Or.inr ⟨G5.out, rfl⟩)
          case measure => have := HN.out; simp [intOf]; omega
      · have E : Hid (su (k : Int) = 0) := su_no _ k5 k7
        clear k5 k7
        go_wp2_with (go_at_call 5; refine (suite_any _ _).mono ?_; rintro e w' ⟨rfl, rfl⟩; rw [E.out])
        go_round
        case rel => exact relR_none hlt E.out HT HA HB
        case measure => have := HN.out; simp [intOf]; omega
    · obtain rfl : t = 2 := HT.out.trans (tot_end k hlt)
      obtain rfl : y = 1 := HB.out.trans (rnk5_end k hlt)
      go_wp2
      all_goals
        go_ret
        exact ⟨rfl, Grown.refl _⟩

set_option maxHeartbeats 2000000 in
theorem rank_a_7 (a : Int) (SA : Hid (su a = 0)) (w : World) :
    Calls Try.prog 4 #[.int .u16 a, .int .u16 7] w fun e w' => e = .returned (.bool true) ∧ Grown w w' := by
  obtain ⟨N, hN⟩ := big_is
  have HN : Hid ((N : Int) = 65536) := hN
  clear hN
  have S7 : Hid (su 7 = 2) := su7
  go_enter Try.func4, Try.ntmps4
  go_wp2_with (go_at_call 5; refine (suite_any _ _).mono ?_; rintro e w' ⟨rfl, rfl⟩; (first | rw [SA.out] | rw [S7.out]))
  go_loop [7, 8, 9, 10] (fun t ra rb i => RelR a 7 t ra rb i) (fun _ _ _ i => N - (intOf i).toNat)
  case atStart => exact ⟨0, 0, 0, 0, by decide, rfl, rfl, rfl, rfl, rfl, rfl, rfl⟩
  case round =>
    obtain ⟨k, t, x, y, hk, rfl, rfl, rfl, rfl, HT, HA, HB⟩ := hrel
    obtain ⟨b1, b2⟩ : 0 ≤ t ∧ t ≤ k := by rw [HT.out]; exact tot_bd k
    obtain ⟨b3, b4⟩ : 0 ≤ x ∧ x ≤ k := by rw [HA.out]; exact rnk_bd _ k
    obtain ⟨b5, b6⟩ : 0 ≤ y ∧ y ≤ k := by rw [HB.out]; exact rnk_bd _ k
    by_cases hlt : (k : Int) < 65536
    · by_cases k5 : (k : Int) = 5
      · have E : Hid (su (k : Int) = 1) := su_of5 k5
        have g7 : (k : Int) ≤ 7 := by rw [k5]; decide
        clear k5
        by_cases ga : (k : Int) ≤ a
        · go_wp2_with (go_at_call 5; refine (suite_any _ _).mono ?_; rintro e w' ⟨rfl, rfl⟩; rw [E.out])
          go_round
          case rel => exact relR_hit hlt (by rw [E.out]; decide) HT HA HB (Or.inl ⟨ga, rfl⟩) (Or.inl ⟨g7, rfl⟩)
          case measure => have := HN.out; simp [intOf]; omega
        · have Ga : Hid (a < (k : Int)) := (Int.not_le.1 ga)
          have da : decide ((k : Int) ≤ a) = false := decide_eq_false ga
          clear ga
          go_wp2_with (go_at_call 5; refine (suite_any _ _).mono ?_; rintro e w' ⟨rfl, rfl⟩; rw [E.out])
          go_round
          case rel => exact relR_hit hlt (by rw [E.out]; decide) HT HA HB (Or.inr ⟨Ga.out, rfl⟩) (Or.inl ⟨g7, rfl⟩)
          case measure => have := HN.out; simp [intOf]; omega
      by_cases k7 : (k : Int) = 7
      · have E : Hid (su (k : Int) = 2) := su_of7 k7
        have g7 : (k : Int) ≤ 7 := by rw [k7]; decide
        clear k5 k7
        by_cases ga : (k : Int) ≤ a
        · go_wp2_with (go_at_call 5; refine (suite_any _ _).mono ?_; rintro e w' ⟨rfl, rfl⟩; rw [E.out])
          go_round
          case rel => exact relR_hit hlt (by rw [E.out]; decide) HT HA HB (Or.inl ⟨ga, rfl⟩) (Or.inl ⟨g7, rfl⟩)
          case measure => have := HN.out; simp [intOf]; omega
        · have Ga : Hid (a < (k : Int)) := (Int.not_le.1 ga)
          have da : decide ((k : Int) ≤ a) = false := decide_eq_false ga
          clear ga
          go_wp2_with (go_at_call 5; refine (suite_any _ _).mono ?_; rintro e w' ⟨rfl, rfl⟩; rw [E.out])
          go_round
          case rel => exact relR_hit hlt (by rw [E.out]; decide) HT HA HB (Or.inr ⟨Ga.out, rfl⟩) (Or.inl ⟨g7, rfl⟩)
          case measure => have := HN.out; simp [intOf]; omega
      · have E : Hid (su (k : Int) = 0) := su_no _ k5 k7
        clear k5 k7
        go_wp2_with (go_at_call 5; refine (suite_any _ _).mono ?_; rintro e w' ⟨rfl, rfl⟩; rw [E.out])
        go_round
        case rel => exact relR_none hlt E.out HT HA HB
        case measure => have := HN.out; simp [intOf]; omega
    · obtain rfl : t = 2 := HT.out.trans (tot_end k hlt)
      obtain rfl : y = 2 := HB.out.trans (rnk_end 7 k hlt (by decide))
      go_wp2
      all_goals
        go_ret
        exact ⟨rfl, Grown.refl _⟩

set_option maxHeartbeats 2000000 in
theorem rank_a_b (a : Int) (SA : Hid (su a = 0)) (b : Int) (SB : Hid (su b = 0)) (w : World) :
    Calls Try.prog 4 #[.int .u16 a, .int .u16 b] w fun e w' => e = .returned (.bool true) ∧ Grown w w' := by
  obtain ⟨N, hN⟩ := big_is
  have HN : Hid ((N : Int) = 65536) := hN
  clear hN
  go_enter Try.func4, Try.ntmps4
  go_wp2_with (go_at_call 5; refine (suite_any _ _).mono ?_; rintro e w' ⟨rfl, rfl⟩; (first | rw [SA.out] | rw [SB.out]))
  go_loop [7, 8, 9, 10] (fun t ra rb i => RelR a b t ra rb i) (fun _ _ _ i => N - (intOf i).toNat)
  case atStart => exact ⟨0, 0, 0, 0, by decide, rfl, rfl, rfl, rfl, rfl, rfl, rfl⟩
  case round =>
    obtain ⟨k, t, x, y, hk, rfl, rfl, rfl, rfl, HT, HA, HB⟩ := hrel
    obtain ⟨b1, b2⟩ : 0 ≤ t ∧ t ≤ k := by rw [HT.out]; exact tot_bd k
    obtain ⟨b3, b4⟩ : 0 ≤ x ∧ x ≤ k := by rw [HA.out]; exact rnk_bd _ k
    obtain ⟨b5, b6⟩ : 0 ≤ y ∧ y ≤ k := by rw [HB.out]; exact rnk_bd _ k
    by_cases hlt : (k : Int) < 65536
    · by_cases k5 : (k : Int) = 5
      · have E : Hid (su (k : Int) = 1) := su_of5 k5
        clear k5
        by_cases ga : (k : Int) ≤ a
        · by_cases gb : (k : Int) ≤ b
          · go_wp2_with (go_at_call 5; refine (suite_any _ _).mono ?_; rintro e w' ⟨rfl, rfl⟩; rw [E.out])
            go_round
            case rel => exact relR_hit hlt (by rw [E.out]; decide) HT HA HB (Or.inl ⟨ga, rfl⟩) (Or.inl ⟨gb, rfl⟩)
            case measure => have := HN.out; simp [intOf]; omega
          · have Gb : Hid (b < (k : Int)) := (Int.not_le.1 gb)
            have db : decide ((k : Int) ≤ b) = false := decide_eq_false gb
            clear gb
            go_wp2_with (go_at_call 5; refine (suite_any _ _).mono ?_; rintro e w' ⟨rfl, rfl⟩; rw [E.out])
            go_round
            case rel => exact relR_hit hlt (by rw [E.out]; decide) HT HA HB (Or.inl ⟨ga, rfl⟩) (Or.inr ⟨Gb.out, rfl⟩)
            case measure => have := HN.out; simp [intOf]; omega
        · have Ga : Hid (a < (k : Int)) := (Int.not_le.1 ga)
          have da : decide ((k : Int) ≤ a) = false := decide_eq_false ga
          clear ga
          by_cases gb : (k : Int) ≤ b
          · go_wp2_with (go_at_call 5; refine (suite_any _ _).mono ?_; rintro e w' ⟨rfl, rfl⟩; rw [E.out])
            go_round
            case rel => exact relR_hit hlt (by rw [E.out]; decide) HT HA HB (Or.inr ⟨Ga.out, rfl⟩) (Or.inl ⟨gb, rfl⟩)
            case measure => have := HN.out; simp [intOf]; omega
          · have Gb : Hid (b < (k : Int)) := (Int.not_le.1 gb)
            have db : decide ((k : Int) ≤ b) = false := decide_eq_false gb
            clear gb
            go_wp2_with (go_at_call 5; refine (suite_any _ _).mono ?_; rintro e w' ⟨rfl, rfl⟩; rw [E.out])
            go_round
            case rel => exact relR_hit hlt (by rw [E.out]; decide) HT HA HB (Or.inr ⟨Ga.out, rfl⟩) (Or.inr ⟨Gb.out, rfl⟩)
            case measure => have := HN.out; simp [intOf]; omega
      by_cases k7 : (k : Int) = 7
      · have E : Hid (su (k : Int) = 2) := su_of7 k7
        clear k5 k7
        by_cases ga : (k : Int) ≤ a
        · by_cases gb : (k : Int) ≤ b
          · go_wp2_with (go_at_call 5; refine (suite_any _ _).mono ?_; rintro e w' ⟨rfl, rfl⟩; rw [E.out])
            go_round
            case rel => exact relR_hit hlt (by rw [E.out]; decide) HT HA HB (Or.inl ⟨ga, rfl⟩) (Or.inl ⟨gb, rfl⟩)
            case measure => have := HN.out; simp [intOf]; omega
          · have Gb : Hid (b < (k : Int)) := (Int.not_le.1 gb)
            have db : decide ((k : Int) ≤ b) = false := decide_eq_false gb
            clear gb
            go_wp2_with (go_at_call 5; refine (suite_any _ _).mono ?_; rintro e w' ⟨rfl, rfl⟩; rw [E.out])
            go_round
            case rel => exact relR_hit hlt (by rw [E.out]; decide) HT HA HB (Or.inl ⟨ga, rfl⟩) (Or.inr ⟨Gb.out, rfl⟩)
            case measure => have := HN.out; simp [intOf]; omega
        · have Ga : Hid (a < (k : Int)) := (Int.not_le.1 ga)
          have da : decide ((k : Int) ≤ a) = false := decide_eq_false ga
          clear ga
          by_cases gb : (k : Int) ≤ b
          · go_wp2_with (go_at_call 5; refine (suite_any _ _).mono ?_; rintro e w' ⟨rfl, rfl⟩; rw [E.out])
            go_round
            case rel => exact relR_hit hlt (by rw [E.out]; decide) HT HA HB (Or.inr ⟨Ga.out, rfl⟩) (Or.inl ⟨gb, rfl⟩)
            case measure => have := HN.out; simp [intOf]; omega
          · have Gb : Hid (b < (k : Int)) := (Int.not_le.1 gb)
            have db : decide ((k : Int) ≤ b) = false := decide_eq_false gb
            clear gb
            go_wp2_with (go_at_call 5; refine (suite_any _ _).mono ?_; rintro e w' ⟨rfl, rfl⟩; rw [E.out])
            go_round
            case rel => exact relR_hit hlt (by rw [E.out]; decide) HT HA HB (Or.inr ⟨Ga.out, rfl⟩) (Or.inr ⟨Gb.out, rfl⟩)
            case measure => have := HN.out; simp [intOf]; omega
      · have E : Hid (su (k : Int) = 0) := su_no _ k5 k7
        clear k5 k7
        go_wp2_with (go_at_call 5; refine (suite_any _ _).mono ?_; rintro e w' ⟨rfl, rfl⟩; rw [E.out])
        go_round
        case rel => exact relR_none hlt E.out HT HA HB
        case measure => have := HN.out; simp [intOf]; omega
    · obtain rfl : t = 2 := HT.out.trans (tot_end k hlt)
      go_wp2
      all_goals
        go_ret
        exact ⟨rfl, Grown.refl _⟩

theorem rank_all (a b : Int) (w : World) :
    Calls Try.prog 4 #[.int .u16 a, .int .u16 b] w fun e w' => e = .returned (.bool true) ∧ Grown w w' := by
  by_cases a5 : a = 5
  · subst a5
    by_cases b5 : b = 5
    · subst b5; exact rank_5_5 w
    by_cases b7 : b = 7
    · subst b7; exact rank_5_7 w
    exact rank_5_b b (su_no b b5 b7) w
  by_cases a7 : a = 7
  · subst a7
    by_cases b5 : b = 5
    · subst b5; exact rank_7_5 w
    by_cases b7 : b = 7
    · subst b7; exact rank_7_7 w
    exact rank_7_b b (su_no b b5 b7) w
  by_cases b5 : b = 5
  · subst b5; exact rank_a_5 a (su_no a a5 a7) w
  by_cases b7 : b = 7
  · subst b7; exact rank_a_7 a (su_no a a5 a7) w
  exact rank_a_b a (su_no a a5 a7) b (su_no b b5 b7) w
end Go.Proofs.Qxb6627457a
