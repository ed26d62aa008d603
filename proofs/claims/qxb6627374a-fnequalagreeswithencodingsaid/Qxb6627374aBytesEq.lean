/-
  'zzBytesEqual': are two buffers alike. 'zzPairFits'.
-/
import Derived.Test.Qxb6627374aEncode
namespace Go.Proofs.Qxb6627374a
open Go.RowKit

/-- The cells of a buffer that is not empty. -/
theorem Buf.cells {B : Nat} {w : World} {v : Value} {bs : List Int} (h : Buf B w v bs) (h0 : 0 < bs.length) :
    ∃ g cap, v = .slice (some ⟨g, 0, none⟩) bs.length cap ∧ ∀ j (h : j < bs.length), w.cell? ⟨g, 0 + j, none⟩ = some (.int .u8 bs[j]) := by
  rcases h.2 with ⟨_, e⟩ | ⟨g, cap, cur, rfl, hb, hg, _, _, hc, ht⟩
  · omega
  · refine ⟨g, cap, rfl, fun j hj => ?_⟩
    rw [Nat.zero_add]
    have e : (cur.toList.take (bs.length * 1))[j]? = some (.int .u8 bs[j]) := by rw [ht]; simp [hj]
    rw [List.getElem?_take, if_pos (by omega), Array.getElem?_toList] at e
    simp only [World.cell?, hg, e]
    rfl

set_option maxHeartbeats 400000 in
theorem bytesEq_len (a1 a2 : Option Addr) (n1 n2 m1 m2 : Nat) (hne : ((n1 : Int) == (n2 : Int)) = false) (w : World) :
    Calls Try.prog 8 #[.slice a1 n1 m1, .slice a2 n2 m2] w fun e w' => e = .returned (.bool false) ∧ w' = w := by
  go_enter Try.func8, Try.ntmps8
  go_wp2
  go_ret
  exact ⟨rfl, rfl⟩

set_option maxHeartbeats 1000000 in
theorem bytesEq_loop (x1 m1 x2 m2 n : Nat) (s1 s2 : List Int) (hn : n ≤ 9223372036854775807) (HL : Hid (s1.length = s2.length)) (HN : Hid (n = s1.length)) (w : World)
    (f1 : ∀ j (h : j < s1.length), w.cell? ⟨x1, 0 + j, none⟩ = some (.int .u8 s1[j])) (f2 : ∀ j (h : j < s2.length), w.cell? ⟨x2, 0 + j, none⟩ = some (.int .u8 s2[j])) :
    Calls Try.prog 8 #[.slice (some ⟨x1, 0, none⟩) n m1, .slice (some ⟨x2, 0, none⟩) n m2] w fun e w' => e = .returned (.bool (decide (s1 = s2))) ∧ ∃ n, w' = w.drewN n := by
  go_enter Try.func8, Try.ntmps8
  go_wp2
  go_loopw [5] (fun i wr => ∃ (k q : Nat), k ≤ s1.length ∧ i = .int .i64 k ∧ Agree s1 s2 k ∧ wr = w.drewN q) (fun i _ => n - (intOf i).toNat)
  case atStart => exact ⟨0, 0, Nat.zero_le _, rfl, fun j hj => absurd hj (by omega), rfl⟩
  case round =>
    obtain ⟨k, q, hk, rfl, hag, hwr⟩ := hrel
    rw [← HN.out] at hk
    by_cases hlt : k < n
    · have hk1 : k < s1.length := by rw [← HN.out]; exact hlt
      have hk2 : k < s2.length := by rw [← HL.out]; exact hk1
      have g1 : wr.cell? ⟨x1, 0 + k, none⟩ = some (.int .u8 s1[k]) := by rw [hwr]; exact f1 k hk1
      have g2 : wr.cell? ⟨x2, 0 + k, none⟩ = some (.int .u8 s2[k]) := by rw [hwr]; exact f2 k hk2
      rw [Nat.zero_add] at g1 g2
      obtain ⟨u1, hu1⟩ : ∃ u, u = s1[k] := ⟨_, rfl⟩
      obtain ⟨u2, hu2⟩ : ∃ u, u = s2[k] := ⟨_, rfl⟩
      rw [← hu1] at g1
      rw [← hu2] at g2
      have HA : Hid (Agree s1 s2 k ∧ s1[k]? = some u1 ∧ s2[k]? = some u2) := ⟨hag, by rw [hu1]; exact List.getElem?_eq_getElem hk1, by rw [hu2]; exact List.getElem?_eq_getElem hk2⟩
      have HW : Hid (wr = w.drewN q) := hwr
      clear hag hu1 hu2 hk1 hk2 f1 f2 hwr
      by_cases hu : u1 = u2
      · subst hu
        go_wp2
        go_quiet (fail)
        go_wp2
        go_roundw
        case rel => exact ⟨k + 1, _, by rw [← HN.out]; omega, by go_num, agree_step HA.out rfl, by rw [HW.out]; exact World.drewN_drewN _ _ _⟩
        case measure => simp [intOf]; omega
      · have hf : (u1 == u2) = false := by simpa using hu
        go_wp2
        go_quiet (fail)
        go_wp2
        go_ret
        refine ⟨ret_bool ?_, _, by rw [HW.out]; exact World.drewN_drewN _ _ _⟩
        obtain ⟨_, h1, h2⟩ := HA.out
        refine (decide_eq_false fun h => ?_).symm
        rw [h, h2] at h1
        exact hu (by simpa using h1.symm)
    · go_wp2
      go_ret
      exact ⟨ret_bool (decide_eq_true (agree_all hag HL.out (by rw [← HN.out]; omega))).symm, q, rfl⟩

theorem bytesEq_any (v1 v2 : Value) (B1 B2 : Nat) (s1 s2 : List Int) (w : World) (l1 : 0 < s1.length) (l2 : 0 < s2.length) (n1 : s1.length ≤ 549755813888) (h1 : Buf B1 w v1 s1) (h2 : Buf B2 w v2 s2) :
    Calls Try.prog 8 #[v1, v2] w fun e w' => e = .returned (.bool (decide (s1 = s2))) ∧ ∃ n, w' = w.drewN n := by
  obtain ⟨g1, m1, rfl, f1⟩ := h1.cells l1
  obtain ⟨g2, m2, rfl, f2⟩ := h2.cells l2
  by_cases hl : s1.length = s2.length
  · rw [← hl]
    exact bytesEq_loop g1 m1 g2 m2 s1.length s1 s2 (by omega) hl rfl w f1 f2
  · refine (bytesEq_len _ _ _ _ m1 m2 (by simp; omega) w).mono ?_
    rintro e w' ⟨rfl, rfl⟩
    exact ⟨ret_bool (decide_eq_false fun h => hl (by rw [h])).symm, 0, rfl⟩

set_option maxHeartbeats 400000 in
theorem pairFits_any (v1 v2 : Value) (ts us : List Term) (lo hi lo' hi' : Nat) (w : World) (h1 : Hid (Terms w lo hi v1 ts)) (h2 : Hid (Terms w lo' hi' v2 us)) :
    Calls Try.prog 6 #[v1, v2] w fun e w' => ∃ b, e = .returned (.bool b) ∧ w' = w ∧ (b = true → wTerms ts + wTerms us ≤ 1048576) := by
  go_enter Try.func6, Try.ntmps6
  go_wp2_with fail
  refine (termsFit_any _ ts lo hi 0 (by decide) (by decide) _ h1.out).mono ?_
  rintro e w0 ⟨T, ok, rfl, rfl, p0, p1, p2⟩
  have P2 : Hid (ok = true → T = 0 + wTerms ts) := p2
  clear p2
  cases ok
  · go_wp2_with fail
    go_ret
    exact ⟨_, rfl, rfl, fun h => by cases h⟩
  · go_wp2_with fail
    refine (termsFit_any _ us lo' hi' T p0 p1 _ h2.out).mono ?_
    rintro e w1 ⟨T2, ok2, rfl, rfl, q0, q1, q2⟩
    have Q2 : Hid (ok2 = true → T2 = T + wTerms us) := q2
    clear q2
    go_wp2_with fail
    go_ret
    exact ⟨_, rfl, rfl, fun h => by have := Q2.out h; have := P2.out trivial; omega⟩
end Go.Proofs.Qxb6627374a
