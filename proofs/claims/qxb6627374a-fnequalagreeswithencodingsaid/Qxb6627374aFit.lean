/-
  'zzReqsFit', 'zzTermsFit', 'zzPairFits': where they say true, the sizes of all that is reached add up to what they count, and that is at most 2^20. They only read.
-/
import Derived.Test.Qxb6627374aEqual
namespace Go.Proofs.Qxb6627374a
open Go.RowKit

/-! ### The sizes, plainly -/
def sumB : List ByteArray → Nat
  | [] => 0
  | s :: l => s.size + sumB l
def wReq (r : Req) : Nat := r.key.size + r.op.size + 16 * r.vals.length + sumB r.vals
def sumR : List Req → Nat
  | [] => 0
  | r :: l => wReq r + sumR l
def wReqs (rs : List Req) : Nat := 56 * rs.length + sumR rs
def sumT : List Term → Nat
  | [] => 0
  | t :: l => wReqs t.1 + wReqs t.2 + sumT l
def wTerms (ts : List Term) : Nat := 48 * ts.length + sumT ts

theorem sumB_snoc (l : List ByteArray) (k : Nat) (h : k < l.length) : sumB (l.take (k + 1)) = sumB (l.take k) + l[k].size := by
  induction l generalizing k with
  | nil => simp at h
  | cons s l ih =>
    cases k with
    | zero => simp [sumB]
    | succ k =>
      have := ih k (by simpa using h)
      simp only [List.take_succ_cons, sumB, this, List.getElem_cons_succ]; omega
theorem sumR_snoc (l : List Req) (k : Nat) (h : k < l.length) : sumR (l.take (k + 1)) = sumR (l.take k) + wReq l[k] := by
  induction l generalizing k with
  | nil => simp at h
  | cons s l ih =>
    cases k with
    | zero => simp [sumR]
    | succ k =>
      have := ih k (by simpa using h)
      simp only [List.take_succ_cons, sumR, this, List.getElem_cons_succ]; omega
theorem sumT_snoc (l : List Term) (k : Nat) (h : k < l.length) : sumT (l.take (k + 1)) = sumT (l.take k) + (wReqs l[k].1 + wReqs l[k].2) := by
  induction l generalizing k with
  | nil => simp at h
  | cons s l ih =>
    cases k with
    | zero => simp [sumT]
    | succ k =>
      have := ih k (by simpa using h)
      simp only [List.take_succ_cons, sumT, this, List.getElem_cons_succ]; omega

/-- What the two functions hand back: a count within the bound; where they say true, it has grown by W. -/
def FitPost (T : Int) (W : Nat) (w : World) (e : Ending) (w' : World) : Prop :=
  ∃ (T' : Int) (ok : Bool), e = .returned (.tuple #[.int .i64 T', .bool ok]) ∧ w' = w ∧ 0 ≤ T' ∧ T' ≤ 1048576 ∧ (ok = true → T' = T + W)

/-- The outer loop's relation. -/
def RelF (B : Int) (rs : List Req) (tot i : Value) : Prop := ∃ (k : Nat) (t : Int), k ≤ rs.length ∧ i = .int .i64 k ∧ tot = .int .i64 t ∧ 0 ≤ t ∧ t ≤ 1048576 ∧ Hid (t = B + sumR (rs.take k))
/-- The inner loop's relation. -/
def RelG (B : Int) (ss : List ByteArray) (tot i : Value) : Prop := ∃ (k : Nat) (t : Int), k ≤ ss.length ∧ i = .int .i64 k ∧ tot = .int .i64 t ∧ 0 ≤ t ∧ t ≤ 1048576 ∧ Hid (t = B + sumB (ss.take k))

set_option maxRecDepth 4000 in
set_option maxHeartbeats 2000000 in
theorem reqsFit_loop (x1 y1 m1 n : Nat) (rs : List Req) (lo hi : Nat) (T : Int) (hn : n ≤ 9223372036854775807) (HN : Hid (n = rs.length)) (hT0 : 0 ≤ T) (hT1 : T ≤ 1048576) (w : World)
    (f1 : ∀ j (h : j < rs.length), ReqAt w lo hi x1 (y1 + j * 3) rs[j]) :
    Calls Try.prog 18 #[.slice (some ⟨x1, y1, none⟩) n m1, .int .i64 T] w fun e w' => FitPost T (wReqs rs) w e w' := by
  go_enter Try.func18, Try.ntmps18
  go_wp2
  · go_ret2
    exact ⟨_, _, rfl, rfl, hT0, hT1, fun h => by cases h⟩
  · go_loop [1, 6] (fun tot i => RelF (T + n * 56) rs tot i) (fun _ i => n - (intOf i).toNat)
    case atStart => exact ⟨0, _, Nat.zero_le _, rfl, rfl, by omega, by omega, by show _ = _; simp [sumR]⟩
    case round =>
      obtain ⟨k, t, hk, rfl, rfl, ht0, ht1, HT⟩ := hrel
      rw [← HN.out] at hk
      by_cases hlt : k < n
      · have hk1 : k < rs.length := by rw [← HN.out]; exact hlt
        have HS : Hid (sumR (rs.take (k + 1)) = sumR (rs.take k) + wReq rs[k]) := sumR_snoc rs k hk1
        obtain ⟨c1, c2, v, c3, g⟩ := f1 k hk1
        obtain ⟨r, hr⟩ : ∃ r, r = rs[k] := ⟨_, rfl⟩
        rw [← hr] at HS c1 c2 g
        obtain ⟨av, mv, rfl, hm⟩ := g.len
        clear hr f1
        go_wp2
        · go_ret2
          exact ⟨_, _, rfl, rfl, ht0, ht1, fun h => by cases h⟩
        · go_ret2
          exact ⟨_, _, rfl, rfl, by omega, by omega, fun h => by cases h⟩
        · go_ret2
          exact ⟨_, _, rfl, rfl, by omega, by omega, fun h => by cases h⟩
        · go_loop [1, 7] (fun tot i => RelG (t + r.key.size + r.op.size + r.vals.length * 16) r.vals tot i) (fun _ i => r.vals.length - (intOf i).toNat)
          case atStart => exact ⟨0, _, Nat.zero_le _, rfl, rfl, by omega, by omega, by show _ = _; simp [sumB]⟩
          case round =>
            obtain ⟨j, t', hj, rfl, rfl, hs0, hs1, HT'⟩ := hrel
            by_cases hjl : j < r.vals.length
            · obtain ⟨bx, ox, cx, ev, gx⟩ := g.at hjl
              have HS' : Hid (sumB (r.vals.take (j + 1)) = sumB (r.vals.take j) + r.vals[j].size) := sumB_snoc r.vals j hjl
              obtain ⟨u, hu⟩ : ∃ u, u = r.vals[j] := ⟨_, rfl⟩
              rw [← hu] at HS' gx
              have c3' : w.cell? ⟨x1, y1 + k * 3 + 2, none⟩ = some (.slice (some ⟨bx, ox, none⟩) r.vals.length mv) := by
                rw [c3]; simp only [Value.slice.injEq] at ev; rw [ev.1]
              clear hu c3 ev
              go_wp2
              · go_ret2
                exact ⟨_, _, rfl, rfl, hs0, hs1, fun h => by cases h⟩
              · go_round
                case rel => exact ⟨j + 1, _, by omega, by go_num, rfl, by omega, by omega, by show _ = _; rw [HS'.out, HT'.out]; omega⟩
                case measure => simp [intOf]; omega
            · go_wp2
              go_round
              case rel =>
                refine ⟨k + 1, _, by rw [← HN.out]; omega, by go_num, rfl, hs0, hs1, ?_⟩
                show _ = _
                have e : r.vals.take j = r.vals := List.take_of_length_le (by omega)
                rw [HS.out, HT'.out, HT.out, e, wReq]
                omega
              case measure => simp [intOf]; omega
      · go_wp2
        go_ret2
        refine ⟨_, _, rfl, rfl, ht0, ht1, fun _ => ?_⟩
        have := HT.out
        rw [List.take_of_length_le (by rw [← HN.out]; omega)] at this
        rw [this, wReqs, ← HN.out]; omega

set_option maxHeartbeats 400000 in
theorem reqsFit_none (a : Option Addr) (m : Nat) (T : Int) (hT0 : 0 ≤ T) (hT1 : T ≤ 1048576) (w : World) :
    Calls Try.prog 18 #[.slice a 0 m, .int .i64 T] w fun e w' => FitPost T (wReqs []) w e w' := by
  go_enter Try.func18, Try.ntmps18
  go_wp2
  refine wp_loop_rounds 1 ?_
  rw [rounds_succ]
  go_wp2
  go_ret2
  exact ⟨_, _, rfl, rfl, hT0, hT1, fun _ => by simp [wReqs, sumR]⟩

theorem reqsFit_any (v : Value) (rs : List Req) (lo hi : Nat) (T : Int) (hT0 : 0 ≤ T) (hT1 : T ≤ 1048576) (w : World) (h : Reqs w lo hi v rs) :
    Calls Try.prog 18 #[v, .int .i64 T] w fun e w' => FitPost T (wReqs rs) w e w' := by
  obtain ⟨a, m, rfl, hn, z, f⟩ := h
  by_cases h0 : rs.length = 0
  · have e : rs = [] := List.length_eq_zero_iff.1 h0
    subst e
    exact reqsFit_none a m T hT0 hT1 w
  · obtain ⟨b, o, rfl, _⟩ := f 0 (by omega)
    exact reqsFit_loop b o m rs.length rs lo hi T hn rfl hT0 hT1 w
      (fun j hj => by obtain ⟨b', o', e, _, _, h⟩ := f j hj; simp only [Option.some.injEq, Addr.mk.injEq] at e; rw [e.1, e.2.1]; exact h)

/-! ### zzTermsFit -/
/-- The loop's relation. -/
def RelH (B : Int) (ts : List Term) (tot i : Value) : Prop := ∃ (k : Nat) (t : Int), k ≤ ts.length ∧ i = .int .i64 k ∧ tot = .int .i64 t ∧ 0 ≤ t ∧ t ≤ 1048576 ∧ Hid (t = B + sumT (ts.take k))

set_option maxRecDepth 4000 in
set_option maxHeartbeats 2000000 in
theorem termsFit_loop (x1 y1 m1 n : Nat) (ts : List Term) (lo hi : Nat) (T : Int) (hn : n ≤ 9223372036854775807) (HN : Hid (n = ts.length)) (hT0 : 0 ≤ T) (hT1 : T ≤ 1048576) (w : World)
    (f1 : ∀ j (h : j < ts.length), TermAt w lo hi x1 (y1 + j * 2) ts[j]) :
    Calls Try.prog 12 #[.slice (some ⟨x1, y1, none⟩) n m1, .int .i64 T] w fun e w' => FitPost T (wTerms ts) w e w' := by
  go_enter Try.func12, Try.ntmps12
  go_wp2
  · go_ret2
    exact ⟨_, _, rfl, rfl, hT0, hT1, fun h => by cases h⟩
  · go_loop [1, 6] (fun tot i => RelH (T + n * 48) ts tot i) (fun _ i => n - (intOf i).toNat)
    case atStart => exact ⟨0, _, Nat.zero_le _, rfl, rfl, by omega, by omega, by show _ = _; simp [sumT]⟩
    case round =>
      obtain ⟨k, t, hk, rfl, rfl, ht0, ht1, HT⟩ := hrel
      rw [← HN.out] at hk
      by_cases hlt : k < n
      · have hk1 : k < ts.length := by rw [← HN.out]; exact hlt
        have HS : Hid (sumT (ts.take (k + 1)) = sumT (ts.take k) + (wReqs ts[k].1 + wReqs ts[k].2)) := sumT_snoc ts k hk1
        obtain ⟨v0, v1, c1, c2, g1, g2⟩ := f1 k hk1
        obtain ⟨r, hr⟩ : ∃ r, r = ts[k] := ⟨_, rfl⟩
        rw [← hr] at HS g1 g2
        obtain ⟨a0, m0, e0, _⟩ := g1.len
        obtain ⟨a1, m1', e1, _⟩ := g2.len
        have G1 : Hid (Reqs w lo hi v0 r.1) := g1
        have G2 : Hid (Reqs w lo hi v1 r.2) := g2
        clear hr f1 g1 g2
        rw [e0] at c1
        rw [e1] at c2
        go_wp2_with fail
        refine (reqsFit_any _ r.1 lo hi t ht0 ht1 _ (by rw [← e0]; exact G1.out)).mono ?_
        rintro e w' ⟨T1, ok1, rfl, rfl, p0, p1, p2⟩
        have P2 : Hid (ok1 = true → T1 = t + wReqs r.1) := p2
        clear p2
        cases ok1
        · go_wp2_with fail
          go_ret2
          exact ⟨_, _, rfl, rfl, p0, p1, fun h => by cases h⟩
        · go_wp2_with fail
          refine (reqsFit_any _ r.2 lo hi T1 p0 p1 _ (by rw [← e1]; exact G2.out)).mono ?_
          rintro e w' ⟨T2, ok2, rfl, rfl, q0, q1, q2⟩
          have Q2 : Hid (ok2 = true → T2 = T1 + wReqs r.2) := q2
          clear q2
          cases ok2
          · go_wp2_with fail
            go_ret2
            exact ⟨_, _, rfl, rfl, q0, q1, fun h => by cases h⟩
          · go_wp2_with fail
            go_round
            case rel =>
              refine ⟨k + 1, _, by rw [← HN.out]; omega, by go_num, rfl, q0, q1, ?_⟩
              show _ = _
              rw [HS.out, Q2.out (by trivial), P2.out (by trivial), HT.out]
              omega
            case measure => simp [intOf]; omega
      · go_wp2
        go_ret2
        refine ⟨_, _, rfl, rfl, ht0, ht1, fun _ => ?_⟩
        have := HT.out
        rw [List.take_of_length_le (by rw [← HN.out]; omega)] at this
        rw [this, wTerms, ← HN.out]; omega

set_option maxHeartbeats 400000 in
theorem termsFit_none (a : Option Addr) (m : Nat) (T : Int) (hT0 : 0 ≤ T) (hT1 : T ≤ 1048576) (w : World) :
    Calls Try.prog 12 #[.slice a 0 m, .int .i64 T] w fun e w' => FitPost T (wTerms []) w e w' := by
  go_enter Try.func12, Try.ntmps12
  go_wp2
  refine wp_loop_rounds 1 ?_
  rw [rounds_succ]
  go_wp2
  go_ret2
  exact ⟨_, _, rfl, rfl, hT0, hT1, fun _ => by simp [wTerms, sumT]⟩

theorem termsFit_any (v : Value) (ts : List Term) (lo hi : Nat) (T : Int) (hT0 : 0 ≤ T) (hT1 : T ≤ 1048576) (w : World) (h : Terms w lo hi v ts) :
    Calls Try.prog 12 #[v, .int .i64 T] w fun e w' => FitPost T (wTerms ts) w e w' := by
  obtain ⟨a, m, rfl, hn, z, f⟩ := h
  by_cases h0 : ts.length = 0
  · have e : ts = [] := List.length_eq_zero_iff.1 h0
    subst e
    exact termsFit_none a m T hT0 hT1 w
  · obtain ⟨b, o, rfl, _⟩ := f 0 (by omega)
    exact termsFit_loop b o m ts.length ts lo hi T hn rfl hT0 hT1 w
      (fun j hj => by obtain ⟨b', o', e, _, _, h⟩ := f j hj; simp only [Option.some.injEq, Addr.mk.injEq] at e; rw [e.1, e.2.1]; exact h)
end Go.Proofs.Qxb6627374a
