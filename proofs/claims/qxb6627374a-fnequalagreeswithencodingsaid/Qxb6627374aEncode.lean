/-
  'zzEncode': the code of a slice of terms, in a new buffer. 'zzBytesEqual': are two buffers alike. 'zzPairFits'.
-/
import Derived.Test.Qxb6627374aPut2
namespace Go.Proofs.Qxb6627374a
open Go.RowKit

theorem encRs_len (rs : List Req) : (encRs rs).length = 8 + (rs.flatMap encR).length := by unfold encRs; rw [List.length_append, le8_length]
theorem encT_len (t : Term) : (encT t).length = (encRs t.1).length + (encRs t.2).length := by unfold encT; rw [List.length_append]

def RelE (B : Nat) (w : World) (cs : List Int) (ts : List Term) (b i : Value) (wr : World) : Prop := ∃ k : Nat, k ≤ ts.length ∧ i = .int .i64 k ∧ Hid (Buf B wr b (cs ++ (ts.take k).flatMap encT)) ∧ Below B w wr

theorem Buf.empty (B : Nat) (w : World) : Buf B w (.slice none 0 0) [] := ⟨rfl, .inl ⟨rfl, rfl⟩⟩

set_option maxHeartbeats 2000000 in
theorem encode_loop (B : Nat) (x1 y1 m1 n : Nat) (ts : List Term) (lo hi : Nat) (hn : n ≤ 1099511627776) (HN : Hid (n = ts.length)) (HL : Hid ((encTs ts).length ≤ 549755813888))
    (w : World) (hx : x1 < B) (hhi : hi ≤ B) (hB : B ≤ w.heap.size) (f1 : ∀ j (h : j < ts.length), TermAt w lo hi x1 (y1 + j * 2) ts[j]) :
    Calls Try.prog 9 #[.slice (some ⟨x1, y1, none⟩) n m1] w fun e w' => ∃ v', e = .returned v' ∧ Buf B w' v' (encTs ts) ∧ Below B w w' := by
  have hbs : 8 + (ts.flatMap encT).length ≤ 549755813888 := by have := HL.out; unfold encTs at this; simp only [List.length_append, le8_length] at this; omega
  go_enter Try.func9, Try.ntmps9
  go_wp2_with fail
  refine (putInt_any _ B [] n (by omega) (by simp) w hB (Buf.empty B w)).mono ?_
  rintro e0 w0 ⟨v0, rfl, ho0, hb0⟩
  rw [List.nil_append] at ho0
  have HO0 : Hid (Buf B w0 v0 (le8 n)) := ho0
  have hl0 : (le8 n).length = 8 := le8_length n
  have HF : Hid (encTs ts = le8 n ++ ts.flatMap encT) := by show _ = _; unfold encTs; rw [← HN.out]
  clear ho0 HL
  generalize le8 n = cs at HO0 hl0 HF
  go_wp2_with fail
  go_loopw [3, 4] (fun b i wr => RelE B w cs ts b i wr) (fun _ i _ => n - (intOf i).toNat)
  case atStart => exact ⟨0, Nat.zero_le _, rfl, by show Buf _ _ _ _; simpa using HO0.out, hb0⟩
  case round =>
    obtain ⟨k, hk, rfl, HO, hb⟩ := hrel
    rw [← HN.out] at hk
    have hsz := hb.size
    by_cases hlt : k < n
    · have hk1 : k < ts.length := by rw [← HN.out]; exact hlt
      have hroom := flat_room encT ts k hk1
      have HS : Hid (cs ++ (ts.take (k + 1)).flatMap encT = (cs ++ (ts.take k).flatMap encT) ++ encT ts[k]) := by show _ = _; rw [flat_snoc encT ts k hk1, List.append_assoc]
      have hl1 : (cs ++ (ts.take k).flatMap encT).length = cs.length + ((ts.take k).flatMap encT).length := List.length_append
      obtain ⟨s0, s1, c1, c2, g1, g2⟩ := f1 k hk1
      obtain ⟨t, ht⟩ : ∃ t, t = ts[k] := ⟨_, rfl⟩
      rw [← ht] at g1 g2 HS hroom
      rw [encT_len] at hroom
      generalize cs ++ (ts.take k).flatMap encT = ds at HO HS hl1
      have hds : ds.length + (encRs t.1).length + (encRs t.2).length ≤ 549755813888 := by omega
      rw [← hb.cell (p := ⟨x1, _, none⟩) hx] at c1 c2
      have g1' : Reqs wr lo hi s0 t.1 := g1.carry (fun b o _ h2 => hb.cell (p := ⟨b, o, none⟩) (by show b < B; omega)) (Nat.le_refl _) (Nat.le_refl _)
      obtain ⟨a0, m0, e0, _⟩ := g1.len
      obtain ⟨a1, m1', e1, _⟩ := g2.len
      have G1 : Hid (Reqs wr lo hi s0 t.1) := g1'
      have G2 : Hid (Reqs w lo hi s1 t.2) := g2
      clear ht f1 hroom hl1 hbs g1 g2 g1'
      rw [e0] at c1
      rw [e1] at c2
      go_wp2_with fail
      refine (putReqs_any _ B ds _ t.1 lo hi (by rw [List.length_append]; omega) wr hhi (by omega) HO.out (by rw [← e0]; exact G1.out)).mono ?_
      rintro ee w1 ⟨v1, rfl, ho1, hb1⟩
      have hz1 := hb1.size
      have B1 := hb.trans hb1
      rw [← hb1.cell (p := ⟨x1, _, none⟩) hx] at c2
      have g2' : Reqs w1 lo hi s1 t.2 := G2.out.carry (fun b o _ h2 => B1.cell (p := ⟨b, o, none⟩) (by show b < B; omega)) (Nat.le_refl _) (Nat.le_refl _)
      have G2' : Hid (Reqs w1 lo hi s1 t.2) := g2'
      have HO1 : Hid (Buf B w1 v1 (ds ++ encRs t.1)) := ho1
      clear c1 g2' ho1
      go_wp2_with fail
      refine (putReqs_any _ B (ds ++ encRs t.1) _ t.2 lo hi (by rw [List.length_append, List.length_append]; omega) w1 hhi (by omega) HO1.out (by rw [← e1]; exact G2'.out)).mono ?_
      rintro ee w2 ⟨v2, rfl, ho2, hb2⟩
      have HO2 : Hid (Buf B w2 v2 (ds ++ encT t)) := by show Buf _ _ _ _; unfold encT; rw [← List.append_assoc]; exact ho2
      clear ho2
      go_wp2_with fail
      go_roundw
      case rel => exact ⟨k + 1, by rw [← HN.out]; omega, by go_num, by show Buf _ _ _ _; rw [HS.out]; exact HO2.out, B1.trans hb2⟩
      case measure => simp [intOf]; omega
    · have HG : Hid (Buf B wr u3 (cs ++ ts.flatMap encT)) := by
        have := HO.out
        rw [List.take_of_length_le (by rw [← HN.out]; omega)] at this
        exact this
      go_wp2
      go_ret
      exact ⟨_, rfl, by rw [HF.out]; exact HG.out, hb⟩

set_option maxHeartbeats 400000 in
theorem encode_none (B : Nat) (a : Option Addr) (m : Nat) (w : World) (hB : B ≤ w.heap.size) :
    Calls Try.prog 9 #[.slice a 0 m] w fun e w' => ∃ v', e = .returned v' ∧ Buf B w' v' (encTs []) ∧ Below B w w' := by
  go_enter Try.func9, Try.ntmps9
  go_wp2_with fail
  refine (putInt_any _ B [] 0 (by omega) (by simp) w hB (Buf.empty B w)).mono ?_
  rintro e0 w0 ⟨v0, rfl, ho0, hb0⟩
  have HO0 : Hid (Buf B w0 v0 (le8 0)) := ho0
  clear ho0
  go_wp2_with fail
  refine wp_loop_rounds 1 ?_
  rw [rounds_succ]
  go_wp2
  go_ret
  exact ⟨_, rfl, by unfold encTs; rw [List.flatMap_nil, List.append_nil]; exact HO0.out, hb0⟩

theorem encode_any (B : Nat) (v : Value) (ts : List Term) (lo hi : Nat) (hl : (encTs ts).length ≤ 549755813888)
    (w : World) (hhi : hi ≤ B) (hB : B ≤ w.heap.size) (h : Terms w lo hi v ts) :
    Calls Try.prog 9 #[v] w fun e w' => ∃ v', e = .returned v' ∧ Buf B w' v' (encTs ts) ∧ Below B w w' := by
  obtain ⟨a, m, rfl, hn, z, f⟩ := h
  by_cases h0 : ts.length = 0
  · have e : ts = [] := List.length_eq_zero_iff.1 h0
    subst e
    exact encode_none B a m w hB
  · obtain ⟨b, o, rfl, _, hb, _⟩ := f 0 (by omega)
    have hc := flat_count encT (fun t => by rw [encT_len, encRs_len]; omega) ts
    exact encode_loop B b o m ts.length ts lo hi (by unfold encTs at hl; simp only [List.length_append] at hl; omega) rfl hl w (by omega) hhi hB
      (fun j hj => by obtain ⟨b', o', e, _, _, h⟩ := f j hj; simp only [Option.some.injEq, Addr.mk.injEq] at e; rw [e.1, e.2.1]; exact h)
end Go.Proofs.Qxb6627374a
