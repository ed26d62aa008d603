/-
  'zzPutReqs': a buffer of bytes grows by the code of a slice of requirements.
-/
import Derived.Test.Qxb6627374aPut
namespace Go.Proofs.Qxb6627374a
open Go.RowKit

theorem encS_len (s : ByteArray) : (encS s).length = 8 + s.size := by unfold encS; rw [List.length_append, le8_length, bytesOf_length]
theorem encR_len (r : Req) : (encR r).length = 24 + r.key.size + r.op.size + (r.vals.flatMap encS).length := by
  unfold encR
  simp only [List.length_append, encS_len, le8_length]
  omega
theorem flat_snoc {α : Type} (f : α → List Int) (l : List α) (k : Nat) (h : k < l.length) : (l.take (k + 1)).flatMap f = (l.take k).flatMap f ++ f l[k] := by
  rw [List.take_succ_eq_append_getElem h, List.flatMap_append]
  simp
theorem flat_take_len {α : Type} (f : α → List Int) (l : List α) (k : Nat) : ((l.take k).flatMap f).length ≤ (l.flatMap f).length := by
  conv => rhs; rw [← List.take_append_drop k l, List.flatMap_append, List.length_append]
  omega
theorem flat_room {α : Type} (f : α → List Int) (l : List α) (k : Nat) (h : k < l.length) : ((l.take k).flatMap f).length + (f l[k]).length ≤ (l.flatMap f).length := by
  have := flat_take_len f l (k + 1)
  rw [flat_snoc f l k h, List.length_append] at this
  exact this

/-- The outer loop's relation. -/
def RelP (B : Nat) (w : World) (cs : List Int) (rs : List Req) (b i : Value) (wr : World) : Prop := ∃ k : Nat, k ≤ rs.length ∧ i = .int .i64 k ∧ Hid (Buf B wr b (cs ++ (rs.take k).flatMap encR)) ∧ Below B w wr
/-- The inner loop's. -/
def RelPs (B : Nat) (w : World) (cs : List Int) (ss : List ByteArray) (b i : Value) (wr : World) : Prop := ∃ k : Nat, k ≤ ss.length ∧ i = .int .i64 k ∧ Hid (Buf B wr b (cs ++ (ss.take k).flatMap encS)) ∧ Below B w wr

set_option maxHeartbeats 2000000 in
theorem putReqs_loop (v : Value) (B : Nat) (bs : List Int) (x1 y1 m1 n : Nat) (rs : List Req) (lo hi : Nat) (hn : n ≤ 1099511627776) (HN : Hid (n = rs.length)) (HL : Hid ((bs ++ encRs rs).length ≤ 549755813888))
    (w : World) (hx : x1 < B) (hhi : hi ≤ B) (hB : B ≤ w.heap.size) (hown : Hid (Buf B w v bs)) (f1 : ∀ j (h : j < rs.length), ReqAt w lo hi x1 (y1 + j * 3) rs[j]) :
    Calls Try.prog 16 #[v, .slice (some ⟨x1, y1, none⟩) n m1] w fun e w' => ∃ v', e = .returned v' ∧ Buf B w' v' (bs ++ encRs rs) ∧ Below B w w' := by
  have hbs : bs.length + 8 + (rs.flatMap encR).length ≤ 549755813888 := by have := HL.out; unfold encRs at this; simp only [List.length_append, le8_length] at this; omega
  go_enter Try.func16, Try.ntmps16
  go_wp2_with fail
  refine (putInt_any v B bs n (by omega) (by omega) w hB hown.out).mono ?_
  rintro e0 w0 ⟨v0, rfl, ho0, hb0⟩
  have HO0 : Hid (Buf B w0 v0 (bs ++ le8 n)) := ho0
  have hl0 : (bs ++ le8 n).length = bs.length + 8 := by rw [List.length_append, le8_length]
  have HF : Hid (bs ++ encRs rs = (bs ++ le8 n) ++ rs.flatMap encR) := by show _ = _; unfold encRs; rw [← HN.out, List.append_assoc]
  clear ho0 hown HL
  generalize bs ++ le8 n = cs at HO0 hl0 HF
  go_wp2_with fail
  go_loopw [0, 5, 6] (fun b i _ wr => RelP B w cs rs b i wr) (fun _ i _ _ => n - (intOf i).toNat)
  case atStart => exact ⟨0, Nat.zero_le _, rfl, by show Buf _ _ _ _; simpa using HO0.out, hb0⟩
  case round =>
    obtain ⟨k, hk, rfl, HO, hb⟩ := hrel
    obtain ⟨wo, rfl⟩ : ∃ wo : World, wo = wr := ⟨wr, rfl⟩
    rw [← HN.out] at hk
    have hsz := hb.size
    by_cases hlt : k < n
    · have hk1 : k < rs.length := by rw [← HN.out]; exact hlt
      have hroom := flat_room encR rs k hk1
      have HS : Hid (cs ++ (rs.take (k + 1)).flatMap encR = (cs ++ (rs.take k).flatMap encR) ++ encR rs[k]) := by show _ = _; rw [flat_snoc encR rs k hk1, List.append_assoc]
      have hl1 : (cs ++ (rs.take k).flatMap encR).length = cs.length + ((rs.take k).flatMap encR).length := List.length_append
      obtain ⟨c1, c2, sv, c3, g⟩ := f1 k hk1
      obtain ⟨r, hr⟩ : ∃ r, r = rs[k] := ⟨_, rfl⟩
      rw [← hr] at c1 c2 g HS hroom
      rw [encR_len] at hroom
      generalize cs ++ (rs.take k).flatMap encR = ds at HO HS hl1
      have hds : ds.length + 24 + r.key.size + r.op.size + (r.vals.flatMap encS).length ≤ 549755813888 := by omega
      rw [← hb.cell (p := ⟨x1, _, none⟩) hx] at c1 c2 c3
      clear hr f1 hroom hl1 hbs
      obtain ⟨ao, mv, rfl, hml, hz, gc⟩ := g
      have hm : r.vals.length ≤ 1099511627776 := by
        have h8 : ∀ l : List ByteArray, l.length ≤ (l.flatMap encS).length := by
          intro l
          induction l with
          | nil => exact Nat.le_refl _
          | cons s l ih => rw [List.flatMap_cons, List.length_append, encS_len, List.length_cons]; omega
        have := h8 r.vals
        omega
      obtain ⟨m, HM⟩ : ∃ m, Hid (m = r.vals.length) := ⟨_, rfl⟩
      rw [← HM.out] at c3 hm
      have GC : Hid (∀ j (h : j < r.vals.length), ∃ b off, ao = some ⟨b, off, none⟩ ∧ lo ≤ b ∧ b < hi ∧ w.cell? ⟨b, off + j, none⟩ = some (.string r.vals[j])) := gc
      clear gc hz hml
      go_wp2_with fail
      refine (putStr_any _ B ds r.key (by omega) (by omega) wo (by omega) HO.out).mono ?_
      rintro e1 w1 ⟨v1, rfl, ho1, hb1⟩
      have hz1 := hb1.size
      have l1 : (ds ++ encS r.key).length = ds.length + 8 + r.key.size := by rw [List.length_append, encS_len]; omega
      rw [← hb1.cell (p := ⟨x1, _, none⟩) hx] at c2 c3
      have B1 := hb.trans hb1
      clear c1 hb hb1
      go_wp2_with fail
      refine (putStr_any _ B _ r.op (by omega) (by omega) w1 (by omega) ho1).mono ?_
      rintro e2 w2 ⟨v2, rfl, ho2, hb2⟩
      have hz2 := hb2.size
      have l2 : (ds ++ encS r.key ++ encS r.op).length = ds.length + 16 + r.key.size + r.op.size := by rw [List.length_append, l1, encS_len]; omega
      rw [← hb2.cell (p := ⟨x1, _, none⟩) hx] at c3
      have B2 := B1.trans hb2
      clear c2 hb2 B1 ho1
      go_wp2_with fail
      refine (putInt_any _ B _ m (by omega) (by omega) w2 (by omega) ho2).mono ?_
      rintro e3 w3 ⟨v3, rfl, ho3, hb3⟩
      have hz3 := hb3.size
      have l3 : (ds ++ encS r.key ++ encS r.op ++ le8 m).length = ds.length + 24 + r.key.size + r.op.size := by rw [List.length_append, l2, le8_length]; omega
      rw [← hb3.cell (p := ⟨x1, _, none⟩) hx] at c3
      have B3 := B2.trans hb3
      have HE : Hid (ds ++ encR r = (ds ++ encS r.key ++ encS r.op ++ le8 m) ++ r.vals.flatMap encS) := by show _ = _; unfold encR; rw [HM.out]; simp only [List.append_assoc]
      have HO3 : Hid (Buf B w3 v3 (ds ++ encS r.key ++ encS r.op ++ le8 m)) := ho3
      clear ho3 ho2 hb3 B2 HO
      generalize ds ++ encS r.key ++ encS r.op ++ le8 m = es at HO3 HE l3
      go_wp2_with fail
      go_loopw [0, 6] (fun b i wr => RelPs B w es r.vals b i wr) (fun _ i _ => m - (intOf i).toNat)
      case atStart => exact ⟨0, Nat.zero_le _, rfl, by show Buf _ _ _ _; simpa using HO3.out, B3⟩
      case round =>
        obtain ⟨l, hl, rfl, HP, hb⟩ := hrel
        rw [← HM.out] at hl
        have hsz' := hb.size
        have d3 : wr.cell? ⟨x1, y1 + k * 3 + 2, none⟩ = some (.slice ao m mv) := (hb.cell (p := ⟨x1, _, none⟩) hx).trans ((B3.cell (p := ⟨x1, _, none⟩) hx).symm.trans c3)
        by_cases hll : l < m
        · have hl1 : l < r.vals.length := by rw [← HM.out]; exact hll
          have hroom := flat_room encS r.vals l hl1
          have HS2 : Hid (es ++ (r.vals.take (l + 1)).flatMap encS = (es ++ (r.vals.take l).flatMap encS) ++ encS r.vals[l]) := by show _ = _; rw [flat_snoc encS r.vals l hl1, List.append_assoc]
          have hl2 : (es ++ (r.vals.take l).flatMap encS).length = es.length + ((r.vals.take l).flatMap encS).length := List.length_append
          obtain ⟨bx, ox, ea, _, hbx, gx⟩ := GC.out l hl1
          obtain ⟨u, hu⟩ : ∃ u, u = r.vals[l] := ⟨_, rfl⟩
          rw [← hu] at gx HS2 hroom
          rw [encS_len] at hroom
          rw [← hb.cell (p := ⟨bx, _, none⟩) (show bx < B by omega)] at gx
          rw [ea] at d3
          generalize es ++ (r.vals.take l).flatMap encS = fs at HP HS2 hl2
          have hfs : fs.length + 8 + u.size ≤ 549755813888 := by omega
          clear hu hl1 ea c3 hroom hl2
          go_wp2_with fail
          refine (putStr_any _ B fs u (by omega) (by omega) wr (by omega) HP.out).mono ?_
          rintro e4 w4 ⟨v4, rfl, ho4, hb4⟩
          go_wp2_with fail
          go_roundw
          case rel => exact ⟨l + 1, by rw [← HM.out]; omega, by go_num, by show Buf _ _ _ _; rw [HS2.out]; exact ho4, hb.trans hb4⟩
          case measure => simp [intOf]; omega
        · have HG : Hid (Buf B wr u0 (es ++ r.vals.flatMap encS)) := by
            have := HP.out
            rw [List.take_of_length_le (by rw [← HM.out]; omega)] at this
            exact this
          clear c3
          go_wp2_with fail
          go_roundw
          case rel => exact ⟨k + 1, by rw [← HN.out]; omega, by go_num, by show Buf _ _ _ _; rw [HS.out, HE.out]; exact HG.out, hb⟩
          case measure => simp [intOf]; omega
    · have HG : Hid (Buf B wo u0 (cs ++ rs.flatMap encR)) := by
        have := HO.out
        rw [List.take_of_length_le (by rw [← HN.out]; omega)] at this
        exact this
      go_wp2
      go_ret
      exact ⟨_, rfl, by rw [HF.out]; exact HG.out, hb⟩

set_option maxHeartbeats 400000 in
theorem putReqs_none (v : Value) (B : Nat) (bs : List Int) (a : Option Addr) (m : Nat) (w : World) (hl : bs.length ≤ 549755813888) (hB : B ≤ w.heap.size) (hown : Hid (Buf B w v bs)) :
    Calls Try.prog 16 #[v, .slice a 0 m] w fun e w' => ∃ v', e = .returned v' ∧ Buf B w' v' (bs ++ encRs []) ∧ Below B w w' := by
  go_enter Try.func16, Try.ntmps16
  go_wp2_with fail
  refine (putInt_any v B bs 0 (by omega) (by omega) w hB hown.out).mono ?_
  rintro e0 w0 ⟨v0, rfl, ho0, hb0⟩
  have HO0 : Hid (Buf B w0 v0 (bs ++ le8 0)) := ho0
  clear ho0
  go_wp2_with fail
  refine wp_loop_rounds 1 ?_
  rw [rounds_succ]
  go_wp2
  go_ret
  exact ⟨_, rfl, by unfold encRs; rw [List.flatMap_nil, List.append_nil]; exact HO0.out, hb0⟩

theorem flat_count {α : Type} (f : α → List Int) (h : ∀ a, 1 ≤ (f a).length) : ∀ l : List α, l.length ≤ (l.flatMap f).length
  | [] => Nat.le_refl _
  | a :: l => by
    have := flat_count f h l
    have := h a
    rw [List.flatMap_cons, List.length_append, List.length_cons]; omega

theorem putReqs_any (v : Value) (B : Nat) (bs : List Int) (v2 : Value) (rs : List Req) (lo hi : Nat) (hl : (bs ++ encRs rs).length ≤ 549755813888)
    (w : World) (hhi : hi ≤ B) (hB : B ≤ w.heap.size) (hown : Buf B w v bs) (h : Reqs w lo hi v2 rs) :
    Calls Try.prog 16 #[v, v2] w fun e w' => ∃ v', e = .returned v' ∧ Buf B w' v' (bs ++ encRs rs) ∧ Below B w w' := by
  obtain ⟨a, m, rfl, hn, z, f⟩ := h
  by_cases h0 : rs.length = 0
  · have e : rs = [] := List.length_eq_zero_iff.1 h0
    subst e
    exact putReqs_none v B bs a m w (by rw [List.length_append] at hl; omega) hB hown
  · obtain ⟨b, o, rfl, _, hb, _⟩ := f 0 (by omega)
    have hc := flat_count encR (fun r => by rw [encR_len]; omega) rs
    exact putReqs_loop v B bs b o m rs.length rs lo hi (by unfold encRs at hl; simp only [List.length_append] at hl; omega) rfl hl w (by omega) hhi hB hown
      (fun j hj => by obtain ⟨b', o', e, _, _, h⟩ := f j hj; simp only [Option.some.injEq, Addr.mk.injEq] at e; rw [e.1, e.2.1]; exact h)
end Go.Proofs.Qxb6627374a
