/-
  THE LAW 'FnEqualAgreesWithEncoding', walked.
-/
import Derived.Test.Qxb6627374aBytesEq
import Derived.Test.Qxb6627374aBytes5
import Derived.Test.Qxb6627374aAff
namespace Go.Proofs.Qxb6627374a
open Go.RowKit

theorem flatS_len : ∀ l : List ByteArray, (l.flatMap encS).length ≤ 16 * l.length + sumB l
  | [] => Nat.le_refl _
  | s :: l => by
    have := flatS_len l
    rw [List.flatMap_cons, List.length_append, encS_len, List.length_cons, sumB]; omega
theorem flatR_len : ∀ l : List Req, (l.flatMap encR).length ≤ 56 * l.length + sumR l
  | [] => Nat.le_refl _
  | r :: l => by
    have := flatR_len l
    have := flatS_len r.vals
    rw [List.flatMap_cons, List.length_append, encR_len, List.length_cons, sumR, wReq]; omega
theorem flatT_len : ∀ l : List Term, (l.flatMap encT).length ≤ 48 * l.length + sumT l
  | [] => Nat.le_refl _
  | t :: l => by
    have := flatT_len l
    have := flatR_len t.1
    have := flatR_len t.2
    rw [List.flatMap_cons, List.length_append, encT_len, encRs_len, encRs_len, List.length_cons, sumT, wReqs, wReqs]; omega
theorem encTs_len (ts : List Term) : 8 ≤ (encTs ts).length ∧ (encTs ts).length ≤ 8 + wTerms ts := by
  have := flatT_len ts
  unfold encTs wTerms
  rw [List.length_append, le8_length]; omega

theorem sumB_of {s : ByteArray} : ∀ {l : List ByteArray}, s ∈ l → s.size ≤ sumB l
  | [], h => by cases h
  | a :: l, h => by
    rcases List.mem_cons.1 h with rfl | h
    · rw [sumB]; omega
    · have := sumB_of h; rw [sumB]; omega
theorem sumR_of {r : Req} : ∀ {l : List Req}, r ∈ l → wReq r ≤ sumR l
  | [], h => by cases h
  | a :: l, h => by
    rcases List.mem_cons.1 h with rfl | h
    · rw [sumR]; omega
    · have := sumR_of h; rw [sumR]; omega
theorem sumT_of {t : Term} : ∀ {l : List Term}, t ∈ l → wReqs t.1 + wReqs t.2 ≤ sumT l
  | [], h => by cases h
  | a :: l, h => by
    rcases List.mem_cons.1 h with rfl | h
    · rw [sumT]; omega
    · have := sumT_of h; rw [sumT]; omega
theorem good_req {r : Req} (h : wReq r ≤ 1048576) : GoodR r := by
  unfold wReq at h
  refine ⟨by unfold big; omega, by unfold big; omega, by unfold big; omega, fun s hs => ?_⟩
  have := sumB_of hs
  unfold big; omega
theorem good_terms {ts : List Term} (h : wTerms ts ≤ 1048576) : GoodTs ts := by
  unfold wTerms at h
  refine ⟨by unfold big; omega, fun t ht => ?_⟩
  have h2 := sumT_of ht
  unfold wReqs at h2
  refine ⟨by unfold big; omega, fun r hr => good_req ?_, by unfold big; omega, fun r hr => good_req ?_⟩
  · have := sumR_of hr; omega
  · have := sumR_of hr; omega

/-- Equal agrees with the codes. -/
theorem agrees {ts us : List Term} (h : wTerms ts + wTerms us ≤ 1048576) : tsEq ts us = decide (encTs ts = encTs us) :=
  bool_of_iff (tsEq_iff ts us) (decide_eq_true_iff.trans (encTs_iff (good_terms (by omega)) (good_terms (by omega))))

theorem Buf.carry {B C : Nat} {w w' : World} {v : Value} {bs : List Int} (h : Buf B w v bs) (hb : Below C w w') (hC : w.heap.size ≤ C) : Buf B w' v bs := by
  refine ⟨h.1, ?_⟩
  rcases h.2 with h | ⟨g, cap, cur, e, hg, hh, r⟩
  · exact .inl h
  · have : g < w.heap.size := (Array.getElem?_eq_some_iff.1 hh).1
    exact .inr ⟨g, cap, cur, e, hg, by rw [hb.block g (by omega)]; exact hh, r⟩

/-- The call of zzBytes, of two slices of terms. -/
theorem bytes5_any (n1 n2 : Bool) (v1 v2 : Value) (ts us : List Term) (lo hi lo' hi' : Nat) (w : World) (h1 : Terms w lo hi v1 ts) (h2 : Terms w lo' hi' v2 us) :
    Calls Try.prog 5 #[.bool n1, v1, .bool n2, v2] w fun e w' => (∃ b, e = .returned (.bool b)) ∧ w' = w := by
  obtain ⟨a1, m1, rfl, hn1, _, f1⟩ := h1
  obtain ⟨a2, m2, rfl, hn2, _, f2⟩ := h2
  exact bytes5 n1 n2 a1 a2 m1 m2 ts us lo hi lo' hi' w hn1 hn2 f1 f2

/-- zzAffinity of a slice that is not to be nil, told with Below. -/
theorem aff_below (v : Value) (ts : List Term) (lo hi : Nat) (hw : wTerms ts ≤ 1048576) (w : World) (hhi : hi ≤ w.heap.size) (h : Terms w lo hi v ts) :
    Calls Try.prog 7 #[.bool false, v] w fun e w' => ∃ bA, e = .returned (.pointer (some ⟨bA, 0, none⟩)) ∧ Hid (Below w.heap.size w w' ∧ bA < w'.heap.size ∧ Aff w' 0 w'.heap.size bA ts) := by
  refine (aff_any v ts lo hi hw w hhi h).mono ?_
  rintro e w' ⟨bA, x, rfl, g, l, z, c, n⟩
  exact ⟨bA, rfl, g.1, by omega, x, c, n.terms.carry (fun _ _ _ _ => rfl) (Nat.zero_le _) (by omega)⟩

theorem Below.terms {C : Nat} {w w' : World} (hb : Below C w w') {v : Value} {ts : List Term} {lo hi : Nat} (h : Terms w lo hi v ts) (hC : hi ≤ C) : Terms w' lo hi v ts :=
  h.carry (Same.of_below hb hC) (Nat.le_refl _) (Nat.le_refl _)
theorem Below.aff {C : Nat} {w w' : World} (hb : Below C w w') {b : Nat} {ts : List Term} {lo hi : Nat} (h : Aff w lo hi b ts) (hC : hi ≤ C) (hbC : b < C) : Aff w' lo hi b ts :=
  h.carry (Same.of_below hb hC) (hb.cell (p := ⟨b, 0, none⟩) hbC) (Nat.le_refl _) (Nat.le_refl _)

set_option maxHeartbeats 2000000 in
theorem law3_tt (v1 v2 : Value) (ts us : List Term) (w : World) (h1 : Hid (Terms w 0 w.heap.size v1 ts)) (h2 : Hid (Terms w 0 w.heap.size v2 us)) :
    Calls Try.prog 3 #[.bool true, v1, .bool true, v2] w fun e w' => e = .returned (.bool true) ∧ Below w.heap.size w w' := by
  go_enter Try.func3, Try.ntmps3
  go_wp2_with fail
  refine (bytes5_any true true v1 v2 ts us _ _ _ _ w h1.out h2.out).mono ?_
  rintro e w0 ⟨⟨b0, rfl⟩, rfl⟩
  cases b0
  · go_wp2_with fail
    go_ret
    exact ⟨rfl, Below.refl _ _⟩
  · go_wp2_with fail
    refine (pairFits_any v1 v2 ts us _ _ _ _ w0 h1.out h2.out).mono ?_
    rintro e w1 ⟨b1, rfl, rfl, hfit⟩
    cases b1
    · go_wp2_with fail
      go_ret
      exact ⟨rfl, Below.refl _ _⟩
    · have HF : Hid (wTerms ts + wTerms us ≤ 1048576) := hfit rfl
      clear hfit
      go_wp2_with fail
      refine (aff_isNil v1 _).mono ?_
      rintro e w2 ⟨rfl, rfl⟩
      go_wp2_with fail
      refine (aff_isNil v2 _).mono ?_
      rintro e w3 ⟨rfl, rfl⟩
      go_wp2_with fail
      refine (eq_nil_nil _).mono ?_
      rintro e w4 ⟨rfl, k, rfl⟩
      go_wp2_with fail
      go_ret
      exact ⟨rfl, Al.below ⟨k, rfl⟩⟩

set_option maxHeartbeats 2000000 in
theorem law3_tf (v1 v2 : Value) (ts us : List Term) (w : World) (h1 : Hid (Terms w 0 w.heap.size v1 ts)) (h2 : Hid (Terms w 0 w.heap.size v2 us)) :
    Calls Try.prog 3 #[.bool true, v1, .bool false, v2] w fun e w' => e = .returned (.bool true) ∧ Below w.heap.size w w' := by
  go_enter Try.func3, Try.ntmps3
  go_wp2_with fail
  refine (bytes5_any true false v1 v2 ts us _ _ _ _ w h1.out h2.out).mono ?_
  rintro e w0 ⟨⟨b0, rfl⟩, rfl⟩
  cases b0
  · go_wp2_with fail
    go_ret
    exact ⟨rfl, Below.refl _ _⟩
  · go_wp2_with fail
    refine (pairFits_any v1 v2 ts us _ _ _ _ w0 h1.out h2.out).mono ?_
    rintro e w1 ⟨b1, rfl, rfl, hfit⟩
    cases b1
    · go_wp2_with fail
      go_ret
      exact ⟨rfl, Below.refl _ _⟩
    · have HF : Hid (wTerms ts + wTerms us ≤ 1048576) := hfit rfl
      clear hfit
      go_wp2_with fail
      refine (aff_isNil v1 _).mono ?_
      rintro e w2 ⟨rfl, rfl⟩
      go_wp2_with fail
      refine (aff_below v2 us _ _ (by have := HF.out; omega) w2 (Nat.le_refl _) h2.out).mono ?_
      rintro e w3 ⟨bA, rfl, H3⟩
      go_wp2_with fail
      refine (eq_nil_ptr bA _).mono ?_
      rintro e w4 ⟨rfl, k, rfl⟩
      go_wp2_with fail
      go_ret
      exact ⟨rfl, H3.out.1.trans (Al.below ⟨k, rfl⟩)⟩

set_option maxHeartbeats 2000000 in
theorem law3_ft (v1 v2 : Value) (ts us : List Term) (w : World) (h1 : Hid (Terms w 0 w.heap.size v1 ts)) (h2 : Hid (Terms w 0 w.heap.size v2 us)) :
    Calls Try.prog 3 #[.bool false, v1, .bool true, v2] w fun e w' => e = .returned (.bool true) ∧ Below w.heap.size w w' := by
  go_enter Try.func3, Try.ntmps3
  go_wp2_with fail
  refine (bytes5_any false true v1 v2 ts us _ _ _ _ w h1.out h2.out).mono ?_
  rintro e w0 ⟨⟨b0, rfl⟩, rfl⟩
  cases b0
  · go_wp2_with fail
    go_ret
    exact ⟨rfl, Below.refl _ _⟩
  · go_wp2_with fail
    refine (pairFits_any v1 v2 ts us _ _ _ _ w0 h1.out h2.out).mono ?_
    rintro e w1 ⟨b1, rfl, rfl, hfit⟩
    cases b1
    · go_wp2_with fail
      go_ret
      exact ⟨rfl, Below.refl _ _⟩
    · have HF : Hid (wTerms ts + wTerms us ≤ 1048576) := hfit rfl
      clear hfit
      go_wp2_with fail
      refine (aff_below v1 ts _ _ (by have := HF.out; omega) w1 (Nat.le_refl _) h1.out).mono ?_
      rintro e w3 ⟨bA, rfl, H3⟩
      go_wp2_with fail
      refine (aff_isNil v2 _).mono ?_
      rintro e w2 ⟨rfl, rfl⟩
      go_wp2_with fail
      refine (eq_ptr_nil bA _).mono ?_
      rintro e w4 ⟨rfl, k, rfl⟩
      go_wp2_with fail
      go_ret
      exact ⟨rfl, H3.out.1.trans (Al.below ⟨k, rfl⟩)⟩

set_option maxHeartbeats 2000000 in
theorem law3_ff (v1 v2 : Value) (ts us : List Term) (w : World) (h1 : Hid (Terms w 0 w.heap.size v1 ts)) (h2 : Hid (Terms w 0 w.heap.size v2 us)) :
    Calls Try.prog 3 #[.bool false, v1, .bool false, v2] w fun e w' => e = .returned (.bool true) ∧ Below w.heap.size w w' := by
  go_enter Try.func3, Try.ntmps3
  go_wp2_with fail
  refine (bytes5_any false false v1 v2 ts us _ _ _ _ w h1.out h2.out).mono ?_
  rintro e w0 ⟨⟨b0, rfl⟩, rfl⟩
  cases b0
  · go_wp2_with fail
    go_ret
    exact ⟨rfl, Below.refl _ _⟩
  · go_wp2_with fail
    refine (pairFits_any v1 v2 ts us _ _ _ _ w0 h1.out h2.out).mono ?_
    rintro e w1 ⟨b1, rfl, rfl, hfit⟩
    cases b1
    · go_wp2_with fail
      go_ret
      exact ⟨rfl, Below.refl _ _⟩
    · have HF : Hid (wTerms ts + wTerms us ≤ 1048576) := hfit rfl
      clear hfit
      go_wp2_with fail
      refine (aff_below v1 ts _ _ (by have := HF.out; omega) w1 (Nat.le_refl _) h1.out).mono ?_
      rintro e w2 ⟨bA, rfl, H2⟩
      have k1 : Hid (Terms w2 0 w1.heap.size v1 ts) := Below.terms H2.out.1 h1.out (Nat.le_refl _)
      have k2 : Hid (Terms w2 0 w1.heap.size v2 us) := Below.terms H2.out.1 h2.out (Nat.le_refl _)
      go_wp2_with fail
      refine (aff_below v2 us _ _ (by have := HF.out; omega) w2 H2.out.1.size k2.out).mono ?_
      rintro e w3 ⟨bB, rfl, H3⟩
      have j1 : Hid (Terms w3 0 w1.heap.size v1 ts) := Below.terms H3.out.1 k1.out H2.out.1.size
      have j2 : Hid (Terms w3 0 w1.heap.size v2 us) := Below.terms H3.out.1 k2.out H2.out.1.size
      have hz3 : Hid (w1.heap.size ≤ w3.heap.size) := Nat.le_trans H2.out.1.size H3.out.1.size
      go_wp2_with fail
      refine (encode_any w3.heap.size v1 ts _ _ (by have := HF.out; have := encTs_len ts; omega) w3 hz3.out (Nat.le_refl _) j1.out).mono ?_
      rintro e w4 ⟨c1, rfl, B4, H4⟩
      have HB4 : Hid (Buf w3.heap.size w4 c1 (encTs ts)) := B4
      have HH4 : Hid (Below w3.heap.size w3 w4) := H4
      clear B4 H4
      go_wp2_with fail
      refine (encode_any w4.heap.size v2 us _ _ (by have := HF.out; have := encTs_len us; omega) w4 (Nat.le_trans hz3.out HH4.out.size) (Nat.le_refl _) (Below.terms HH4.out j2.out hz3.out)).mono ?_
      rintro e w5 ⟨c2, rfl, B5, H5⟩
      have HB5 : Hid (Buf w4.heap.size w5 c2 (encTs us)) := B5
      have HH5 : Hid (Below w4.heap.size w4 w5) := H5
      clear B5 H5
      go_wp2_with fail
      refine (bytesEq_any c1 c2 _ _ (encTs ts) (encTs us) w5 (by have := encTs_len ts; omega) (by have := encTs_len us; omega) (by have := HF.out; have := encTs_len ts; omega) (HB4.out.carry HH5.out (Nat.le_refl _)) HB5.out).mono ?_
      rintro e w6 ⟨rfl, q, h6⟩
      have HH6 : Hid (Below w3.heap.size w3 w6) := by
        have : Below w3.heap.size w5 w6 := by rw [h6]; exact Al.below ⟨q, rfl⟩
        exact (HH4.out.trans (HH5.out.mono HH4.out.size)).trans this
      clear h6
      have A1 : Hid (Aff w6 0 w2.heap.size bA ts) := by
        have a := Below.aff H3.out.1 H2.out.2.2 (Nat.le_refl _) H2.out.2.1
        exact Below.aff HH6.out a H3.out.1.size (Nat.lt_of_lt_of_le H2.out.2.1 H3.out.1.size)
      have A2 : Hid (Aff w6 0 w3.heap.size bB us) := Below.aff HH6.out H3.out.2.2 (Nat.le_refl _) H3.out.2.1
      have AG : Hid (tsEq ts us = decide (encTs ts = encTs us)) := agrees HF.out
      obtain ⟨r, hr⟩ : ∃ r, r = decide (encTs ts = encTs us) := ⟨_, rfl⟩
      rw [← hr] at AG ⊢
      clear hr
      go_wp2_with fail
      refine (eq_any bA bB ts us _ _ _ _ w6 A1.out A2.out).mono ?_
      rintro e w7 ⟨rfl, k, h7⟩
      rw [AG.out]
      have BB : Hid (Below w1.heap.size w1 w7) := by
        have h67 : Below w3.heap.size w6 w7 := by rw [h7]; exact Al.below ⟨k, rfl⟩
        exact (H2.out.1.trans (H3.out.1.mono H2.out.1.size)).trans ((HH6.out.trans h67).mono hz3.out)
      clear h7
      cases r
      all_goals
        go_wp2_with fail
        go_ret
        exact ⟨rfl, BB.out⟩

theorem law3 (n1 n2 : Bool) (v1 v2 : Value) (ts us : List Term) (w : World) (h1 : Terms w 0 w.heap.size v1 ts) (h2 : Terms w 0 w.heap.size v2 us) :
    Calls Try.prog 3 #[.bool n1, v1, .bool n2, v2] w fun e w' => e = .returned (.bool true) ∧ Below w.heap.size w w' := by
  cases n1
  · cases n2
    · exact law3_ff v1 v2 ts us w h1 h2
    · exact law3_ft v1 v2 ts us w h1 h2
  · cases n2
    · exact law3_tf v1 v2 ts us w h1 h2
    · exact law3_tt v1 v2 ts us w h1 h2
end Go.Proofs.Qxb6627374a
