/-
  THE LAW 'FnEqualReflexiveSymmetricAndSensitive', one way through it: a term is added (the scripts of the ways were written by program).
-/
import Derived.Test.Qxb6627374aSpot
namespace Go.Proofs.Qxb6627374a
open Go.RowKit

theorem sumR_key (l : List Req) (k : Nat) (h : k < l.length) : l[k].key.size ≤ wReqs l := by
  have := sumR_mem l k h
  unfold wReqs wReq at *
  omega
theorem term_key0 {ts : List Term} {rs : List Req} {k q : Nat} (hw : wTerms ts ≤ 1048576) (hk : k < ts.length) (ht : ts[k]?.map Prod.fst = some rs) (hq : q < rs.length) : rs[q].key.size ≤ 1048576 := by
  rw [List.getElem?_eq_getElem hk] at ht
  simp only [Option.map_some, Option.some.injEq] at ht
  subst ht
  have := sumT_mem ts k hk
  have := sumR_key _ q hq
  unfold wTerms at hw
  omega
theorem term_key1 {ts : List Term} {rs : List Req} {k q : Nat} (hw : wTerms ts ≤ 1048576) (hk : k < ts.length) (ht : ts[k]?.map Prod.snd = some rs) (hq : q < rs.length) : rs[q].key.size ≤ 1048576 := by
  rw [List.getElem?_eq_getElem hk] at ht
  simp only [Option.map_some, Option.some.injEq] at ht
  subst ht
  have := sumT_mem ts k hk
  have := sumR_key _ q hq
  unfold wTerms at hw
  omega

set_option maxRecDepth 20000 in
set_option maxHeartbeats 4000000 in
theorem law4_neg (ao : Option Addr) (cap : Nat) (ts : List Term) (lo hi : Nat) (t q : Int) (f : Bool) (s : ByteArray) (w : World) (hhi : hi ≤ w.heap.size) (hs : s.size ≤ 9223372036854775807) (hv : Terms w lo hi (.slice ao ts.length cap) ts) (ht0 : t < 0) :
    Calls Try.prog 4 #[.slice ao ts.length cap, .int .i64 t, .int .i64 q, .bool f, .string s] w fun e w' => e = .returned (.bool true) ∧ Below w.heap.size w w' := by
  have hV : Hid (Terms w lo hi (.slice ao ts.length cap) ts) := hv
  clear hv
  go_enter Try.func4, Try.ntmps4
  go_wp2_with fail
  refine (bytes11 ao cap ts lo hi t q f s w (by obtain ⟨_, _, e, h, _⟩ := hV.out; exact h) (by obtain ⟨_, _, e, h, _, r⟩ := hV.out; simp only [Value.slice.injEq] at e; obtain ⟨rfl, _⟩ := e; exact r)).mono ?_
  rintro e w' ⟨⟨b0, rfl⟩, rfl⟩
  cases b0
  · go_wp2_with fail
    go_ret
    exact ⟨rfl, Below.refl _ _⟩
  · go_wp2_with fail
    refine (termsFit_any _ ts lo hi 0 (by decide) (by decide) _ hV.out).mono ?_
    rintro e w0 ⟨T, ok, rfl, rfl, h0, h1, h2⟩
    have H2 : Hid (ok = true → T = 0 + wTerms ts) := h2
    clear h2
    cases ok
    · go_wp2_with fail
      go_ret
      exact ⟨rfl, Below.refl _ _⟩
    · by_cases hb : (1048576 - T) < (s.size : Int)
      · go_wp2_with fail
        go_ret
        exact ⟨rfl, Below.refl _ _⟩
      · have hw : wTerms ts ≤ 1048576 := by have := H2.out rfl; omega
        have hsz : s.size ≤ 1048576 := by omega
        go_wp2_with fail
        refine (aff_any _ ts lo hi hw _ hhi hV.out).mono ?_
        rintro e w1 ⟨b1, v1, rfl, G1, l1, z1, c1, n1⟩
        have hV1 : Hid (Terms w1 lo hi (.slice ao ts.length cap) ts) := hV.out.carry (G1.same hhi) (Nat.le_refl _) (Nat.le_refl _)
        have hhi1 : hi ≤ w1.heap.size := by omega
        have K1 : Hid (Grew w0.heap.size w0 w1 ∧ w0.heap.size ≤ b1 ∧ w1.heap.size = b1 + 1 ∧ w1.cell? ⟨b1, 0, none⟩ = some v1 ∧ TermsNew w1 w0.heap.size b1 v1 ts) := ⟨G1, l1, z1, c1, n1⟩
        clear G1 l1 z1 c1 n1
        go_wp2_with fail
        refine (aff_any _ ts lo hi hw _ hhi1 hV1.out).mono ?_
        rintro e w2 ⟨b2, v2, rfl, G2, l2, z2, c2, n2⟩
        have hV2 : Hid (Terms w2 lo hi (.slice ao ts.length cap) ts) := hV1.out.carry (G2.same hhi1) (Nat.le_refl _) (Nat.le_refl _)
        have hhi2 : hi ≤ w2.heap.size := by omega
        have K2 : Hid (Grew w1.heap.size w1 w2 ∧ w1.heap.size ≤ b2 ∧ w2.heap.size = b2 + 1 ∧ w2.cell? ⟨b2, 0, none⟩ = some v2 ∧ TermsNew w2 w1.heap.size b2 v2 ts) := ⟨G2, l2, z2, c2, n2⟩
        clear G2 l2 z2 c2 n2
        go_wp2_with fail
        refine (aff_any _ ts lo hi hw _ hhi2 hV2.out).mono ?_
        rintro e w3 ⟨b3, v3, rfl, G3, l3, z3, c3, n3⟩
        have KB : Hid (Built w0 w3 b1 b2 b3 w2.heap.size v3 ts) := by
          obtain ⟨x1, x2, x3, x4, x5⟩ := K1.out
          obtain ⟨y1, y2, y3, y4, y5⟩ := K2.out
          exact built x1 x2 x3 x4 x5 y1 y2 y3 y4 y5 G3 l3 z3 c3 n3
        obtain ⟨s2, hs2⟩ : ∃ s2, s2 = w2.heap.size := ⟨_, rfl⟩
        rw [← hs2] at KB
        clear hs2 G3 l3 z3 n3 K1 K2 hV hV1 hV2 hhi hhi1 hhi2 H2 h0 h1 hb
        obtain ⟨ao3, hv3⟩ : ∃ ao3, v3 = .slice ao3 ts.length ts.length := by obtain ⟨ao3, e, _⟩ := KB.out.new; exact ⟨ao3, e⟩
        subst hv3
        obtain ⟨i39, hi39, hy0, hy1, hy2⟩ := info_parts Try.info39
        obtain ⟨b0, hnone, hb0, holds⟩ := KB.out.new.olds (by have := KB.out.size; omega) addTerm
        have hlen := cellList_length (w3.alloc addTerm) b0 0 (ts.length * 2)
        obtain ⟨olds, ho⟩ : ∃ olds, olds = cellList (w3.alloc addTerm) b0 0 (ts.length * 2) := ⟨_, rfl⟩
        rw [← ho] at holds hlen
        have HO : Hid (olds = cellList (w3.alloc addTerm) b0 0 (ts.length * 2)) := ho
        clear ho
        unfold addTerm at holds
        have hl : ts.length ≤ 1048576 := by unfold wTerms at hw; omega
        go_wp2_with (at_builtin; refine wpList_append_grows _ rfl (.tmp 62) (.tmp 64) 34 rfl 39 i39 _ 2 48 Try.underlying34 hi39 hy0 hy1 hy2 rfl (by decide) ao3 ts.length ts.length olds rfl hnone hlen holds ⟨w3.heap.size, 0, none⟩ 1 1 [.slice none 0 0, .slice none 0 0] rfl rfl (two_cells w3 _ _ 39) (by simp [Value.oneCell']) (by omega) (by unfold maxLen; omega) (by omega) ?_)
        intro v' w4 hown hgrow
        rw [HO.out] at hown
        obtain ⟨g, cap', u, rfl, d3, hfz, HC0⟩ := KB.out.appended hb0 hown hgrow
        clear hown hgrow holds hnone hb0
        go_wp2_with fail
        obtain ⟨X, hX⟩ : ∃ X, X = w4.setCell ⟨b3, 0, none⟩ (.slice (some ⟨g, 0, none⟩) (ts.length + 1) cap') := ⟨_, rfl⟩
        rw [← hX] at HC0
        rw [← hX]
        have HC : Hid (Changed w0 X b1 b2 b3 ts) := HC0
        clear hX HC0
        have HBel := HC.out.below
        obtain ⟨p1, p2, A1⟩ := HC.out.a1
        obtain ⟨p3, p4, A2⟩ := HC.out.a2
        obtain ⟨p5, p6, ts', hne, A3⟩ := HC.out.a3
        have E12 := eq_al A1 A2 (tsEq_self ts)
        have E21 := eq_al A2 A1 (tsEq_self ts)
        have E13 := eq_al A1 A3 (tsEq_ne (Ne.symm hne))
        have E31 := eq_al A3 A1 (tsEq_ne hne)
        have ENN := eqNN_al X
        have EPN := eqPN_al b1 X
        have ENP := eqNP_al b1 X
        clear A1 A2 A3 hne HC
        go_wp2_with fail
        refine (E12 _ (Al.refl _)).mono ?_
        rintro e X1 ⟨rfl, L1⟩
        go_wp2_with fail
        refine (E21 _ L1).mono ?_
        rintro e X2 ⟨rfl, L2⟩
        go_wp2_with fail
        refine (E13 _ L2).mono ?_
        rintro e X3 ⟨rfl, L3⟩
        go_wp2_with fail
        refine (E31 _ L3).mono ?_
        rintro e X4 ⟨rfl, L4⟩
        go_wp2_with fail
        refine (ENN _ L4).mono ?_
        rintro e X5 ⟨rfl, L5⟩
        go_wp2_with fail
        refine (EPN _ L5).mono ?_
        rintro e X6 ⟨rfl, L6⟩
        go_wp2_with fail
        refine (ENP _ L6).mono ?_
        rintro e X7 ⟨rfl, L7⟩
        go_wp2_with fail
        go_ret
        exact ⟨rfl, HBel.trans L7.below⟩

set_option maxRecDepth 20000 in
set_option maxHeartbeats 4000000 in
theorem law4_past (ao : Option Addr) (cap : Nat) (ts : List Term) (lo hi : Nat) (t q : Int) (f : Bool) (s : ByteArray) (w : World) (hhi : hi ≤ w.heap.size) (hs : s.size ≤ 9223372036854775807) (hv : Terms w lo hi (.slice ao ts.length cap) ts) (ht1 : (ts.length : Int) ≤ t) :
    Calls Try.prog 4 #[.slice ao ts.length cap, .int .i64 t, .int .i64 q, .bool f, .string s] w fun e w' => e = .returned (.bool true) ∧ Below w.heap.size w w' := by
  have hV : Hid (Terms w lo hi (.slice ao ts.length cap) ts) := hv
  clear hv
  go_enter Try.func4, Try.ntmps4
  go_wp2_with fail
  refine (bytes11 ao cap ts lo hi t q f s w (by obtain ⟨_, _, e, h, _⟩ := hV.out; exact h) (by obtain ⟨_, _, e, h, _, r⟩ := hV.out; simp only [Value.slice.injEq] at e; obtain ⟨rfl, _⟩ := e; exact r)).mono ?_
  rintro e w' ⟨⟨b0, rfl⟩, rfl⟩
  cases b0
  · go_wp2_with fail
    go_ret
    exact ⟨rfl, Below.refl _ _⟩
  · go_wp2_with fail
    refine (termsFit_any _ ts lo hi 0 (by decide) (by decide) _ hV.out).mono ?_
    rintro e w0 ⟨T, ok, rfl, rfl, h0, h1, h2⟩
    have H2 : Hid (ok = true → T = 0 + wTerms ts) := h2
    clear h2
    cases ok
    · go_wp2_with fail
      go_ret
      exact ⟨rfl, Below.refl _ _⟩
    · by_cases hb : (1048576 - T) < (s.size : Int)
      · go_wp2_with fail
        go_ret
        exact ⟨rfl, Below.refl _ _⟩
      · have hw : wTerms ts ≤ 1048576 := by have := H2.out rfl; omega
        have hsz : s.size ≤ 1048576 := by omega
        go_wp2_with fail
        refine (aff_any _ ts lo hi hw _ hhi hV.out).mono ?_
        rintro e w1 ⟨b1, v1, rfl, G1, l1, z1, c1, n1⟩
        have hV1 : Hid (Terms w1 lo hi (.slice ao ts.length cap) ts) := hV.out.carry (G1.same hhi) (Nat.le_refl _) (Nat.le_refl _)
        have hhi1 : hi ≤ w1.heap.size := by omega
        have K1 : Hid (Grew w0.heap.size w0 w1 ∧ w0.heap.size ≤ b1 ∧ w1.heap.size = b1 + 1 ∧ w1.cell? ⟨b1, 0, none⟩ = some v1 ∧ TermsNew w1 w0.heap.size b1 v1 ts) := ⟨G1, l1, z1, c1, n1⟩
        clear G1 l1 z1 c1 n1
        go_wp2_with fail
        refine (aff_any _ ts lo hi hw _ hhi1 hV1.out).mono ?_
        rintro e w2 ⟨b2, v2, rfl, G2, l2, z2, c2, n2⟩
        have hV2 : Hid (Terms w2 lo hi (.slice ao ts.length cap) ts) := hV1.out.carry (G2.same hhi1) (Nat.le_refl _) (Nat.le_refl _)
        have hhi2 : hi ≤ w2.heap.size := by omega
        have K2 : Hid (Grew w1.heap.size w1 w2 ∧ w1.heap.size ≤ b2 ∧ w2.heap.size = b2 + 1 ∧ w2.cell? ⟨b2, 0, none⟩ = some v2 ∧ TermsNew w2 w1.heap.size b2 v2 ts) := ⟨G2, l2, z2, c2, n2⟩
        clear G2 l2 z2 c2 n2
        go_wp2_with fail
        refine (aff_any _ ts lo hi hw _ hhi2 hV2.out).mono ?_
        rintro e w3 ⟨b3, v3, rfl, G3, l3, z3, c3, n3⟩
        have KB : Hid (Built w0 w3 b1 b2 b3 w2.heap.size v3 ts) := by
          obtain ⟨x1, x2, x3, x4, x5⟩ := K1.out
          obtain ⟨y1, y2, y3, y4, y5⟩ := K2.out
          exact built x1 x2 x3 x4 x5 y1 y2 y3 y4 y5 G3 l3 z3 c3 n3
        obtain ⟨s2, hs2⟩ : ∃ s2, s2 = w2.heap.size := ⟨_, rfl⟩
        rw [← hs2] at KB
        clear hs2 G3 l3 z3 n3 K1 K2 hV hV1 hV2 hhi hhi1 hhi2 H2 h0 h1 hb
        obtain ⟨ao3, hv3⟩ : ∃ ao3, v3 = .slice ao3 ts.length ts.length := by obtain ⟨ao3, e, _⟩ := KB.out.new; exact ⟨ao3, e⟩
        subst hv3
        by_cases ht0 : t < 0
        · exact absurd ht0 (by omega)
        obtain ⟨i39, hi39, hy0, hy1, hy2⟩ := info_parts Try.info39
        obtain ⟨b0, hnone, hb0, holds⟩ := KB.out.new.olds (by have := KB.out.size; omega) addTerm
        have hlen := cellList_length (w3.alloc addTerm) b0 0 (ts.length * 2)
        obtain ⟨olds, ho⟩ : ∃ olds, olds = cellList (w3.alloc addTerm) b0 0 (ts.length * 2) := ⟨_, rfl⟩
        rw [← ho] at holds hlen
        have HO : Hid (olds = cellList (w3.alloc addTerm) b0 0 (ts.length * 2)) := ho
        clear ho
        unfold addTerm at holds
        have hl : ts.length ≤ 1048576 := by unfold wTerms at hw; omega
        go_wp2_with (at_builtin; refine wpList_append_grows _ rfl (.tmp 62) (.tmp 64) 34 rfl 39 i39 _ 2 48 Try.underlying34 hi39 hy0 hy1 hy2 rfl (by decide) ao3 ts.length ts.length olds rfl hnone hlen holds ⟨w3.heap.size, 0, none⟩ 1 1 [.slice none 0 0, .slice none 0 0] rfl rfl (two_cells w3 _ _ 39) (by simp [Value.oneCell']) (by omega) (by unfold maxLen; omega) (by omega) ?_)
        intro v' w4 hown hgrow
        rw [HO.out] at hown
        obtain ⟨g, cap', u, rfl, d3, hfz, HC0⟩ := KB.out.appended hb0 hown hgrow
        clear hown hgrow holds hnone hb0
        go_wp2_with fail
        obtain ⟨X, hX⟩ : ∃ X, X = w4.setCell ⟨b3, 0, none⟩ (.slice (some ⟨g, 0, none⟩) (ts.length + 1) cap') := ⟨_, rfl⟩
        rw [← hX] at HC0
        rw [← hX]
        have HC : Hid (Changed w0 X b1 b2 b3 ts) := HC0
        clear hX HC0
        have HBel := HC.out.below
        obtain ⟨p1, p2, A1⟩ := HC.out.a1
        obtain ⟨p3, p4, A2⟩ := HC.out.a2
        obtain ⟨p5, p6, ts', hne, A3⟩ := HC.out.a3
        have E12 := eq_al A1 A2 (tsEq_self ts)
        have E21 := eq_al A2 A1 (tsEq_self ts)
        have E13 := eq_al A1 A3 (tsEq_ne (Ne.symm hne))
        have E31 := eq_al A3 A1 (tsEq_ne hne)
        have ENN := eqNN_al X
        have EPN := eqPN_al b1 X
        have ENP := eqNP_al b1 X
        clear A1 A2 A3 hne HC
        go_wp2_with fail
        refine (E12 _ (Al.refl _)).mono ?_
        rintro e X1 ⟨rfl, L1⟩
        go_wp2_with fail
        refine (E21 _ L1).mono ?_
        rintro e X2 ⟨rfl, L2⟩
        go_wp2_with fail
        refine (E13 _ L2).mono ?_
        rintro e X3 ⟨rfl, L3⟩
        go_wp2_with fail
        refine (E31 _ L3).mono ?_
        rintro e X4 ⟨rfl, L4⟩
        go_wp2_with fail
        refine (ENN _ L4).mono ?_
        rintro e X5 ⟨rfl, L5⟩
        go_wp2_with fail
        refine (EPN _ L5).mono ?_
        rintro e X6 ⟨rfl, L6⟩
        go_wp2_with fail
        refine (ENP _ L6).mono ?_
        rintro e X7 ⟨rfl, L7⟩
        go_wp2_with fail
        go_ret
        exact ⟨rfl, HBel.trans L7.below⟩

end Go.Proofs.Qxb6627374a
