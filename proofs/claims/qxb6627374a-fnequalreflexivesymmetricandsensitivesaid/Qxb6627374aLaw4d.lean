/-
  THE LAW 'FnEqualReflexiveSymmetricAndSensitive', one way through it: a requirement is added to the fields (the scripts of the ways were written by program).
-/
import Derived.Test.Qxb6627374aLaw4a
import Derived.Deep.RegionWith
namespace Go.Proofs.Qxb6627374a
open Go.RowKit

set_option maxRecDepth 20000 in
set_option maxHeartbeats 4000000 in
theorem law4_add1 (ao : Option Addr) (cap : Nat) (ts : List Term) (lo hi : Nat) (k : Nat) (q : Int) (s : ByteArray) (w : World) (hhi : hi ≤ w.heap.size) (hs : s.size ≤ 9223372036854775807) (hv : Terms w lo hi (.slice ao ts.length cap) ts) (hk : k < ts.length) (HQ : Hid (q < 0 ∨ (ts[k].2.length : Int) ≤ q)) :
    Calls Try.prog 4 #[.slice ao ts.length cap, .int .i64 k, .int .i64 q, .bool true, .string s] w fun e w' => e = .returned (.bool true) ∧ Below w.heap.size w w' := by
  have hV : Hid (Terms w lo hi (.slice ao ts.length cap) ts) := hv
  clear hv
  go_enter Try.func4, Try.ntmps4
  go_wp2_with fail
  refine (bytes11 ao cap ts lo hi k q true s w (by obtain ⟨_, _, e, h, _⟩ := hV.out; exact h) (by obtain ⟨_, _, e, h, _, r⟩ := hV.out; simp only [Value.slice.injEq] at e; obtain ⟨rfl, _⟩ := e; exact r)).mono ?_
  rintro e w' ⟨⟨b0, rfl⟩, rfl⟩
  cases b0
  · go_wp2_with fail
    go_ret
    exact ⟨rfl, Below.refl _ _⟩
  · go_wp2_with fail
    refine (termsFit_any _ ts lo hi 0 (by decide) (by decide) _ hV.out).mono ?_
    rintro e w0 ⟨T, ok, rfl, rfl, h0, h1, h2⟩
    have H2 : Hid (ok = true → T = 0 + wTerms ts) := h2
    clear h2
    cases ok
    · go_wp2_with fail
      go_ret
      exact ⟨rfl, Below.refl _ _⟩
    · by_cases hb : (1048576 - T) < (s.size : Int)
      · go_wp2_with fail
        go_ret
        exact ⟨rfl, Below.refl _ _⟩
      · have hw : wTerms ts ≤ 1048576 := by have := H2.out rfl; omega
        have hsz : s.size ≤ 1048576 := by omega
        go_wp2_with fail
        refine (aff_any _ ts lo hi hw _ hhi hV.out).mono ?_
        rintro e w1 ⟨b1, v1, rfl, G1, l1, z1, c1, n1⟩
        have hV1 : Hid (Terms w1 lo hi (.slice ao ts.length cap) ts) := hV.out.carry (G1.same hhi) (Nat.le_refl _) (Nat.le_refl _)
        have hhi1 : hi ≤ w1.heap.size := by omega
        have K1 : Hid (Grew w0.heap.size w0 w1 ∧ w0.heap.size ≤ b1 ∧ w1.heap.size = b1 + 1 ∧ w1.cell? ⟨b1, 0, none⟩ = some v1 ∧ TermsNew w1 w0.heap.size b1 v1 ts) := ⟨G1, l1, z1, c1, n1⟩
        clear G1 l1 z1 c1 n1
        go_wp2_with fail
        refine (aff_any _ ts lo hi hw _ hhi1 hV1.out).mono ?_
        rintro e w2 ⟨b2, v2, rfl, G2, l2, z2, c2, n2⟩
        have hV2 : Hid (Terms w2 lo hi (.slice ao ts.length cap) ts) := hV1.out.carry (G2.same hhi1) (Nat.le_refl _) (Nat.le_refl _)
        have hhi2 : hi ≤ w2.heap.size := by omega
        have K2 : Hid (Grew w1.heap.size w1 w2 ∧ w1.heap.size ≤ b2 ∧ w2.heap.size = b2 + 1 ∧ w2.cell? ⟨b2, 0, none⟩ = some v2 ∧ TermsNew w2 w1.heap.size b2 v2 ts) := ⟨G2, l2, z2, c2, n2⟩
        clear G2 l2 z2 c2 n2
        go_wp2_with fail
        refine (aff_any _ ts lo hi hw _ hhi2 hV2.out).mono ?_
        rintro e w3 ⟨b3, v3, rfl, G3, l3, z3, c3, n3⟩
        have KB : Hid (Built w0 w3 b1 b2 b3 w2.heap.size v3 ts) := by
          obtain ⟨x1, x2, x3, x4, x5⟩ := K1.out
          obtain ⟨y1, y2, y3, y4, y5⟩ := K2.out
          exact built x1 x2 x3 x4 x5 y1 y2 y3 y4 y5 G3 l3 z3 c3 n3
        obtain ⟨s2, hs2⟩ : ∃ s2, s2 = w2.heap.size := ⟨_, rfl⟩
        rw [← hs2] at KB
        clear hs2 G3 l3 z3 n3 K1 K2 hV hV1 hV2 hhi hhi1 hhi2 H2 h0 h1 hb
        obtain ⟨ao3, hv3⟩ : ∃ ao3, v3 = .slice ao3 ts.length ts.length := by obtain ⟨ao3, e, _⟩ := KB.out.new; exact ⟨ao3, e⟩
        subst hv3
        obtain ⟨bT, bS, aS, rs, rfl, sp⟩ := spot1 KB.out hk
        have SP : Hid (Spot1 w3 b3 s2 bT k bS aS ts rs) := sp
        have cT := sp.cell
        have hl : ts.length ≤ 1048576 := by unfold wTerms at hw; omega
        clear sp
        have hqo : q < 0 ∨ (rs.length : Int) ≤ q := by
          have := SP.out.term; rw [List.getElem?_eq_getElem hk] at this; simp only [Option.map_some, Option.some.injEq] at this; rw [← this]; exact HQ.out
        have HCall : ∀ W, W = w3.drew → Calls Try.prog 13 #[.slice aS rs.length rs.length, .int .i64 q, .string s] W fun e w' => ∃ a n c, e = .returned (.slice (some a) n c) ∧ Hid (Below w3.drew.heap.size w3.drew w' ∧ Reqs w' (bT + 1) w'.heap.size (.slice (some a) n c) (rs ++ [⟨s, ⟨#[]⟩, []⟩])) := fun W hW => by
          subst hW
          exact change_add _ rs (bT + 1) b3 q hqo s _ (by show b3 ≤ w3.heap.size; have := KB.out.size; omega) (by show bT + 1 ≤ w3.heap.size; have := KB.out.size; have := SP.out.hi; omega) (SP.out.new.carry (fun _ _ _ _ => rfl) (Nat.le_refl _) (Nat.le_refl _))
        have HPost := fun w4 a n c (h4 : Hid (Below w3.drew.heap.size w3.drew w4 ∧ Reqs w4 (bT + 1) w4.heap.size (.slice (some a) n c) (rs ++ [⟨s, ⟨#[]⟩, []⟩]))) => KB.out.added1 SP.out h4.out.1 h4.out.2 (fun e => by have := congrArg List.length e; simp at this)
        go_wp2_with fail
        go_region_with (first | (go_at_call 13; refine (HCall _ rfl).mono ?_; rintro e w4 ⟨a4, n4, c4, rfl, h4⟩; obtain ⟨d3, dT, hfz, HC0⟩ := HPost w4 a4 n4 c4 h4))
        all_goals
          obtain ⟨X, hX⟩ : ∃ X, X = w4.setCell ⟨bT, k * 2 + 1, none⟩ (.slice (some a4) n4 c4) := ⟨_, rfl⟩
          rw [← hX] at HC0
          rw [← hX]
          have HC : Hid (Changed w0 X b1 b2 b3 ts) := HC0
          clear hX HC0
          have HBel := HC.out.below
          obtain ⟨p1, p2, A1⟩ := HC.out.a1
          obtain ⟨p3, p4, A2⟩ := HC.out.a2
          obtain ⟨p5, p6, ts', hne, A3⟩ := HC.out.a3
          have E12 := eq_al A1 A2 (tsEq_self ts)
          have E21 := eq_al A2 A1 (tsEq_self ts)
          have E13 := eq_al A1 A3 (tsEq_ne (Ne.symm hne))
          have E31 := eq_al A3 A1 (tsEq_ne hne)
          have ENN := eqNN_al X
          have EPN := eqPN_al b1 X
          have ENP := eqNP_al b1 X
          clear A1 A2 A3 hne HC
          go_wp2_with fail
          refine (E12 _ (Al.refl _)).mono ?_
          rintro e X1 ⟨rfl, L1⟩
          go_wp2_with fail
          refine (E21 _ L1).mono ?_
          rintro e X2 ⟨rfl, L2⟩
          go_wp2_with fail
          refine (E13 _ L2).mono ?_
          rintro e X3 ⟨rfl, L3⟩
          go_wp2_with fail
          refine (E31 _ L3).mono ?_
          rintro e X4 ⟨rfl, L4⟩
          go_wp2_with fail
          refine (ENN _ L4).mono ?_
          rintro e X5 ⟨rfl, L5⟩
          go_wp2_with fail
          refine (EPN _ L5).mono ?_
          rintro e X6 ⟨rfl, L6⟩
          go_wp2_with fail
          refine (ENP _ L6).mono ?_
          rintro e X7 ⟨rfl, L7⟩
          go_wp2_with fail
          go_ret
          exact ⟨rfl, HBel.trans L7.below⟩

end Go.Proofs.Qxb6627374a
