/-
  'zzBytes_FnEqualAgreesWithEncoding' (638 slots): it answers some bool and only reads. The script was written by program; the laws it applies are Qxb6627374aShapes.
-/
import Derived.Test.Qxb6627374aBytes11
namespace Go.Proofs.Qxb6627374a
open Go.RowKit

set_option maxRecDepth 100000 in
set_option maxHeartbeats 4000000 in
theorem bytes5 (n1 n2 : Bool) (ao_ts ao_us : Option Addr) (cap cap' : Nat) (ts us : List Term) (lo hi lo' hi' : Nat) (w : World) (hn : ts.length ≤ 9223372036854775807) (hm : us.length ≤ 9223372036854775807)
    (fts : ∀ j (h : j < ts.length), ∃ b off, ao_ts = some ⟨b, off, none⟩ ∧ lo ≤ b ∧ b < hi ∧ TermAt w lo hi b (off + j * 2) ts[j])
    (fus : ∀ j (h : j < us.length), ∃ b off, ao_us = some ⟨b, off, none⟩ ∧ lo' ≤ b ∧ b < hi' ∧ TermAt w lo' hi' b (off + j * 2) us[j]) :
    Calls Try.prog 5 #[.bool n1, .slice ao_ts ts.length cap, .bool n2, .slice ao_us us.length cap'] w fun e w' => (∃ b : Bool, e = .returned (.bool b)) ∧ w' = w := by
  have hVN : 20 ≤ 638 := by decide
  have hret : ∀ a' : Act, a'.defers = [] → a'.eval (.tmp 8) = .bool false → bodyPost Try.prog Try.f5 (fun e w' => (∃ b : Bool, e = .returned (.bool b)) ∧ w' = w) .ret a' w := fun a' h1 h2 => ret_of Try.results5 a' h1 h2
  have hretT : ∀ a' : Act, a'.defers = [] → a'.eval (.tmp 8) = .bool true → bodyPost Try.prog Try.f5 (fun e w' => (∃ b : Bool, e = .returned (.bool b)) ∧ w' = w) .ret a' w := fun a' h1 h2 => ret_of Try.results5 a' h1 h2
  refine calls_of_wp Try.func5 rfl ?_
  rw [Try.ntmps5]
  have hF : Fr 638 20 { tmps := #[.bool n1, .slice ao_ts ts.length cap, .bool n2, .slice ao_us us.length cap'] ++ Array.replicate (638 - (#[.bool n1, .slice ao_ts ts.length cap, .bool n2, .slice ao_us us.length cap'] : Array Value).size) undef, defers := [] } [(3, .slice ao_us us.length cap'), (1, .slice ao_ts ts.length cap)] :=
    ⟨rfl, by simp, fun p hp => by
      simp only [List.mem_cons, List.not_mem_nil, or_false] at hp
      rcases hp with rfl | rfl
      · exact ⟨show 3 < 20 by decide, start_eval _ _ 3 _ rfl⟩
      · exact ⟨show 1 < 20 by decide, start_eval _ _ 1 _ rfl⟩⟩
  generalize ({ tmps := #[.bool n1, .slice ao_ts ts.length cap, .bool n2, .slice ao_us us.length cap'] ++ Array.replicate (638 - (#[.bool n1, .slice ao_ts ts.length cap, .bool n2, .slice ao_us us.length cap'] : Array Value).size) undef, defers := [] } : Act) = a at hF ⊢
  refine wp_seq ?_
  refine setz hF hVN (by decide) (fun a hL => ?_)
  have hF := hL [(3, .slice ao_us us.length cap'), (1, .slice ao_ts ts.length cap)] (by simp)
  clear hL
  refine wp_seq ?_
  refine setz hF hVN (by decide) (fun a hL => ?_)
  have hF := hL [(3, .slice ao_us us.length cap'), (1, .slice ao_ts ts.length cap), (9, .int .i64 0)] (by simp)
  clear hL
  refine wp_seq ?_
  refine chk0 hF hVN (by decide) (by decide) (hx := (List.Mem.tail _ (List.Mem.head _))) (by decide) (fun a hF => ?_) hret
  refine wp_seq ?_
  refine add0 hF hVN (by decide) (by decide) (hz := (List.Mem.tail _ (List.Mem.tail _ (List.Mem.head _)))) (hx := (List.Mem.tail _ (List.Mem.head _))) (fun q1 a hL => ?_)
  have hF := hL [(3, (.slice ao_us us.length cap')), (1, (.slice ao_ts ts.length cap)), (9, .int .i64 q1)] (by simp)
  clear hL
  refine wp_seq ?_
  refine chkz hF hVN (by decide) (by decide) (hz := (List.Mem.tail _ (List.Mem.tail _ (List.Mem.head _)))) (by decide) (fun a hF => ?_) hret
  refine wp_seq ?_
  refine wp_seq ?_
  refine setz hF hVN (by decide) (fun a hL => ?_)
  have hF := hL [(3, (.slice ao_us us.length cap')), (1, (.slice ao_ts ts.length cap)), (9, .int .i64 q1), (10, .int .i64 ((0 : Nat) : Int))] (by simp)
  clear hL
  refine wp_block ?_
  refine wp_loop (fun a' w' => w = w' ∧ ∃ (zq : Int) (ki : Nat), ki ≤ ts.length ∧ Fr 638 20 a' [(3, (.slice ao_us us.length cap')), (1, (.slice ao_ts ts.length cap)), (9, .int .i64 zq), (10, .int .i64 (ki : Int))]) (fun a' _ => ts.length - (intOf (a'.eval (.tmp 10))).toNat) ⟨rfl, q1, 0, Nat.zero_le _, hF⟩ ?_
  clear hF
  rintro a w' ⟨rfl, zq, ki, hki, hF⟩
  have hm : (intOf (a.eval (.tmp 10))).toNat = ki := by rw [(hF.known (10, .int .i64 (ki : Int)) (List.Mem.tail _ (List.Mem.tail _ (List.Mem.tail _ (List.Mem.head _))))).2]; simp [intOf]
  rw [hm]
  clear hm
  refine wp_seq ?_
  refine loop0 hF hVN (by decide) (by decide) (hi := (List.Mem.tail _ (List.Mem.tail _ (List.Mem.tail _ (List.Mem.head _))))) (hx := (List.Mem.tail _ (List.Mem.head _))) (fun hlt a hF => ?_) (fun hge a hF => ?_)
  · obtain ⟨b, off, rfl, _, _, v0, v1, c0, c1, g0, g1⟩ := fts ki hlt
    obtain ⟨ao0, cp0, rfl, hn0, _, f0⟩ := g0
    obtain ⟨ao1, cp1, rfl, hn1, _, f1⟩ := g1
    refine wp_seq ?_
    refine wp_block ?_
    refine wp_seq ?_
    refine chk1_0 hF hVN (by decide) (by decide) (hx := (List.Mem.tail _ (List.Mem.head _))) (hi := (List.Mem.tail _ (List.Mem.tail _ (List.Mem.tail _ (List.Mem.head _))))) (hki := hlt) (hc1 := c0) (by decide) (fun a hF => ?_) hret
    refine wp_seq ?_
    refine add1_0 hF hVN (by decide) (by decide) (hz := (List.Mem.tail _ (List.Mem.tail _ (List.Mem.head _)))) (hx := (List.Mem.tail _ (List.Mem.head _))) (hi := (List.Mem.tail _ (List.Mem.tail _ (List.Mem.tail _ (List.Mem.head _))))) (hki := hlt) (hc1 := c0) (fun q a hL => ?_)
    have hF := hL [(3, (.slice ao_us us.length cap')), (1, (.slice (some ⟨b, off, none⟩) ts.length cap)), (10, .int .i64 (ki : Int)), (9, .int .i64 q)] (by simp)
    clear hL
    refine wp_seq ?_
    refine chkz hF hVN (by decide) (by decide) (hz := (List.Mem.tail _ (List.Mem.tail _ (List.Mem.tail _ (List.Mem.head _))))) (by decide) (fun a hF => ?_) hret
    refine wp_seq ?_
    refine wp_seq ?_
    refine setz hF hVN (by decide) (fun a hL => ?_)
    have hF := hL [(3, (.slice ao_us us.length cap')), (1, (.slice (some ⟨b, off, none⟩) ts.length cap)), (10, .int .i64 (ki : Int)), (9, .int .i64 q), (11, .int .i64 ((0 : Nat) : Int))] (by simp)
    clear hL
    refine wp_block ?_
    refine wp_loop (fun a' w' => w = w' ∧ ∃ (zq : Int) (kj : Nat), kj ≤ ts[ki].1.length ∧ Fr 638 20 a' [(3, (.slice ao_us us.length cap')), (1, (.slice (some ⟨b, off, none⟩) ts.length cap)), (10, .int .i64 (ki : Int)), (9, .int .i64 zq), (11, .int .i64 (kj : Int))]) (fun a' _ => ts[ki].1.length - (intOf (a'.eval (.tmp 11))).toNat) ⟨rfl, q, 0, Nat.zero_le _, hF⟩ ?_
    clear hF
    rintro a w' ⟨rfl, zq, kj, hkj, hF⟩
    have hm : (intOf (a.eval (.tmp 11))).toNat = kj := by rw [(hF.known (11, .int .i64 (kj : Int)) (List.Mem.tail _ (List.Mem.tail _ (List.Mem.tail _ (List.Mem.tail _ (List.Mem.head _)))))).2]; simp [intOf]
    rw [hm]
    clear hm
    refine wp_seq ?_
    refine loop1_0 hF hVN (by decide) (by decide) (hj := (List.Mem.tail _ (List.Mem.tail _ (List.Mem.tail _ (List.Mem.tail _ (List.Mem.head _)))))) (hx := (List.Mem.tail _ (List.Mem.head _))) (hi := (List.Mem.tail _ (List.Mem.tail _ (List.Mem.head _)))) (hki := hlt) (hc1 := c0) (fun hltj a hF => ?_) (fun hgej a hF => ?_)
    · obtain ⟨bq, offq, rfl, _, _, d0, d1, vv, d2, gv⟩ := f0 kj hltj
      obtain ⟨aov, cpv, rfl, hnv, _, fv⟩ := gv
      refine wp_seq ?_
      refine wp_block ?_
      refine wp_seq ?_
      refine chk2_0_0 hF hVN (by decide) (by decide) (hx := (List.Mem.tail _ (List.Mem.head _))) (hi := (List.Mem.tail _ (List.Mem.tail _ (List.Mem.head _)))) (hki := hlt) (hc1 := c0) (hj := (List.Mem.tail _ (List.Mem.tail _ (List.Mem.tail _ (List.Mem.tail _ (List.Mem.head _)))))) (hkj := hltj) (hc2 := d0) (by decide) (fun a hF => ?_) hret
      refine wp_seq ?_
      refine add2_0_0 hF hVN (by decide) (by decide) (hz := (List.Mem.tail _ (List.Mem.tail _ (List.Mem.tail _ (List.Mem.head _))))) (hx := (List.Mem.tail _ (List.Mem.head _))) (hi := (List.Mem.tail _ (List.Mem.tail _ (List.Mem.head _)))) (hki := hlt) (hc1 := c0) (hj := (List.Mem.tail _ (List.Mem.tail _ (List.Mem.tail _ (List.Mem.tail _ (List.Mem.head _)))))) (hkj := hltj) (hc2 := d0) (fun q a hL => ?_)
      have hF := hL [(3, (.slice ao_us us.length cap')), (1, (.slice (some ⟨b, off, none⟩) ts.length cap)), (10, .int .i64 (ki : Int)), (11, .int .i64 (kj : Int)), (9, .int .i64 q)] (by simp)
      clear hL
      refine wp_seq ?_
      refine chkz hF hVN (by decide) (by decide) (hz := (List.Mem.tail _ (List.Mem.tail _ (List.Mem.tail _ (List.Mem.tail _ (List.Mem.head _)))))) (by decide) (fun a hF => ?_) hret
      refine wp_seq ?_
      refine chk2_0_1 hF hVN (by decide) (by decide) (hx := (List.Mem.tail _ (List.Mem.head _))) (hi := (List.Mem.tail _ (List.Mem.tail _ (List.Mem.head _)))) (hki := hlt) (hc1 := c0) (hj := (List.Mem.tail _ (List.Mem.tail _ (List.Mem.tail _ (List.Mem.head _))))) (hkj := hltj) (hc2 := d1) (by decide) (fun a hF => ?_) hret
      refine wp_seq ?_
      refine add2_0_1 hF hVN (by decide) (by decide) (hz := (List.Mem.tail _ (List.Mem.tail _ (List.Mem.tail _ (List.Mem.tail _ (List.Mem.head _)))))) (hx := (List.Mem.tail _ (List.Mem.head _))) (hi := (List.Mem.tail _ (List.Mem.tail _ (List.Mem.head _)))) (hki := hlt) (hc1 := c0) (hj := (List.Mem.tail _ (List.Mem.tail _ (List.Mem.tail _ (List.Mem.head _))))) (hkj := hltj) (hc2 := d1) (fun q a hL => ?_)
      have hF := hL [(3, (.slice ao_us us.length cap')), (1, (.slice (some ⟨b, off, none⟩) ts.length cap)), (10, .int .i64 (ki : Int)), (11, .int .i64 (kj : Int)), (9, .int .i64 q)] (by simp)
      clear hL
      refine wp_seq ?_
      refine chkz hF hVN (by decide) (by decide) (hz := (List.Mem.tail _ (List.Mem.tail _ (List.Mem.tail _ (List.Mem.tail _ (List.Mem.head _)))))) (by decide) (fun a hF => ?_) hret
      refine wp_seq ?_
      refine chk2_0_2 hF hVN (by decide) (by decide) (hx := (List.Mem.tail _ (List.Mem.head _))) (hi := (List.Mem.tail _ (List.Mem.tail _ (List.Mem.head _)))) (hki := hlt) (hc1 := c0) (hj := (List.Mem.tail _ (List.Mem.tail _ (List.Mem.tail _ (List.Mem.head _))))) (hkj := hltj) (hc2 := d2) (by decide) (fun a hF => ?_) hret
      refine wp_seq ?_
      refine add2_0_2 hF hVN (by decide) (by decide) (hz := (List.Mem.tail _ (List.Mem.tail _ (List.Mem.tail _ (List.Mem.tail _ (List.Mem.head _)))))) (hx := (List.Mem.tail _ (List.Mem.head _))) (hi := (List.Mem.tail _ (List.Mem.tail _ (List.Mem.head _)))) (hki := hlt) (hc1 := c0) (hj := (List.Mem.tail _ (List.Mem.tail _ (List.Mem.tail _ (List.Mem.head _))))) (hkj := hltj) (hc2 := d2) (fun q a hL => ?_)
      have hF := hL [(3, (.slice ao_us us.length cap')), (1, (.slice (some ⟨b, off, none⟩) ts.length cap)), (10, .int .i64 (ki : Int)), (11, .int .i64 (kj : Int)), (9, .int .i64 q)] (by simp)
      clear hL
      refine wp_seq ?_
      refine chkz hF hVN (by decide) (by decide) (hz := (List.Mem.tail _ (List.Mem.tail _ (List.Mem.tail _ (List.Mem.tail _ (List.Mem.head _)))))) (by decide) (fun a hF => ?_) hret
      refine wp_seq ?_
      refine setz hF hVN (by decide) (fun a hL => ?_)
      have hF := hL [(3, (.slice ao_us us.length cap')), (1, (.slice (some ⟨b, off, none⟩) ts.length cap)), (10, .int .i64 (ki : Int)), (11, .int .i64 (kj : Int)), (9, .int .i64 q), (12, .int .i64 ((0 : Nat) : Int))] (by simp)
      clear hL
      refine wp_block ?_
      refine wp_loop (fun a' w' => w = w' ∧ ∃ (zq : Int) (kl : Nat), kl ≤ ts[ki].1[kj].vals.length ∧ Fr 638 20 a' [(3, (.slice ao_us us.length cap')), (1, (.slice (some ⟨b, off, none⟩) ts.length cap)), (10, .int .i64 (ki : Int)), (11, .int .i64 (kj : Int)), (9, .int .i64 zq), (12, .int .i64 (kl : Int))]) (fun a' _ => ts[ki].1[kj].vals.length - (intOf (a'.eval (.tmp 12))).toNat) ⟨rfl, q, 0, Nat.zero_le _, hF⟩ ?_
      clear hF
      rintro a w' ⟨rfl, zq, kl, hkl, hF⟩
      have hm : (intOf (a.eval (.tmp 12))).toNat = kl := by rw [(hF.known (12, .int .i64 (kl : Int)) (List.Mem.tail _ (List.Mem.tail _ (List.Mem.tail _ (List.Mem.tail _ (List.Mem.tail _ (List.Mem.head _))))))).2]; simp [intOf]
      rw [hm]
      clear hm
      refine wp_seq ?_
      refine loop2_0_2 hF hVN (by decide) (by decide) (hl := (List.Mem.tail _ (List.Mem.tail _ (List.Mem.tail _ (List.Mem.tail _ (List.Mem.tail _ (List.Mem.head _))))))) (hx := (List.Mem.tail _ (List.Mem.head _))) (hi := (List.Mem.tail _ (List.Mem.tail _ (List.Mem.head _)))) (hki := hlt) (hc1 := c0) (hj := (List.Mem.tail _ (List.Mem.tail _ (List.Mem.tail _ (List.Mem.head _))))) (hkj := hltj) (hc2 := d2) (fun hltl a hF => ?_) (fun hgel a hF => ?_)
      · obtain ⟨bs, offs, rfl, _, _, ds⟩ := fv kl hltl
        refine wp_seq ?_
        refine wp_block ?_
        refine wp_seq ?_
        refine chk3_0 hF hVN (by decide) (by decide) (hx := (List.Mem.tail _ (List.Mem.head _))) (hi := (List.Mem.tail _ (List.Mem.tail _ (List.Mem.head _)))) (hki := hlt) (hc1 := c0) (hj := (List.Mem.tail _ (List.Mem.tail _ (List.Mem.tail _ (List.Mem.head _))))) (hkj := hltj) (hc2 := d2) (hl := (List.Mem.tail _ (List.Mem.tail _ (List.Mem.tail _ (List.Mem.tail _ (List.Mem.tail _ (List.Mem.head _))))))) (hkl := hltl) (hc3 := ds) (by decide) (fun a hF => ?_) hret
        refine wp_seq ?_
        refine add3_0 hF hVN (by decide) (by decide) (hz := (List.Mem.tail _ (List.Mem.tail _ (List.Mem.tail _ (List.Mem.tail _ (List.Mem.head _)))))) (hx := (List.Mem.tail _ (List.Mem.head _))) (hi := (List.Mem.tail _ (List.Mem.tail _ (List.Mem.head _)))) (hki := hlt) (hc1 := c0) (hj := (List.Mem.tail _ (List.Mem.tail _ (List.Mem.tail _ (List.Mem.head _))))) (hkj := hltj) (hc2 := d2) (hl := (List.Mem.tail _ (List.Mem.tail _ (List.Mem.tail _ (List.Mem.tail _ (List.Mem.tail _ (List.Mem.head _))))))) (hkl := hltl) (hc3 := ds) (fun q a hL => ?_)
        have hF := hL [(3, (.slice ao_us us.length cap')), (1, (.slice (some ⟨b, off, none⟩) ts.length cap)), (10, .int .i64 (ki : Int)), (11, .int .i64 (kj : Int)), (12, .int .i64 (kl : Int)), (9, .int .i64 q)] (by simp)
        clear hL
        refine chkz hF hVN (by decide) (by decide) (hz := (List.Mem.tail _ (List.Mem.tail _ (List.Mem.tail _ (List.Mem.tail _ (List.Mem.tail _ (List.Mem.head _))))))) (by decide) (fun a hF => ?_) hret
        refine inc hF hVN (by decide) (by decide) (hi := (List.Mem.tail _ (List.Mem.tail _ (List.Mem.tail _ (List.Mem.tail _ (List.Mem.head _)))))) (by omega) (fun a hL => ?_)
        refine ⟨⟨rfl, q, kl + 1, hltl, hL _ (by simp)⟩, ?_⟩
        rw [((hL [(12, .int .i64 ((kl + 1 : Nat) : Int))] (by simp)).known (12, _) (List.Mem.head _)).2]
        simp only [intOf, Int.toNat_natCast]
        omega
      · refine inBlock_exit ?_
        refine inc hF hVN (by decide) (by decide) (hi := (List.Mem.tail _ (List.Mem.tail _ (List.Mem.tail _ (List.Mem.head _))))) (by omega) (fun a hL => ?_)
        refine ⟨⟨rfl, zq, kj + 1, hltj, hL _ (by simp)⟩, ?_⟩
        rw [((hL [(11, .int .i64 ((kj + 1 : Nat) : Int))] (by simp)).known (11, _) (List.Mem.head _)).2]
        simp only [intOf, Int.toNat_natCast]
        omega
    · refine inBlock_exit ?_
      clear hkj hgej
      replace hF := hF.weaken (L' := [(3, (.slice ao_us us.length cap')), (1, (.slice (some ⟨b, off, none⟩) ts.length cap)), (10, .int .i64 (ki : Int)), (9, .int .i64 zq)]) (by simp)
      refine wp_seq ?_
      refine chk1_1 hF hVN (by decide) (by decide) (hx := (List.Mem.tail _ (List.Mem.head _))) (hi := (List.Mem.tail _ (List.Mem.tail _ (List.Mem.head _)))) (hki := hlt) (hc1 := c1) (by decide) (fun a hF => ?_) hret
      refine wp_seq ?_
      refine add1_1 hF hVN (by decide) (by decide) (hz := (List.Mem.tail _ (List.Mem.tail _ (List.Mem.tail _ (List.Mem.head _))))) (hx := (List.Mem.tail _ (List.Mem.head _))) (hi := (List.Mem.tail _ (List.Mem.tail _ (List.Mem.head _)))) (hki := hlt) (hc1 := c1) (fun q a hL => ?_)
      have hF := hL [(3, (.slice ao_us us.length cap')), (1, (.slice (some ⟨b, off, none⟩) ts.length cap)), (10, .int .i64 (ki : Int)), (9, .int .i64 q)] (by simp)
      clear hL
      refine wp_seq ?_
      refine chkz hF hVN (by decide) (by decide) (hz := (List.Mem.tail _ (List.Mem.tail _ (List.Mem.tail _ (List.Mem.head _))))) (by decide) (fun a hF => ?_) hret
      refine wp_seq ?_
      refine setz hF hVN (by decide) (fun a hL => ?_)
      have hF := hL [(3, (.slice ao_us us.length cap')), (1, (.slice (some ⟨b, off, none⟩) ts.length cap)), (10, .int .i64 (ki : Int)), (9, .int .i64 q), (13, .int .i64 ((0 : Nat) : Int))] (by simp)
      clear hL
      refine wp_block ?_
      refine wp_loop (fun a' w' => w = w' ∧ ∃ (zq : Int) (kj : Nat), kj ≤ ts[ki].2.length ∧ Fr 638 20 a' [(3, (.slice ao_us us.length cap')), (1, (.slice (some ⟨b, off, none⟩) ts.length cap)), (10, .int .i64 (ki : Int)), (9, .int .i64 zq), (13, .int .i64 (kj : Int))]) (fun a' _ => ts[ki].2.length - (intOf (a'.eval (.tmp 13))).toNat) ⟨rfl, q, 0, Nat.zero_le _, hF⟩ ?_
      clear hF
      rintro a w' ⟨rfl, zq, kj, hkj, hF⟩
      have hm : (intOf (a.eval (.tmp 13))).toNat = kj := by rw [(hF.known (13, .int .i64 (kj : Int)) (List.Mem.tail _ (List.Mem.tail _ (List.Mem.tail _ (List.Mem.tail _ (List.Mem.head _)))))).2]; simp [intOf]
      rw [hm]
      clear hm
      refine wp_seq ?_
      refine loop1_1 hF hVN (by decide) (by decide) (hj := (List.Mem.tail _ (List.Mem.tail _ (List.Mem.tail _ (List.Mem.tail _ (List.Mem.head _)))))) (hx := (List.Mem.tail _ (List.Mem.head _))) (hi := (List.Mem.tail _ (List.Mem.tail _ (List.Mem.head _)))) (hki := hlt) (hc1 := c1) (fun hltj a hF => ?_) (fun hgej a hF => ?_)
      · obtain ⟨bq, offq, rfl, _, _, d0, d1, vv, d2, gv⟩ := f1 kj hltj
        obtain ⟨aov, cpv, rfl, hnv, _, fv⟩ := gv
        refine wp_seq ?_
        refine wp_block ?_
        refine wp_seq ?_
        refine chk2_1_0 hF hVN (by decide) (by decide) (hx := (List.Mem.tail _ (List.Mem.head _))) (hi := (List.Mem.tail _ (List.Mem.tail _ (List.Mem.head _)))) (hki := hlt) (hc1 := c1) (hj := (List.Mem.tail _ (List.Mem.tail _ (List.Mem.tail _ (List.Mem.tail _ (List.Mem.head _)))))) (hkj := hltj) (hc2 := d0) (by decide) (fun a hF => ?_) hret
        refine wp_seq ?_
        refine add2_1_0 hF hVN (by decide) (by decide) (hz := (List.Mem.tail _ (List.Mem.tail _ (List.Mem.tail _ (List.Mem.head _))))) (hx := (List.Mem.tail _ (List.Mem.head _))) (hi := (List.Mem.tail _ (List.Mem.tail _ (List.Mem.head _)))) (hki := hlt) (hc1 := c1) (hj := (List.Mem.tail _ (List.Mem.tail _ (List.Mem.tail _ (List.Mem.tail _ (List.Mem.head _)))))) (hkj := hltj) (hc2 := d0) (fun q a hL => ?_)
        have hF := hL [(3, (.slice ao_us us.length cap')), (1, (.slice (some ⟨b, off, none⟩) ts.length cap)), (10, .int .i64 (ki : Int)), (13, .int .i64 (kj : Int)), (9, .int .i64 q)] (by simp)
        clear hL
        refine wp_seq ?_
        refine chkz hF hVN (by decide) (by decide) (hz := (List.Mem.tail _ (List.Mem.tail _ (List.Mem.tail _ (List.Mem.tail _ (List.Mem.head _)))))) (by decide) (fun a hF => ?_) hret
        refine wp_seq ?_
        refine chk2_1_1 hF hVN (by decide) (by decide) (hx := (List.Mem.tail _ (List.Mem.head _))) (hi := (List.Mem.tail _ (List.Mem.tail _ (List.Mem.head _)))) (hki := hlt) (hc1 := c1) (hj := (List.Mem.tail _ (List.Mem.tail _ (List.Mem.tail _ (List.Mem.head _))))) (hkj := hltj) (hc2 := d1) (by decide) (fun a hF => ?_) hret
        refine wp_seq ?_
        refine add2_1_1 hF hVN (by decide) (by decide) (hz := (List.Mem.tail _ (List.Mem.tail _ (List.Mem.tail _ (List.Mem.tail _ (List.Mem.head _)))))) (hx := (List.Mem.tail _ (List.Mem.head _))) (hi := (List.Mem.tail _ (List.Mem.tail _ (List.Mem.head _)))) (hki := hlt) (hc1 := c1) (hj := (List.Mem.tail _ (List.Mem.tail _ (List.Mem.tail _ (List.Mem.head _))))) (hkj := hltj) (hc2 := d1) (fun q a hL => ?_)
        have hF := hL [(3, (.slice ao_us us.length cap')), (1, (.slice (some ⟨b, off, none⟩) ts.length cap)), (10, .int .i64 (ki : Int)), (13, .int .i64 (kj : Int)), (9, .int .i64 q)] (by simp)
        clear hL
        refine wp_seq ?_
        refine chkz hF hVN (by decide) (by decide) (hz := (List.Mem.tail _ (List.Mem.tail _ (List.Mem.tail _ (List.Mem.tail _ (List.Mem.head _)))))) (by decide) (fun a hF => ?_) hret
        refine wp_seq ?_
        refine chk2_1_2 hF hVN (by decide) (by decide) (hx := (List.Mem.tail _ (List.Mem.head _))) (hi := (List.Mem.tail _ (List.Mem.tail _ (List.Mem.head _)))) (hki := hlt) (hc1 := c1) (hj := (List.Mem.tail _ (List.Mem.tail _ (List.Mem.tail _ (List.Mem.head _))))) (hkj := hltj) (hc2 := d2) (by decide) (fun a hF => ?_) hret
        refine wp_seq ?_
        refine add2_1_2 hF hVN (by decide) (by decide) (hz := (List.Mem.tail _ (List.Mem.tail _ (List.Mem.tail _ (List.Mem.tail _ (List.Mem.head _)))))) (hx := (List.Mem.tail _ (List.Mem.head _))) (hi := (List.Mem.tail _ (List.Mem.tail _ (List.Mem.head _)))) (hki := hlt) (hc1 := c1) (hj := (List.Mem.tail _ (List.Mem.tail _ (List.Mem.tail _ (List.Mem.head _))))) (hkj := hltj) (hc2 := d2) (fun q a hL => ?_)
        have hF := hL [(3, (.slice ao_us us.length cap')), (1, (.slice (some ⟨b, off, none⟩) ts.length cap)), (10, .int .i64 (ki : Int)), (13, .int .i64 (kj : Int)), (9, .int .i64 q)] (by simp)
        clear hL
        refine wp_seq ?_
        refine chkz hF hVN (by decide) (by decide) (hz := (List.Mem.tail _ (List.Mem.tail _ (List.Mem.tail _ (List.Mem.tail _ (List.Mem.head _)))))) (by decide) (fun a hF => ?_) hret
        refine wp_seq ?_
        refine setz hF hVN (by decide) (fun a hL => ?_)
        have hF := hL [(3, (.slice ao_us us.length cap')), (1, (.slice (some ⟨b, off, none⟩) ts.length cap)), (10, .int .i64 (ki : Int)), (13, .int .i64 (kj : Int)), (9, .int .i64 q), (14, .int .i64 ((0 : Nat) : Int))] (by simp)
        clear hL
        refine wp_block ?_
        refine wp_loop (fun a' w' => w = w' ∧ ∃ (zq : Int) (kl : Nat), kl ≤ ts[ki].2[kj].vals.length ∧ Fr 638 20 a' [(3, (.slice ao_us us.length cap')), (1, (.slice (some ⟨b, off, none⟩) ts.length cap)), (10, .int .i64 (ki : Int)), (13, .int .i64 (kj : Int)), (9, .int .i64 zq), (14, .int .i64 (kl : Int))]) (fun a' _ => ts[ki].2[kj].vals.length - (intOf (a'.eval (.tmp 14))).toNat) ⟨rfl, q, 0, Nat.zero_le _, hF⟩ ?_
        clear hF
        rintro a w' ⟨rfl, zq, kl, hkl, hF⟩
        have hm : (intOf (a.eval (.tmp 14))).toNat = kl := by rw [(hF.known (14, .int .i64 (kl : Int)) (List.Mem.tail _ (List.Mem.tail _ (List.Mem.tail _ (List.Mem.tail _ (List.Mem.tail _ (List.Mem.head _))))))).2]; simp [intOf]
        rw [hm]
        clear hm
        refine wp_seq ?_
        refine loop2_1_2 hF hVN (by decide) (by decide) (hl := (List.Mem.tail _ (List.Mem.tail _ (List.Mem.tail _ (List.Mem.tail _ (List.Mem.tail _ (List.Mem.head _))))))) (hx := (List.Mem.tail _ (List.Mem.head _))) (hi := (List.Mem.tail _ (List.Mem.tail _ (List.Mem.head _)))) (hki := hlt) (hc1 := c1) (hj := (List.Mem.tail _ (List.Mem.tail _ (List.Mem.tail _ (List.Mem.head _))))) (hkj := hltj) (hc2 := d2) (fun hltl a hF => ?_) (fun hgel a hF => ?_)
        · obtain ⟨bs, offs, rfl, _, _, ds⟩ := fv kl hltl
          refine wp_seq ?_
          refine wp_block ?_
          refine wp_seq ?_
          refine chk3_1 hF hVN (by decide) (by decide) (hx := (List.Mem.tail _ (List.Mem.head _))) (hi := (List.Mem.tail _ (List.Mem.tail _ (List.Mem.head _)))) (hki := hlt) (hc1 := c1) (hj := (List.Mem.tail _ (List.Mem.tail _ (List.Mem.tail _ (List.Mem.head _))))) (hkj := hltj) (hc2 := d2) (hl := (List.Mem.tail _ (List.Mem.tail _ (List.Mem.tail _ (List.Mem.tail _ (List.Mem.tail _ (List.Mem.head _))))))) (hkl := hltl) (hc3 := ds) (by decide) (fun a hF => ?_) hret
          refine wp_seq ?_
          refine add3_1 hF hVN (by decide) (by decide) (hz := (List.Mem.tail _ (List.Mem.tail _ (List.Mem.tail _ (List.Mem.tail _ (List.Mem.head _)))))) (hx := (List.Mem.tail _ (List.Mem.head _))) (hi := (List.Mem.tail _ (List.Mem.tail _ (List.Mem.head _)))) (hki := hlt) (hc1 := c1) (hj := (List.Mem.tail _ (List.Mem.tail _ (List.Mem.tail _ (List.Mem.head _))))) (hkj := hltj) (hc2 := d2) (hl := (List.Mem.tail _ (List.Mem.tail _ (List.Mem.tail _ (List.Mem.tail _ (List.Mem.tail _ (List.Mem.head _))))))) (hkl := hltl) (hc3 := ds) (fun q a hL => ?_)
          have hF := hL [(3, (.slice ao_us us.length cap')), (1, (.slice (some ⟨b, off, none⟩) ts.length cap)), (10, .int .i64 (ki : Int)), (13, .int .i64 (kj : Int)), (14, .int .i64 (kl : Int)), (9, .int .i64 q)] (by simp)
          clear hL
          refine chkz hF hVN (by decide) (by decide) (hz := (List.Mem.tail _ (List.Mem.tail _ (List.Mem.tail _ (List.Mem.tail _ (List.Mem.tail _ (List.Mem.head _))))))) (by decide) (fun a hF => ?_) hret
          refine inc hF hVN (by decide) (by decide) (hi := (List.Mem.tail _ (List.Mem.tail _ (List.Mem.tail _ (List.Mem.tail _ (List.Mem.head _)))))) (by omega) (fun a hL => ?_)
          refine ⟨⟨rfl, q, kl + 1, hltl, hL _ (by simp)⟩, ?_⟩
          rw [((hL [(14, .int .i64 ((kl + 1 : Nat) : Int))] (by simp)).known (14, _) (List.Mem.head _)).2]
          simp only [intOf, Int.toNat_natCast]
          omega
        · refine inBlock_exit ?_
          refine inc hF hVN (by decide) (by decide) (hi := (List.Mem.tail _ (List.Mem.tail _ (List.Mem.tail _ (List.Mem.head _))))) (by omega) (fun a hL => ?_)
          refine ⟨⟨rfl, zq, kj + 1, hltj, hL _ (by simp)⟩, ?_⟩
          rw [((hL [(13, .int .i64 ((kj + 1 : Nat) : Int))] (by simp)).known (13, _) (List.Mem.head _)).2]
          simp only [intOf, Int.toNat_natCast]
          omega
      · refine inBlock_exit ?_
        refine inc hF hVN (by decide) (by decide) (hi := (List.Mem.tail _ (List.Mem.tail _ (List.Mem.head _)))) (by omega) (fun a hL => ?_)
        refine ⟨⟨rfl, zq, ki + 1, hlt, hL _ (by simp)⟩, ?_⟩
        rw [((hL [(10, .int .i64 ((ki + 1 : Nat) : Int))] (by simp)).known (10, _) (List.Mem.head _)).2]
        simp only [intOf, Int.toNat_natCast]
        omega
  · refine inBlock_exit ?_
    clear hki hge
    replace hF := hF.weaken (L' := [(3, .slice ao_us us.length cap'), (9, .int .i64 zq)]) (by simp)
    refine wp_seq ?_
    refine chk0 hF hVN (by decide) (by decide) (hx := (List.Mem.head _)) (by decide) (fun a hF => ?_) hret
    refine wp_seq ?_
    refine add0 hF hVN (by decide) (by decide) (hz := (List.Mem.tail _ (List.Mem.head _))) (hx := (List.Mem.head _)) (fun q1 a hL => ?_)
    have hF := hL [(3, (.slice ao_us us.length cap')), (9, .int .i64 q1)] (by simp)
    clear hL
    refine wp_seq ?_
    refine chkz hF hVN (by decide) (by decide) (hz := (List.Mem.tail _ (List.Mem.head _))) (by decide) (fun a hF => ?_) hret
    refine wp_seq ?_
    refine wp_seq ?_
    refine setz hF hVN (by decide) (fun a hL => ?_)
    have hF := hL [(3, (.slice ao_us us.length cap')), (9, .int .i64 q1), (15, .int .i64 ((0 : Nat) : Int))] (by simp)
    clear hL
    refine wp_block ?_
    refine wp_loop (fun a' w' => w = w' ∧ ∃ (zq : Int) (ki : Nat), ki ≤ us.length ∧ Fr 638 20 a' [(3, (.slice ao_us us.length cap')), (9, .int .i64 zq), (15, .int .i64 (ki : Int))]) (fun a' _ => us.length - (intOf (a'.eval (.tmp 15))).toNat) ⟨rfl, q1, 0, Nat.zero_le _, hF⟩ ?_
    clear hF
    rintro a w' ⟨rfl, zq, ki, hki, hF⟩
    have hm : (intOf (a.eval (.tmp 15))).toNat = ki := by rw [(hF.known (15, .int .i64 (ki : Int)) (List.Mem.tail _ (List.Mem.tail _ (List.Mem.head _)))).2]; simp [intOf]
    rw [hm]
    clear hm
    refine wp_seq ?_
    refine loop0 hF hVN (by decide) (by decide) (hi := (List.Mem.tail _ (List.Mem.tail _ (List.Mem.head _)))) (hx := (List.Mem.head _)) (fun hlt a hF => ?_) (fun hge a hF => ?_)
    · obtain ⟨b, off, rfl, _, _, v0, v1, c0, c1, g0, g1⟩ := fus ki hlt
      obtain ⟨ao0, cp0, rfl, hn0, _, f0⟩ := g0
      obtain ⟨ao1, cp1, rfl, hn1, _, f1⟩ := g1
      refine wp_seq ?_
      refine wp_block ?_
      refine wp_seq ?_
      refine chk1_0 hF hVN (by decide) (by decide) (hx := (List.Mem.head _)) (hi := (List.Mem.tail _ (List.Mem.tail _ (List.Mem.head _)))) (hki := hlt) (hc1 := c0) (by decide) (fun a hF => ?_) hret
      refine wp_seq ?_
      refine add1_0 hF hVN (by decide) (by decide) (hz := (List.Mem.tail _ (List.Mem.head _))) (hx := (List.Mem.head _)) (hi := (List.Mem.tail _ (List.Mem.tail _ (List.Mem.head _)))) (hki := hlt) (hc1 := c0) (fun q a hL => ?_)
      have hF := hL [(3, (.slice (some ⟨b, off, none⟩) us.length cap')), (15, .int .i64 (ki : Int)), (9, .int .i64 q)] (by simp)
      clear hL
      refine wp_seq ?_
      refine chkz hF hVN (by decide) (by decide) (hz := (List.Mem.tail _ (List.Mem.tail _ (List.Mem.head _)))) (by decide) (fun a hF => ?_) hret
      refine wp_seq ?_
      refine wp_seq ?_
      refine setz hF hVN (by decide) (fun a hL => ?_)
      have hF := hL [(3, (.slice (some ⟨b, off, none⟩) us.length cap')), (15, .int .i64 (ki : Int)), (9, .int .i64 q), (16, .int .i64 ((0 : Nat) : Int))] (by simp)
      clear hL
      refine wp_block ?_
      refine wp_loop (fun a' w' => w = w' ∧ ∃ (zq : Int) (kj : Nat), kj ≤ us[ki].1.length ∧ Fr 638 20 a' [(3, (.slice (some ⟨b, off, none⟩) us.length cap')), (15, .int .i64 (ki : Int)), (9, .int .i64 zq), (16, .int .i64 (kj : Int))]) (fun a' _ => us[ki].1.length - (intOf (a'.eval (.tmp 16))).toNat) ⟨rfl, q, 0, Nat.zero_le _, hF⟩ ?_
      clear hF
      rintro a w' ⟨rfl, zq, kj, hkj, hF⟩
      have hm : (intOf (a.eval (.tmp 16))).toNat = kj := by rw [(hF.known (16, .int .i64 (kj : Int)) (List.Mem.tail _ (List.Mem.tail _ (List.Mem.tail _ (List.Mem.head _))))).2]; simp [intOf]
      rw [hm]
      clear hm
      refine wp_seq ?_
      refine loop1_0 hF hVN (by decide) (by decide) (hj := (List.Mem.tail _ (List.Mem.tail _ (List.Mem.tail _ (List.Mem.head _))))) (hx := (List.Mem.head _)) (hi := (List.Mem.tail _ (List.Mem.head _))) (hki := hlt) (hc1 := c0) (fun hltj a hF => ?_) (fun hgej a hF => ?_)
      · obtain ⟨bq, offq, rfl, _, _, d0, d1, vv, d2, gv⟩ := f0 kj hltj
        obtain ⟨aov, cpv, rfl, hnv, _, fv⟩ := gv
        refine wp_seq ?_
        refine wp_block ?_
        refine wp_seq ?_
        refine chk2_0_0 hF hVN (by decide) (by decide) (hx := (List.Mem.head _)) (hi := (List.Mem.tail _ (List.Mem.head _))) (hki := hlt) (hc1 := c0) (hj := (List.Mem.tail _ (List.Mem.tail _ (List.Mem.tail _ (List.Mem.head _))))) (hkj := hltj) (hc2 := d0) (by decide) (fun a hF => ?_) hret
        refine wp_seq ?_
        refine add2_0_0 hF hVN (by decide) (by decide) (hz := (List.Mem.tail _ (List.Mem.tail _ (List.Mem.head _)))) (hx := (List.Mem.head _)) (hi := (List.Mem.tail _ (List.Mem.head _))) (hki := hlt) (hc1 := c0) (hj := (List.Mem.tail _ (List.Mem.tail _ (List.Mem.tail _ (List.Mem.head _))))) (hkj := hltj) (hc2 := d0) (fun q a hL => ?_)
        have hF := hL [(3, (.slice (some ⟨b, off, none⟩) us.length cap')), (15, .int .i64 (ki : Int)), (16, .int .i64 (kj : Int)), (9, .int .i64 q)] (by simp)
        clear hL
        refine wp_seq ?_
        refine chkz hF hVN (by decide) (by decide) (hz := (List.Mem.tail _ (List.Mem.tail _ (List.Mem.tail _ (List.Mem.head _))))) (by decide) (fun a hF => ?_) hret
        refine wp_seq ?_
        refine chk2_0_1 hF hVN (by decide) (by decide) (hx := (List.Mem.head _)) (hi := (List.Mem.tail _ (List.Mem.head _))) (hki := hlt) (hc1 := c0) (hj := (List.Mem.tail _ (List.Mem.tail _ (List.Mem.head _)))) (hkj := hltj) (hc2 := d1) (by decide) (fun a hF => ?_) hret
        refine wp_seq ?_
        refine add2_0_1 hF hVN (by decide) (by decide) (hz := (List.Mem.tail _ (List.Mem.tail _ (List.Mem.tail _ (List.Mem.head _))))) (hx := (List.Mem.head _)) (hi := (List.Mem.tail _ (List.Mem.head _))) (hki := hlt) (hc1 := c0) (hj := (List.Mem.tail _ (List.Mem.tail _ (List.Mem.head _)))) (hkj := hltj) (hc2 := d1) (fun q a hL => ?_)
        have hF := hL [(3, (.slice (some ⟨b, off, none⟩) us.length cap')), (15, .int .i64 (ki : Int)), (16, .int .i64 (kj : Int)), (9, .int .i64 q)] (by simp)
        clear hL
        refine wp_seq ?_
        refine chkz hF hVN (by decide) (by decide) (hz := (List.Mem.tail _ (List.Mem.tail _ (List.Mem.tail _ (List.Mem.head _))))) (by decide) (fun a hF => ?_) hret
        refine wp_seq ?_
        refine chk2_0_2 hF hVN (by decide) (by decide) (hx := (List.Mem.head _)) (hi := (List.Mem.tail _ (List.Mem.head _))) (hki := hlt) (hc1 := c0) (hj := (List.Mem.tail _ (List.Mem.tail _ (List.Mem.head _)))) (hkj := hltj) (hc2 := d2) (by decide) (fun a hF => ?_) hret
        refine wp_seq ?_
        refine add2_0_2 hF hVN (by decide) (by decide) (hz := (List.Mem.tail _ (List.Mem.tail _ (List.Mem.tail _ (List.Mem.head _))))) (hx := (List.Mem.head _)) (hi := (List.Mem.tail _ (List.Mem.head _))) (hki := hlt) (hc1 := c0) (hj := (List.Mem.tail _ (List.Mem.tail _ (List.Mem.head _)))) (hkj := hltj) (hc2 := d2) (fun q a hL => ?_)
        have hF := hL [(3, (.slice (some ⟨b, off, none⟩) us.length cap')), (15, .int .i64 (ki : Int)), (16, .int .i64 (kj : Int)), (9, .int .i64 q)] (by simp)
        clear hL
        refine wp_seq ?_
        refine chkz hF hVN (by decide) (by decide) (hz := (List.Mem.tail _ (List.Mem.tail _ (List.Mem.tail _ (List.Mem.head _))))) (by decide) (fun a hF => ?_) hret
        refine wp_seq ?_
        refine setz hF hVN (by decide) (fun a hL => ?_)
        have hF := hL [(3, (.slice (some ⟨b, off, none⟩) us.length cap')), (15, .int .i64 (ki : Int)), (16, .int .i64 (kj : Int)), (9, .int .i64 q), (17, .int .i64 ((0 : Nat) : Int))] (by simp)
        clear hL
        refine wp_block ?_
        refine wp_loop (fun a' w' => w = w' ∧ ∃ (zq : Int) (kl : Nat), kl ≤ us[ki].1[kj].vals.length ∧ Fr 638 20 a' [(3, (.slice (some ⟨b, off, none⟩) us.length cap')), (15, .int .i64 (ki : Int)), (16, .int .i64 (kj : Int)), (9, .int .i64 zq), (17, .int .i64 (kl : Int))]) (fun a' _ => us[ki].1[kj].vals.length - (intOf (a'.eval (.tmp 17))).toNat) ⟨rfl, q, 0, Nat.zero_le _, hF⟩ ?_
        clear hF
        rintro a w' ⟨rfl, zq, kl, hkl, hF⟩
        have hm : (intOf (a.eval (.tmp 17))).toNat = kl := by rw [(hF.known (17, .int .i64 (kl : Int)) (List.Mem.tail _ (List.Mem.tail _ (List.Mem.tail _ (List.Mem.tail _ (List.Mem.head _)))))).2]; simp [intOf]
        rw [hm]
        clear hm
        refine wp_seq ?_
        refine loop2_0_2 hF hVN (by decide) (by decide) (hl := (List.Mem.tail _ (List.Mem.tail _ (List.Mem.tail _ (List.Mem.tail _ (List.Mem.head _)))))) (hx := (List.Mem.head _)) (hi := (List.Mem.tail _ (List.Mem.head _))) (hki := hlt) (hc1 := c0) (hj := (List.Mem.tail _ (List.Mem.tail _ (List.Mem.head _)))) (hkj := hltj) (hc2 := d2) (fun hltl a hF => ?_) (fun hgel a hF => ?_)
        · obtain ⟨bs, offs, rfl, _, _, ds⟩ := fv kl hltl
          refine wp_seq ?_
          refine wp_block ?_
          refine wp_seq ?_
          refine chk3_0 hF hVN (by decide) (by decide) (hx := (List.Mem.head _)) (hi := (List.Mem.tail _ (List.Mem.head _))) (hki := hlt) (hc1 := c0) (hj := (List.Mem.tail _ (List.Mem.tail _ (List.Mem.head _)))) (hkj := hltj) (hc2 := d2) (hl := (List.Mem.tail _ (List.Mem.tail _ (List.Mem.tail _ (List.Mem.tail _ (List.Mem.head _)))))) (hkl := hltl) (hc3 := ds) (by decide) (fun a hF => ?_) hret
          refine wp_seq ?_
          refine add3_0 hF hVN (by decide) (by decide) (hz := (List.Mem.tail _ (List.Mem.tail _ (List.Mem.tail _ (List.Mem.head _))))) (hx := (List.Mem.head _)) (hi := (List.Mem.tail _ (List.Mem.head _))) (hki := hlt) (hc1 := c0) (hj := (List.Mem.tail _ (List.Mem.tail _ (List.Mem.head _)))) (hkj := hltj) (hc2 := d2) (hl := (List.Mem.tail _ (List.Mem.tail _ (List.Mem.tail _ (List.Mem.tail _ (List.Mem.head _)))))) (hkl := hltl) (hc3 := ds) (fun q a hL => ?_)
          have hF := hL [(3, (.slice (some ⟨b, off, none⟩) us.length cap')), (15, .int .i64 (ki : Int)), (16, .int .i64 (kj : Int)), (17, .int .i64 (kl : Int)), (9, .int .i64 q)] (by simp)
          clear hL
          refine chkz hF hVN (by decide) (by decide) (hz := (List.Mem.tail _ (List.Mem.tail _ (List.Mem.tail _ (List.Mem.tail _ (List.Mem.head _)))))) (by decide) (fun a hF => ?_) hret
          refine inc hF hVN (by decide) (by decide) (hi := (List.Mem.tail _ (List.Mem.tail _ (List.Mem.tail _ (List.Mem.head _))))) (by omega) (fun a hL => ?_)
          refine ⟨⟨rfl, q, kl + 1, hltl, hL _ (by simp)⟩, ?_⟩
          rw [((hL [(17, .int .i64 ((kl + 1 : Nat) : Int))] (by simp)).known (17, _) (List.Mem.head _)).2]
          simp only [intOf, Int.toNat_natCast]
          omega
        · refine inBlock_exit ?_
          refine inc hF hVN (by decide) (by decide) (hi := (List.Mem.tail _ (List.Mem.tail _ (List.Mem.head _)))) (by omega) (fun a hL => ?_)
          refine ⟨⟨rfl, zq, kj + 1, hltj, hL _ (by simp)⟩, ?_⟩
          rw [((hL [(16, .int .i64 ((kj + 1 : Nat) : Int))] (by simp)).known (16, _) (List.Mem.head _)).2]
          simp only [intOf, Int.toNat_natCast]
          omega
      · refine inBlock_exit ?_
        clear hkj hgej
        replace hF := hF.weaken (L' := [(3, (.slice (some ⟨b, off, none⟩) us.length cap')), (15, .int .i64 (ki : Int)), (9, .int .i64 zq)]) (by simp)
        refine wp_seq ?_
        refine chk1_1 hF hVN (by decide) (by decide) (hx := (List.Mem.head _)) (hi := (List.Mem.tail _ (List.Mem.head _))) (hki := hlt) (hc1 := c1) (by decide) (fun a hF => ?_) hret
        refine wp_seq ?_
        refine add1_1 hF hVN (by decide) (by decide) (hz := (List.Mem.tail _ (List.Mem.tail _ (List.Mem.head _)))) (hx := (List.Mem.head _)) (hi := (List.Mem.tail _ (List.Mem.head _))) (hki := hlt) (hc1 := c1) (fun q a hL => ?_)
        have hF := hL [(3, (.slice (some ⟨b, off, none⟩) us.length cap')), (15, .int .i64 (ki : Int)), (9, .int .i64 q)] (by simp)
        clear hL
        refine wp_seq ?_
        refine chkz hF hVN (by decide) (by decide) (hz := (List.Mem.tail _ (List.Mem.tail _ (List.Mem.head _)))) (by decide) (fun a hF => ?_) hret
        refine wp_seq ?_
        refine setz hF hVN (by decide) (fun a hL => ?_)
        have hF := hL [(3, (.slice (some ⟨b, off, none⟩) us.length cap')), (15, .int .i64 (ki : Int)), (9, .int .i64 q), (18, .int .i64 ((0 : Nat) : Int))] (by simp)
        clear hL
        refine wp_block ?_
        refine wp_loop (fun a' w' => w = w' ∧ ∃ (zq : Int) (kj : Nat), kj ≤ us[ki].2.length ∧ Fr 638 20 a' [(3, (.slice (some ⟨b, off, none⟩) us.length cap')), (15, .int .i64 (ki : Int)), (9, .int .i64 zq), (18, .int .i64 (kj : Int))]) (fun a' _ => us[ki].2.length - (intOf (a'.eval (.tmp 18))).toNat) ⟨rfl, q, 0, Nat.zero_le _, hF⟩ ?_
        clear hF
        rintro a w' ⟨rfl, zq, kj, hkj, hF⟩
        have hm : (intOf (a.eval (.tmp 18))).toNat = kj := by rw [(hF.known (18, .int .i64 (kj : Int)) (List.Mem.tail _ (List.Mem.tail _ (List.Mem.tail _ (List.Mem.head _))))).2]; simp [intOf]
        rw [hm]
        clear hm
        refine wp_seq ?_
        refine loop1_1 hF hVN (by decide) (by decide) (hj := (List.Mem.tail _ (List.Mem.tail _ (List.Mem.tail _ (List.Mem.head _))))) (hx := (List.Mem.head _)) (hi := (List.Mem.tail _ (List.Mem.head _))) (hki := hlt) (hc1 := c1) (fun hltj a hF => ?_) (fun hgej a hF => ?_)
        · obtain ⟨bq, offq, rfl, _, _, d0, d1, vv, d2, gv⟩ := f1 kj hltj
          obtain ⟨aov, cpv, rfl, hnv, _, fv⟩ := gv
          refine wp_seq ?_
          refine wp_block ?_
          refine wp_seq ?_
          refine chk2_1_0 hF hVN (by decide) (by decide) (hx := (List.Mem.head _)) (hi := (List.Mem.tail _ (List.Mem.head _))) (hki := hlt) (hc1 := c1) (hj := (List.Mem.tail _ (List.Mem.tail _ (List.Mem.tail _ (List.Mem.head _))))) (hkj := hltj) (hc2 := d0) (by decide) (fun a hF => ?_) hret
          refine wp_seq ?_
          refine add2_1_0 hF hVN (by decide) (by decide) (hz := (List.Mem.tail _ (List.Mem.tail _ (List.Mem.head _)))) (hx := (List.Mem.head _)) (hi := (List.Mem.tail _ (List.Mem.head _))) (hki := hlt) (hc1 := c1) (hj := (List.Mem.tail _ (List.Mem.tail _ (List.Mem.tail _ (List.Mem.head _))))) (hkj := hltj) (hc2 := d0) (fun q a hL => ?_)
          have hF := hL [(3, (.slice (some ⟨b, off, none⟩) us.length cap')), (15, .int .i64 (ki : Int)), (18, .int .i64 (kj : Int)), (9, .int .i64 q)] (by simp)
          clear hL
          refine wp_seq ?_
          refine chkz hF hVN (by decide) (by decide) (hz := (List.Mem.tail _ (List.Mem.tail _ (List.Mem.tail _ (List.Mem.head _))))) (by decide) (fun a hF => ?_) hret
          refine wp_seq ?_
          refine chk2_1_1 hF hVN (by decide) (by decide) (hx := (List.Mem.head _)) (hi := (List.Mem.tail _ (List.Mem.head _))) (hki := hlt) (hc1 := c1) (hj := (List.Mem.tail _ (List.Mem.tail _ (List.Mem.head _)))) (hkj := hltj) (hc2 := d1) (by decide) (fun a hF => ?_) hret
          refine wp_seq ?_
          refine add2_1_1 hF hVN (by decide) (by decide) (hz := (List.Mem.tail _ (List.Mem.tail _ (List.Mem.tail _ (List.Mem.head _))))) (hx := (List.Mem.head _)) (hi := (List.Mem.tail _ (List.Mem.head _))) (hki := hlt) (hc1 := c1) (hj := (List.Mem.tail _ (List.Mem.tail _ (List.Mem.head _)))) (hkj := hltj) (hc2 := d1) (fun q a hL => ?_)
          have hF := hL [(3, (.slice (some ⟨b, off, none⟩) us.length cap')), (15, .int .i64 (ki : Int)), (18, .int .i64 (kj : Int)), (9, .int .i64 q)] (by simp)
          clear hL
          refine wp_seq ?_
          refine chkz hF hVN (by decide) (by decide) (hz := (List.Mem.tail _ (List.Mem.tail _ (List.Mem.tail _ (List.Mem.head _))))) (by decide) (fun a hF => ?_) hret
          refine wp_seq ?_
          refine chk2_1_2 hF hVN (by decide) (by decide) (hx := (List.Mem.head _)) (hi := (List.Mem.tail _ (List.Mem.head _))) (hki := hlt) (hc1 := c1) (hj := (List.Mem.tail _ (List.Mem.tail _ (List.Mem.head _)))) (hkj := hltj) (hc2 := d2) (by decide) (fun a hF => ?_) hret
          refine wp_seq ?_
          refine add2_1_2 hF hVN (by decide) (by decide) (hz := (List.Mem.tail _ (List.Mem.tail _ (List.Mem.tail _ (List.Mem.head _))))) (hx := (List.Mem.head _)) (hi := (List.Mem.tail _ (List.Mem.head _))) (hki := hlt) (hc1 := c1) (hj := (List.Mem.tail _ (List.Mem.tail _ (List.Mem.head _)))) (hkj := hltj) (hc2 := d2) (fun q a hL => ?_)
          have hF := hL [(3, (.slice (some ⟨b, off, none⟩) us.length cap')), (15, .int .i64 (ki : Int)), (18, .int .i64 (kj : Int)), (9, .int .i64 q)] (by simp)
          clear hL
          refine wp_seq ?_
          refine chkz hF hVN (by decide) (by decide) (hz := (List.Mem.tail _ (List.Mem.tail _ (List.Mem.tail _ (List.Mem.head _))))) (by decide) (fun a hF => ?_) hret
          refine wp_seq ?_
          refine setz hF hVN (by decide) (fun a hL => ?_)
          have hF := hL [(3, (.slice (some ⟨b, off, none⟩) us.length cap')), (15, .int .i64 (ki : Int)), (18, .int .i64 (kj : Int)), (9, .int .i64 q), (19, .int .i64 ((0 : Nat) : Int))] (by simp)
          clear hL
          refine wp_block ?_
          refine wp_loop (fun a' w' => w = w' ∧ ∃ (zq : Int) (kl : Nat), kl ≤ us[ki].2[kj].vals.length ∧ Fr 638 20 a' [(3, (.slice (some ⟨b, off, none⟩) us.length cap')), (15, .int .i64 (ki : Int)), (18, .int .i64 (kj : Int)), (9, .int .i64 zq), (19, .int .i64 (kl : Int))]) (fun a' _ => us[ki].2[kj].vals.length - (intOf (a'.eval (.tmp 19))).toNat) ⟨rfl, q, 0, Nat.zero_le _, hF⟩ ?_
          clear hF
          rintro a w' ⟨rfl, zq, kl, hkl, hF⟩
          have hm : (intOf (a.eval (.tmp 19))).toNat = kl := by rw [(hF.known (19, .int .i64 (kl : Int)) (List.Mem.tail _ (List.Mem.tail _ (List.Mem.tail _ (List.Mem.tail _ (List.Mem.head _)))))).2]; simp [intOf]
          rw [hm]
          clear hm
          refine wp_seq ?_
          refine loop2_1_2 hF hVN (by decide) (by decide) (hl := (List.Mem.tail _ (List.Mem.tail _ (List.Mem.tail _ (List.Mem.tail _ (List.Mem.head _)))))) (hx := (List.Mem.head _)) (hi := (List.Mem.tail _ (List.Mem.head _))) (hki := hlt) (hc1 := c1) (hj := (List.Mem.tail _ (List.Mem.tail _ (List.Mem.head _)))) (hkj := hltj) (hc2 := d2) (fun hltl a hF => ?_) (fun hgel a hF => ?_)
          · obtain ⟨bs, offs, rfl, _, _, ds⟩ := fv kl hltl
            refine wp_seq ?_
            refine wp_block ?_
            refine wp_seq ?_
            refine chk3_1 hF hVN (by decide) (by decide) (hx := (List.Mem.head _)) (hi := (List.Mem.tail _ (List.Mem.head _))) (hki := hlt) (hc1 := c1) (hj := (List.Mem.tail _ (List.Mem.tail _ (List.Mem.head _)))) (hkj := hltj) (hc2 := d2) (hl := (List.Mem.tail _ (List.Mem.tail _ (List.Mem.tail _ (List.Mem.tail _ (List.Mem.head _)))))) (hkl := hltl) (hc3 := ds) (by decide) (fun a hF => ?_) hret
            refine wp_seq ?_
            refine add3_1 hF hVN (by decide) (by decide) (hz := (List.Mem.tail _ (List.Mem.tail _ (List.Mem.tail _ (List.Mem.head _))))) (hx := (List.Mem.head _)) (hi := (List.Mem.tail _ (List.Mem.head _))) (hki := hlt) (hc1 := c1) (hj := (List.Mem.tail _ (List.Mem.tail _ (List.Mem.head _)))) (hkj := hltj) (hc2 := d2) (hl := (List.Mem.tail _ (List.Mem.tail _ (List.Mem.tail _ (List.Mem.tail _ (List.Mem.head _)))))) (hkl := hltl) (hc3 := ds) (fun q a hL => ?_)
            have hF := hL [(3, (.slice (some ⟨b, off, none⟩) us.length cap')), (15, .int .i64 (ki : Int)), (18, .int .i64 (kj : Int)), (19, .int .i64 (kl : Int)), (9, .int .i64 q)] (by simp)
            clear hL
            refine chkz hF hVN (by decide) (by decide) (hz := (List.Mem.tail _ (List.Mem.tail _ (List.Mem.tail _ (List.Mem.tail _ (List.Mem.head _)))))) (by decide) (fun a hF => ?_) hret
            refine inc hF hVN (by decide) (by decide) (hi := (List.Mem.tail _ (List.Mem.tail _ (List.Mem.tail _ (List.Mem.head _))))) (by omega) (fun a hL => ?_)
            refine ⟨⟨rfl, q, kl + 1, hltl, hL _ (by simp)⟩, ?_⟩
            rw [((hL [(19, .int .i64 ((kl + 1 : Nat) : Int))] (by simp)).known (19, _) (List.Mem.head _)).2]
            simp only [intOf, Int.toNat_natCast]
            omega
          · refine inBlock_exit ?_
            refine inc hF hVN (by decide) (by decide) (hi := (List.Mem.tail _ (List.Mem.tail _ (List.Mem.head _)))) (by omega) (fun a hL => ?_)
            refine ⟨⟨rfl, zq, kj + 1, hltj, hL _ (by simp)⟩, ?_⟩
            rw [((hL [(18, .int .i64 ((kj + 1 : Nat) : Int))] (by simp)).known (18, _) (List.Mem.head _)).2]
            simp only [intOf, Int.toNat_natCast]
            omega
        · refine inBlock_exit ?_
          refine inc hF hVN (by decide) (by decide) (hi := (List.Mem.tail _ (List.Mem.head _))) (by omega) (fun a hL => ?_)
          refine ⟨⟨rfl, zq, ki + 1, hlt, hL _ (by simp)⟩, ?_⟩
          rw [((hL [(15, .int .i64 ((ki + 1 : Nat) : Int))] (by simp)).known (15, _) (List.Mem.head _)).2]
          simp only [intOf, Int.toNat_natCast]
          omega
    · refine inBlock_exit ?_
      clear hki hge
      refine wp_seq ?_
      refine setz hF hVN (z := 8) (by decide) (fun a hL => ?_)
      have hF := hL [(8, .bool true)] (by simp)
      exact wp_ret (hretT _ hF.defers (hF.known (8, _) (List.Mem.head _)).2)
end Go.Proofs.Qxb6627374a
