/-
  THE LAW, walked.
-/
import Derived.Test.Qxb6627392aFmtItems
import Derived.Test.Qxb6627392aFmtLevel
import Derived.Test.Qxb6627392aFmtItemIs
import Derived.Test.Qxb6627392aFmtBytes
namespace Go.Proofs.Qxb6627392aFmt
open Go.RowKit

theorem below_of {w w' : World} (h : w.grownBy w' none) : Below w.heap.size w w' := ⟨h.os, h.tape, h.output, h.size, fun k hk => h.block k hk (by simp)⟩

theorem TksAt.mono {w : World} {ao : Option Addr} {hi hi' : Nat} {ts : List Tk} (h : TksAt w ao hi ts) (k : hi ≤ hi') : TksAt w ao hi' ts := fun j hj => by
  obtain ⟨b, off, e, hb, ht⟩ := h j hj
  exact ⟨b, off, e, by omega, ht⟩
theorem eql_slice_nil {P : Program} (w : World) (t e : TypeId) (a : Option Addr) (l c : Nat) (h : P.underlying t = some (.slice e)) : (binOp .eql t (.slice a l c) (.slice none 0 0)).run P w = .ok (.bool a.isNone) w := by
  have h : ∀ d : Nat, (Op.equalIn (d + 1) t (.slice a l c) (.slice none 0 0)).run P w = .ok a.isNone w := fun d => by
    cases a <;> simp [Op.equalIn, run_underlying h]
  simp only [binOp]
  simp [Op.equal, Op.maxDepth, h 9999]
theorem not_close {ts : List Tk} {i p : Nat} {t : Tk} (hip : i ≤ p) (ht : ts[p]? = some t) (hs : symB t [41] = true) (hc : closeB ts i (p - i) = false) : (lev ts i (p - i) == 0) = false := by
  unfold closeB at hc
  rw [show i + (p - i) = p by omega, atB_of ht, hs, Bool.true_and] at hc
  simpa using hc

def RelA (w : World) (n i : Nat) (r j : Value) (wr : World) : Prop := ∃ p : Nat, i ≤ p ∧ p ≤ n ∧ r = .int .i64 (-1) ∧ j = .int .i64 p ∧ w.grownBy wr none

theorem is_close {ts : List Tk} {i p : Nat} {t : Tk} (hip : i ≤ p) (ht : ts[p]? = some t) (hc : closeB ts i (p - i) = true) : symB t [41] = true ∧ lev ts i (p - i) = 0 := by
  unfold closeB at hc
  rw [show i + (p - i) = p by omega, atB_of ht, Bool.and_eq_true, decide_eq_true_iff] at hc
  exact hc
theorem cut_is {ts : List Tk} {i p : Nat} {t : Tk} (hip : i ≤ p) (ht : ts[p]? = some t) : cutB ts i (p - i) = (symB t [44] && decide (lev ts i (p - i) = 0)) := by
  unfold cutB
  rw [show i + (p - i) = p by omega, atB_of ht]
theorem after_cut {ts : List Tk} {i p : Nat} (hip : i ≤ p) (hc : cutB ts i (p - i) = true) : from_ ts i (p + 1 - i) = p + 1 ∧ (pieces ts i (p + 1 - i)).length = (pieces ts i (p - i)).length + 1 := by
  rw [show p + 1 - i = p - i + 1 by omega, from_, pieces, hc]
  simp only [if_true, List.length_append, List.length_singleton, and_true]
  omega
theorem after_plain {ts : List Tk} {i p : Nat} (hip : i ≤ p) (hc : cutB ts i (p - i) = false) : from_ ts i (p + 1 - i) = from_ ts i (p - i) ∧ (pieces ts i (p + 1 - i)).length = (pieces ts i (p - i)).length := by
  rw [show p + 1 - i = p - i + 1 by omega, from_, pieces, hc]
  simp
theorem pieces_mono (ts : List Tk) {i p R : Nat} (h : p ≤ R) : (pieces ts i (p - i)).length ≤ (pieces ts i (R - i)).length := by
  have := (pieces_prefix ts i (p - i) (R - i - (p - i))).length_le
  rw [show p - i + (R - i - (p - i)) = R - i by omega] at this
  exact this

/-- The item that was cut, asked for. -/
theorem item_ok {W : World} {g bT b off n cap f p m hi : Nat} {ts : List Tk} {L : List (Nat × Nat)} (hL : L[m]? = some (f, p)) (hfp : f ≤ p) (hpn : p ≤ n) (hn : n ≤ 4096) (HN : n = ts.length)
    (got : Got W g bT n L) (own : Own W bT ts) (tk : TksAt W (some ⟨b, off, none⟩) hi ts) :
    ∃ q, W.cell? ⟨g, m, none⟩ = some (.pointer (some ⟨q, 0, none⟩)) ∧ ∀ W', W.grownBy W' none → Calls Tryf.prog 10 #[.pointer (some ⟨q, 0, none⟩), .slice (some ⟨b, off + f * 3, none⟩) (p - f) (cap - f)] W' fun e w' => e = .returned (.bool true) ∧ W'.grownBy w' none := by
  obtain ⟨q, h1, h2, h3⟩ := got m f p hL
  refine ⟨q, h1, fun W' gr => ?_⟩
  have hl : ((ts.drop f).take (p - f)).length = p - f := by rw [List.length_take, List.length_drop, ← HN]; omega
  refine itemIs_any q bT (f * 3) (p - f) (n - f) b (off + f * 3) (cap - f) ((ts.drop f).take (p - f)) (by omega) hl.symm W' (gr.cell h2 (by simp)) (gr.cell h3 (by simp)) ?_ ?_
  · intro j hj
    have hj' : f + j < ts.length := by rw [hl] at hj; omega
    have e : ((ts.drop f).take (p - f))[j] = ts[f + j] := by rw [List.getElem_take, List.getElem_drop]
    rw [e, show f * 3 + j * 3 = 0 + (f + j) * 3 by omega]
    exact (own (f + j) hj').grown gr (by simp)
  · intro j hj
    have hj' : f + j < ts.length := by rw [hl] at hj; omega
    have e : ((ts.drop f).take (p - f))[j] = ts[f + j] := by rw [List.getElem_take, List.getElem_drop]
    rw [e, show off + f * 3 + j * 3 = off + (f + j) * 3 by omega]
    obtain ⟨b', off', e', _, ht⟩ := tk (f + j) hj'
    cases e'
    exact ht.grown gr (by simp)

/-- 'toks[f:p]'. -/
theorem slice_toks (b off n cap f p : Nat) (hfp : f ≤ p) (hlt : p < n) (hc : n ≤ cap) (w : World) :
    (Instr.slice 22 (.slice (some ⟨b, off, none⟩) n cap) (some (.int .i64 (f : Int))) (some (.int .i64 (p : Int))) none).run Tryf.prog w = .ok (.slice (some ⟨b, off + f * 3, none⟩) (p - f) (cap - f)) w := by
  have b6 : ¬ cap = f := by omega
  have b1 : (0 : Int) ≤ (f : Int) := by omega
  have b2 : (f : Int) ≤ (p : Int) := by omega
  have b3 : (p : Int) ≤ (cap : Int) := by omega
  go_simp

def RelB (w : World) (n i R : Nat) (r j : Value) (wr : World) : Prop := ∃ p : Nat, i ≤ p ∧ p ≤ n ∧ j = .int .i64 p ∧ w.grownBy wr none ∧ ((r = .int .i64 (-1) ∧ p ≤ R) ∨ (r = .int .i64 R ∧ p = R + 1))
def RelC3 (w : World) (ts : List Tk) (i R M : Nat) (a k j : Value) (wr : World) : Prop := ∃ p f m : Nat, i ≤ p ∧ f ≤ p ∧ p ≤ R + 1 ∧ m ≤ M ∧ j = .int .i64 p ∧ a = .int .i64 f ∧ k = .int .i64 m ∧ w.grownBy wr none ∧
  ((p ≤ R ∧ m < M ∧ Hid (f = from_ ts i (p - i) ∧ m = (pieces ts i (p - i)).length)) ∨ (p = R + 1 ∧ m = M))

def RelS (w : World) (n : Nat) (z i : Value) (wr : World) : Prop := ∃ (k : Nat) (t : Int) (q : Nat), k ≤ n ∧ i = .int .i64 k ∧ z = .int .i64 t ∧ 0 ≤ t ∧ t ≤ 1048576 ∧ wr = w.drewN q

set_option maxRecDepth 20000 in
set_option maxHeartbeats 8000000 in
theorem law_any (ao : Option Addr) (n cap : Nat) (x : Int) (ts : List Tk) (hn : n ≤ 9223372036854775807) (hcap : n ≤ cap) (HN : Hid (n = ts.length)) (w : World) (h : Hid (TksAt w ao w.heap.size ts)) :
    Calls Tryf.prog 3 #[.slice ao n cap, .int .i64 x] w fun e w' => e = .returned (.bool true) ∧ Below w.heap.size w w' := by
  go_enter Tryf.func3, Tryf.ntmps3
  go_wp2_with fail
  refine (bytes_any ao n cap w.heap.size x ts hn HN w h).mono ?_
  rintro e w0 ⟨⟨b0, rfl, hs0⟩, rfl⟩
  cases b0
  · go_wp2_with fail
    go_ret
    exact ⟨rfl, Below.refl _ _⟩
  · have HSh : Hid (Short ts n) := hs0 rfl
    clear hs0
    by_cases hbig : (4096 : Int) < (n : Int)
    · go_wp2_with fail
      go_ret
      exact ⟨rfl, Below.refl _ _⟩
    · go_wp2_with fail
      go_loopw [5, 6] (fun z i wr => RelS w0 n z i wr) (fun _ i _ => n - (intOf i).toNat)
      case atStart => exact ⟨0, 0, 0, Nat.zero_le _, rfl, rfl, by omega, by omega, rfl⟩
      case round =>
        obtain ⟨k, t, q, hk, rfl, rfl, ht0, ht1, hwr⟩ := hrel
        have HW : Hid (wr = w0.drewN q) := hwr
        by_cases hlt : k < n
        · have hk1 : k < ts.length := by rw [← HN.out]; exact hlt
          obtain ⟨b, off, rfl, _, c0, c1, c2⟩ := h.out k hk1
          obtain ⟨u, hu⟩ : ∃ u, u = ts[k] := ⟨_, rfl⟩
          have HK : Hid (ts[k]? = some u) := by show _ = _; rw [hu]; exact List.getElem?_eq_getElem hk1
          obtain ⟨e1, e2⟩ := HSh.out k u hlt HK.out
          have d0 : wr.cell? ⟨b, off + k * 3, none⟩ = some (.string u.kind) := by rw [hwr, hu]; exact c0
          have d1 : wr.cell? ⟨b, off + k * 3 + 1, none⟩ = some (.string u.text) := by rw [hwr, hu]; exact c1
          clear hu hk1 c0 c1 c2 hwr HK
          by_cases e4 : (1048576 : Int) < t + (40 + (u.kind.size : Int) + (u.text.size : Int))
          · go_wp2_with fail
            go_quiet (fail)
            go_wp2_with fail
            go_ret
            exact ⟨rfl, by rw [HW.out]; exact below_of (grown_trans (grown_drewN _ _ _) (grown_drewN _ _ _))⟩
          · go_wp2_with fail
            go_quiet (fail)
            go_wp2_with fail
            go_roundw
            case rel => exact ⟨k + 1, _, _, by omega, by go_num, rfl, by omega, by omega, by rw [HW.out]; exact World.drewN_drewN _ _ _⟩
            case measure => simp [intOf]; omega
        · clear hwr
          have HG : Hid (w0.grownBy wr none) := by show World.grownBy _ _ _; rw [HW.out]; exact grown_drewN _ _ _
          by_cases hx0 : x < 0
          · go_wp2_with fail
            go_ret
            exact ⟨rfl, below_of HG.out⟩
          by_cases hx1 : (n : Int) < x
          · go_wp2_with fail
            go_ret
            exact ⟨rfl, below_of HG.out⟩
          obtain ⟨i, rfl⟩ := Int.eq_ofNat_of_zero_le (show 0 ≤ x by omega)
          have hin : i ≤ n := by omega
          have hn' : n ≤ 4096 := by omega
          have HTk : Hid (TksAt wr ao wr.heap.size ts) := (h.out.grown HG.out).mono HG.out.size
          obtain ⟨wo, rfl⟩ : ∃ wo : World, wo = wr := ⟨wr, rfl⟩
          clear HW ht0 ht1 HSh hbig
          go_wp2_with fail
          clear hlt hk hx0 hx1 hn
          refine (cursorAt_any ao n cap i ts hn' HN hin wo HTk).mono ?_
          rintro e1 w1 ⟨bT, c, rfl, HC⟩
          go_wp2_with fail
          refine (items_any c bT n i ts hn' HN hin w1 HC.out.2.1 HC.out.2.2.2.1 HC.out.2.2.2.2).mono ?_
          rintro e2 w2 (⟨et, ev, rfl, g2, u2, none2⟩ | ⟨d, g, cp, rfl, g2, u2, hd, hcl, hno, got⟩)
          · have HG2 : Hid (w0.grownBy w2 none) := grown_trans HG.out (grown_new HC.out.2.2.1 g2 (fun k e => by cases e; have := HC.out.1; have := HC.out.2.1; omega))
            have HNo : Hid (∀ d, d < n - i → closeB ts i d = false) := none2
            have HPl : Hid (w2.cell? ⟨c, 1, none⟩ = some (.int .i64 n)) := u2.place
            clear g2 u2 none2 HC HTk HG
            go_wp2_with fail
            refine (pos_any c n w2 HPl.out).mono ?_
            rintro e3 w3 ⟨rfl, rfl⟩
            have hq := fun w => eql_slice_nil w 28 _ none 0 0 Tryf.underlying28
            go_wp2_with fail
            go_loopw [11, 12] (fun r j wr => RelA w0 n i r j wr) (fun _ j _ => n - (intOf j).toNat)
            case atStart => exact ⟨i, Nat.le_refl _, hin, rfl, rfl, HG2.out⟩
            case round =>
              obtain ⟨p, hip, hpn, rfl, rfl, hg⟩ := hrel
              have HGr : Hid (w0.grownBy wr none) := hg
              clear hg
              by_cases hlt : p < n
              · have hk1 : p < ts.length := by rw [← HN.out]; exact hlt
                obtain ⟨b, off, rfl, _, ht⟩ := h.out p hk1
                obtain ⟨t, ht'⟩ : ∃ t, t = ts[p] := ⟨_, rfl⟩
                have HA : Hid (ts[p]? = some t) := by show _ = _; rw [ht']; exact List.getElem?_eq_getElem hk1
                obtain ⟨c0, c1, c2⟩ := ht.grown HGr.out (by simp)
                rw [← ht'] at c0 c1 c2
                clear ht ht' hk1
                go_wp2_with fail
                refine (isSym_41 t wr).mono ?_
                rintro e4 w4 ⟨rfl, g4⟩
                have HG4 : Hid (w0.grownBy w4 none) := grown_trans HGr.out g4
                clear g4 c0 c1 c2
                obtain ⟨b4, hb4⟩ : ∃ b4, b4 = symB t [41] := ⟨_, rfl⟩
                have HB4 : Hid (b4 = symB t [41]) := hb4
                rw [← hb4]
                clear hb4
                cases b4
                · go_wp2_with fail
                  go_roundw
                  case rel => exact ⟨p + 1, by omega, by omega, rfl, by go_num, HG4.out⟩
                  case measure => simp [intOf]; omega
                · have hL := not_close hip HA.out HB4.out.symm (HNo.out (p - i) (by omega))
                  go_wp2_with fail
                  refine (level_any _ n cap i p w0.heap.size ts hn' HN hip hpn w4 (h.out.grown HG4.out)).mono ?_
                  rintro e5 w5 ⟨rfl, g5⟩
                  have HG5 : Hid (w0.grownBy w5 none) := grown_trans HG4.out g5
                  clear g5
                  obtain ⟨L, hLL⟩ : ∃ L, L = lev ts i (p - i) := ⟨_, rfl⟩
                  rw [← hLL] at hL ⊢
                  clear hLL
                  go_wp2_with fail
                  go_roundw
                  case rel => exact ⟨p + 1, by omega, by omega, rfl, by go_num, HG5.out⟩
                  case measure => simp [intOf]; omega
              · have hpn' : p = n := by omega
                subst hpn'
                go_wp2_with fail
                go_ret
                exact ⟨rfl, below_of HGr.out⟩
          · obtain ⟨R, hR⟩ : ∃ R, R = i + d := ⟨_, rfl⟩
            obtain ⟨M, hM⟩ : ∃ M, M = (pieces ts i d).length + 1 := ⟨_, rfl⟩
            have HG2 : Hid (w0.grownBy w2 none) := grown_trans HG.out (grown_new HC.out.2.2.1 g2 (fun k e => by cases e; have := HC.out.1; have := HC.out.2.1; omega))
            have HO2 : Hid (Own w2 bT ts) := HC.out.2.2.2.2.grown g2 (fun e => by cases e; have := HC.out.2.1; omega)
            have hdR : d = R - i := by omega
            have HCl : Hid (closeB ts i (R - i) = true ∧ ∀ e, e < R - i → closeB ts i e = false) := by rw [← hdR]; exact ⟨hcl, hno⟩
            have HGt : Hid (Got w2 g bT n (pieces ts i (R - i) ++ [(from_ ts i (R - i), R)])) := by rw [← hdR, hR]; exact got
            have HPl : Hid (w2.cell? ⟨c, 1, none⟩ = some (.int .i64 (R + 1 : Nat))) := by rw [hR]; exact u2.place
            have HM : Hid (M = (pieces ts i (R - i)).length + 1) := by rw [← hdR]; exact hM
            have hM4 : M ≤ 4097 := by have := pieces_length ts i (R - i); have := HM.out; omega
            have hRn : R < n := by omega
            have hiR : i ≤ R := by omega
            rw [← hM]
            clear g2 u2 HC HTk HG hcl hno got hd hR hM hdR
            go_wp2_with fail
            refine (pos_any c (R + 1 : Nat) w2 HPl.out).mono ?_
            rintro e3 w3 ⟨rfl, hw3⟩
            subst w3
            have h2 : Hid (TksAt w2 ao w0.heap.size ts) := h.out.grown HG2.out
            have hR0 : ¬ ((R : Int) < 0) := by omega
            go_wp2_with fail
            go_loopw [11, 12] (fun r j wr => RelB w2 n i R r j wr) (fun _ j _ => n - (intOf j).toNat)
            case atStart => exact ⟨i, Nat.le_refl _, hin, rfl, grown_refl _ _, .inl ⟨rfl, hiR⟩⟩
            case round =>
              obtain ⟨p, hip, hpn, rfl, hg, hcase⟩ := hrel
              have HGr : Hid (w2.grownBy wr none) := hg
              clear hg
              rcases hcase with ⟨rfl, hpR⟩ | ⟨rfl, rfl⟩
              · have hlt : p < n := by omega
                have hk1 : p < ts.length := by rw [← HN.out]; exact hlt
                obtain ⟨b, off, rfl, _, ht⟩ := h2.out p hk1
                obtain ⟨t, ht'⟩ : ∃ t, t = ts[p] := ⟨_, rfl⟩
                have HA : Hid (ts[p]? = some t) := by show _ = _; rw [ht']; exact List.getElem?_eq_getElem hk1
                obtain ⟨c0, c1, c2⟩ := ht.grown HGr.out (by simp)
                rw [← ht'] at c0 c1 c2
                clear ht ht' hk1
                go_wp2_with fail
                refine (isSym_41 t wr).mono ?_
                rintro e4 w4 ⟨rfl, g4⟩
                have HG4 : Hid (w2.grownBy w4 none) := grown_trans HGr.out g4
                clear g4 c0 c1 c2
                obtain ⟨b4, hb4⟩ : ∃ b4, b4 = symB t [41] := ⟨_, rfl⟩
                have HB4 : Hid (b4 = symB t [41]) := hb4
                rw [← hb4]
                clear hb4
                cases b4
                · have hpR' : p < R := by
                    rcases Nat.lt_or_ge p R with h | h
                    · exact h
                    · have e : p = R := by omega
                      have := (is_close hip HA.out (by rw [e]; exact HCl.out.1)).1
                      rw [← HB4.out] at this
                      cases this
                  go_wp2_with fail
                  go_roundw
                  case rel => exact ⟨p + 1, by omega, by omega, by go_num, HG4.out, .inl ⟨rfl, by omega⟩⟩
                  case measure => simp [intOf]; omega
                · go_wp2_with fail
                  refine (level_any _ n cap i p w0.heap.size ts hn' HN hip hpn w4 (h2.out.grown HG4.out)).mono ?_
                  rintro e5 w5 ⟨rfl, g5⟩
                  have HG5 : Hid (w2.grownBy w5 none) := grown_trans HG4.out g5
                  clear g5
                  rcases Nat.lt_or_ge p R with hpR' | hpR'
                  · have hL := not_close hip HA.out HB4.out.symm (HCl.out.2 (p - i) (by omega))
                    obtain ⟨L, hLL⟩ : ∃ L, L = lev ts i (p - i) := ⟨_, rfl⟩
                    rw [← hLL] at hL ⊢
                    clear hLL
                    go_wp2_with fail
                    go_roundw
                    case rel => exact ⟨p + 1, by omega, by omega, by go_num, HG5.out, .inl ⟨rfl, by omega⟩⟩
                    case measure => simp [intOf]; omega
                  · obtain rfl : p = R := by omega
                    rw [(is_close hip HA.out HCl.out.1).2]
                    go_wp2_with fail
                    go_roundw
                    case rel => exact ⟨p + 1, by omega, by omega, by go_num, HG5.out, .inr ⟨rfl, rfl⟩⟩
                    case measure => simp [intOf]; omega
              · obtain ⟨wx, rfl⟩ : ∃ wx : World, wx = wr := ⟨wr, rfl⟩
                have hp1 : (R + 1 < n) ∨ ¬ (R + 1 < n) := by omega
                have HP : Hid (pieces ts i (R - i) <+: pieces ts i (R - i) ++ [(from_ ts i (R - i), R)]) := List.prefix_append _ _
                rcases hp1 with hp1 | hp1
                all_goals
                  go_wp2_with fail
                  go_loopw [13, 14, 15] (fun a k j wr => RelC3 wx ts i R M a k j wr) (fun _ _ j _ => R + 1 - (intOf j).toNat)
                  case atStart => exact ⟨i, i, 0, Nat.le_refl _, Nat.le_refl _, by omega, by omega, rfl, rfl, rfl, grown_refl _ _, .inl ⟨hiR, by have := HM.out; omega, by rw [Nat.sub_self]; exact ⟨rfl, rfl⟩⟩⟩
                  case round =>
                    obtain ⟨p, f, m, hip, hfp, hpR, hmM, rfl, rfl, rfl, hg, hcase⟩ := hrel
                    have HG3 : Hid (w2.grownBy wr none) := grown_trans HGr.out hg
                    have HGx : Hid (wx.grownBy wr none) := hg
                    clear hg
                    rcases hcase with ⟨hpR', hmM', HF⟩ | ⟨rfl, rfl⟩
                    · have hlt : p < n := by omega
                      have hk1 : p < ts.length := by rw [← HN.out]; exact hlt
                      obtain ⟨b, off, rfl, _, ht⟩ := h2.out p hk1
                      have hsl := slice_toks b off n cap f p hfp hlt hcap
                      rcases Nat.lt_or_ge p R with hpr | hpr
                      · obtain ⟨t, ht'⟩ : ∃ t, t = ts[p] := ⟨_, rfl⟩
                        have HA : Hid (ts[p]? = some t) := by show _ = _; rw [ht']; exact List.getElem?_eq_getElem hk1
                        obtain ⟨c0, c1, c2⟩ := ht.grown HG3.out (by simp)
                        rw [← ht'] at c0 c1 c2
                        have hne : ((p : Int) == (R : Int)) = false := by simp; omega
                        have hge : decide ((M : Int) ≤ (m : Int)) = false := by simp; omega
                        have hgeB : decide (M ≤ m) = false := by simp; omega
                        have hgeC : ¬ M ≤ m := by omega
                        have hgeD : ¬ ((M : Int) ≤ (m : Int)) := by omega
                        clear ht ht' hk1
                        go_wp2_with fail
                        refine (isSym_44 t wr).mono ?_
                        rintro e4 w4 ⟨rfl, g4⟩
                        have HG4 : Hid (w2.grownBy w4 none) := grown_trans HG3.out g4
                        have HX4 : Hid (wx.grownBy w4 none) := grown_trans HGx.out g4
                        clear g4 c0 c1 c2
                        obtain ⟨b4, hb4⟩ : ∃ b4, b4 = symB t [44] := ⟨_, rfl⟩
                        have HB4 : Hid (b4 = symB t [44]) := hb4
                        rw [← hb4]
                        clear hb4
                        cases b4
                        · have HPn := after_plain hip (by rw [cut_is hip HA.out, ← HB4.out]; rfl)
                          have HPN : Hid (from_ ts i (p + 1 - i) = from_ ts i (p - i) ∧ (pieces ts i (p + 1 - i)).length = (pieces ts i (p - i)).length) := HPn
                          clear HPn hsl
                          go_wp2_with fail
                          go_roundw
                          case rel => exact ⟨p + 1, f, m, by omega, by omega, by omega, hmM, by go_num, rfl, rfl, HX4.out, .inl ⟨by omega, hmM', by rw [HPN.out.1]; exact HF.out.1, by rw [HPN.out.2]; exact HF.out.2⟩⟩
                          case measure => simp [intOf]; omega
                        · go_wp2_with fail
                          refine (level_any _ n cap i p w0.heap.size ts hn' HN hip (Nat.le_of_lt hlt) w4 (h2.out.grown HG4.out)).mono ?_
                          rintro e5 w5 ⟨rfl, g5⟩
                          have HG5 : Hid (w2.grownBy w5 none) := grown_trans HG4.out g5
                          have HX5 : Hid (wx.grownBy w5 none) := grown_trans HX4.out g5
                          clear g5
                          by_cases hL : lev ts i (p - i) = 0
                          · have HCu : Hid (cutB ts i (p - i) = true) := by show _ = _; rw [cut_is hip HA.out, ← HB4.out, decide_eq_true hL]; rfl
                            have hLm : (pieces ts i (R - i) ++ [(from_ ts i (R - i), R)])[m]? = some (f, p) := by
                              have := pieces_get HP.out (show p - i < R - i by omega) HCu.out
                              rw [← HF.out.1, ← HF.out.2, show i + (p - i) = p by omega] at this
                              exact this
                            obtain ⟨q, y0, HIt⟩ := item_ok (cap := cap) hLm hfp (Nat.le_of_lt hlt) hn' HN.out (HGt.out.grown HG5.out) (HO2.out.grown HG5.out (by simp)) (h2.out.grown HG5.out)
                            have HAc : Hid (from_ ts i (p + 1 - i) = p + 1 ∧ (pieces ts i (p + 1 - i)).length = (pieces ts i (p - i)).length + 1) := after_cut hip HCu.out
                            have HMo : Hid ((pieces ts i (p + 1 - i)).length ≤ (pieces ts i (R - i)).length) := pieces_mono ts (by omega)
                            rw [hL]
                            clear hL hLm
                            go_wp2_with fail
                            go_region_held3 (fun w' => w'.cell? ⟨g, m, none⟩ = some (.pointer (some ⟨q, 0, none⟩)))
                              (first | exact y0 | exact (grown_drew (grown_refl _ none)).cell y0 (by simp) | exact g6.cell ((grown_drew (grown_refl _ none)).cell y0 (by simp)) (by simp))
                              (first | (go_at_call 10; refine (HIt _ (grown_drew (grown_refl _ _))).mono ?_; rintro e6 w6 ⟨rfl, g6⟩) | fail)
                            all_goals
                              have HX6 : Hid (wx.grownBy w6 none) := grown_trans (grown_drew HX5.out) g6
                              clear g6 HIt y0 hsl
                              go_wp2_with fail
                              go_roundw
                              case rel => exact ⟨p + 1, p + 1, m + 1, by omega, by omega, by omega, by omega, by go_num, by go_num, by go_num, HX6.out, .inl ⟨by omega, by have := HAc.out.2; have := HMo.out; have := HM.out; have := HF.out.2; omega, HAc.out.1.symm, by rw [HAc.out.2, ← HF.out.2]⟩⟩
                              case measure => simp [intOf]; omega
                          · have HPn := after_plain hip (by rw [cut_is hip HA.out, decide_eq_false hL, Bool.and_false])
                            have HPN : Hid (from_ ts i (p + 1 - i) = from_ ts i (p - i) ∧ (pieces ts i (p + 1 - i)).length = (pieces ts i (p - i)).length) := HPn
                            clear HPn hsl
                            have hL0 : (lev ts i (p - i) == 0) = false := by simpa using hL
                            obtain ⟨L, hLL⟩ : ∃ L, L = lev ts i (p - i) := ⟨_, rfl⟩
                            rw [← hLL] at hL0 ⊢
                            clear hLL hL
                            go_wp2_with fail
                            go_roundw
                            case rel => exact ⟨p + 1, f, m, by omega, by omega, by omega, hmM, by go_num, rfl, rfl, HX5.out, .inl ⟨by omega, hmM', by rw [HPN.out.1]; exact HF.out.1, by rw [HPN.out.2]; exact HF.out.2⟩⟩
                            case measure => simp [intOf]; omega
                      · obtain rfl : p = R := by omega
                        have hLm : (pieces ts i (p - i) ++ [(from_ ts i (p - i), p)])[m]? = some (f, p) := by
                          obtain ⟨q1, q2⟩ := HF.out
                          rw [q2, List.getElem?_append_right (Nat.le_refl _), ← q1]; simp
                        have hge : decide ((M : Int) ≤ (m : Int)) = false := by simp; omega
                        have hgeB : decide (M ≤ m) = false := by simp; omega
                        have hgeC : ¬ M ≤ m := by omega
                        have hgeD : ¬ ((M : Int) ≤ (m : Int)) := by omega
                        obtain ⟨q, y0, HIt⟩ := item_ok (cap := cap) hLm hfp (Nat.le_of_lt hlt) hn' HN.out (HGt.out.grown HG3.out) (HO2.out.grown HG3.out (by simp)) (h2.out.grown HG3.out)
                        clear hLm ht hk1
                        go_wp2_with fail
                        go_region_held3 (fun w' => w'.cell? ⟨g, m, none⟩ = some (.pointer (some ⟨q, 0, none⟩)))
                          (first | exact y0 | exact (grown_drew (grown_refl _ none)).cell y0 (by simp) | exact g6.cell ((grown_drew (grown_refl _ none)).cell y0 (by simp)) (by simp))
                          (first | (go_at_call 10; refine (HIt _ (grown_drew (grown_refl _ _))).mono ?_; rintro e6 w6 ⟨rfl, g6⟩) | fail)
                        all_goals
                          have HX6 : Hid (wx.grownBy w6 none) := grown_trans (grown_drew HGx.out) g6
                          clear g6 HIt y0 hsl
                          go_wp2_with fail
                          go_roundw
                          case rel => exact ⟨p + 1, p + 1, m + 1, by omega, by omega, by omega, by omega, by go_num, by go_num, by go_num, HX6.out, .inr ⟨rfl, by have := HM.out; have := HF.out.2; omega⟩⟩
                          case measure => simp [intOf] <;> omega
                    · go_wp2_with fail
                      go_ret
                      exact ⟨rfl, below_of (grown_trans HG2.out HG3.out)⟩
end Go.Proofs.Qxb6627392aFmt
