/-
  level, and the bound on lengths.
-/
import Derived.Test.Qxb6627392aFmtTokens
import Derived.Test.Qxb6627392aFmtPlain
namespace Go.Proofs.Qxb6627392aFmt
open Go.RowKit

theorem isSym_40 (t : Tk) (w : World) : Calls Tryf.prog 8 #[t.val, .string ⟨#[40]⟩] w fun e w' => e = .returned (.bool (symB t [40])) ∧ w.grownBy w' none := isSym_any t ⟨#[40]⟩ [40] (by rw [ByteArray.toList_eq]) w
theorem isSym_41 (t : Tk) (w : World) : Calls Tryf.prog 8 #[t.val, .string ⟨#[41]⟩] w fun e w' => e = .returned (.bool (symB t [41])) ∧ w.grownBy w' none := isSym_any t ⟨#[41]⟩ [41] (by rw [ByteArray.toList_eq]) w
theorem isSym_44 (t : Tk) (w : World) : Calls Tryf.prog 8 #[t.val, .string ⟨#[44]⟩] w fun e w' => e = .returned (.bool (symB t [44])) ∧ w.grownBy w' none := isSym_any t ⟨#[44]⟩ [44] (by rw [ByteArray.toList_eq]) w

theorem lev_next (ts : List Tk) {i p : Nat} (h : i ≤ p) : lev ts i (p + 1 - i) = lev ts i (p - i) + (if atB ts p [40] then 1 else 0) - (if atB ts p [41] then 1 else 0) := by
  rw [show p + 1 - i = (p - i) + 1 by omega, lev, show i + (p - i) = p by omega]

def RelL (w : World) (ts : List Tk) (i j : Nat) (n k : Value) (wr : World) : Prop := ∃ (p : Nat) (L : Int), i ≤ p ∧ p ≤ j ∧ k = .int .i64 p ∧ n = .int .i64 L ∧ Hid (L = lev ts i (p - i)) ∧ w.grownBy wr none

set_option maxHeartbeats 1000000 in
theorem level_any (ao : Option Addr) (n cap i j hi : Nat) (ts : List Tk) (hn : n ≤ 4096) (HN : Hid (n = ts.length)) (hij : i ≤ j) (hj : j ≤ n) (w : World) (h : Hid (TksAt w ao hi ts)) :
    Calls Tryf.prog 9 #[.slice ao n cap, .int .i64 i, .int .i64 j] w fun e w' => e = .returned (.int .i64 (lev ts i (j - i))) ∧ w.grownBy w' none := by
  go_enter Tryf.func9, Tryf.ntmps9
  go_wp2_with fail
  go_loopw [7, 8] (fun x k wr => RelL w ts i j x k wr) (fun _ k _ => j - (intOf k).toNat)
  case atStart => exact ⟨i, 0, Nat.le_refl _, hij, rfl, rfl, by show _ = _; rw [Nat.sub_self]; rfl, grown_refl _ _⟩
  case round =>
    obtain ⟨p, L, hip, hpj, rfl, rfl, HL, hg⟩ := hrel
    have HG : Hid (w.grownBy wr none) := hg
    have hb := lev_bounds ts i (p - i)
    rw [← HL.out] at hb
    by_cases hlt : p < j
    · have hk1 : p < ts.length := by rw [← HN.out]; omega
      obtain ⟨b, off, rfl, _, ht⟩ := h.out p hk1
      obtain ⟨t, ht'⟩ : ∃ t, t = ts[p] := ⟨_, rfl⟩
      have HA : Hid (ts[p]? = some t) := by show _ = _; rw [ht']; exact List.getElem?_eq_getElem hk1
      obtain ⟨c0, c1, c2⟩ := ht.grown hg (by simp)
      rw [← ht'] at c0 c1 c2
      have HS : Hid (lev ts i (p + 1 - i) = L + (if symB t [40] then 1 else 0) - (if symB t [41] then 1 else 0)) := by show _ = _; rw [lev_next ts hip, atB_of HA.out, atB_of HA.out, ← HL.out]
      have hpn : p < n := by omega
      clear hg ht ht' hk1
      go_wp2_with fail
      refine (isSym_40 t wr).mono ?_
      rintro e1 w1 ⟨rfl, g1⟩
      have d0 := g1.cell c0 (by simp)
      have d1 := g1.cell c1 (by simp)
      have d2 := g1.cell c2 (by simp)
      have HG1 : Hid (w.grownBy w1 none) := grown_trans HG.out g1
      clear g1 c0 c1 c2
      obtain ⟨b1, hb1⟩ : ∃ b1, b1 = symB t [40] := ⟨_, rfl⟩
      obtain ⟨b2, hb2⟩ : ∃ b2, b2 = symB t [41] := ⟨_, rfl⟩
      rw [← hb1, ← hb2] at HS
      rw [← hb1]
      clear hb1
      have HB2 : Hid (b2 = symB t [41]) := hb2
      clear hb2
      cases b1
      all_goals
        go_wp2_with fail
        refine (isSym_41 t w1).mono ?_
        rintro e2 w2 ⟨rfl, g2⟩
        have HG2 : Hid (w.grownBy w2 none) := grown_trans HG1.out g2
        rw [← HB2.out]
        clear HB2 g2 d0 d1 d2
        cases b2
        all_goals
          go_wp2_with fail
          go_roundw
          case rel => exact ⟨p + 1, _, by omega, by omega, by go_num, rfl, by show _ = _; rw [HS.out]; simp, HG2.out⟩
          case measure => simp [intOf]; omega
    · have hed : p = j := by omega
      subst hed
      go_wp2_with fail
      go_ret
      exact ⟨by rw [← HL.out]; rfl, HG.out⟩
end Go.Proofs.Qxb6627392aFmt
