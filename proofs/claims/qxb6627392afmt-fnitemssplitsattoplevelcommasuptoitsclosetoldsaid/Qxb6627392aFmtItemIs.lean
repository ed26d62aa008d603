/-
  itemIs: a cursor over the tokens that are wanted.
-/
import Derived.Test.Qxb6627392aFmtTokens
namespace Go.Proofs.Qxb6627392aFmt
open Go.RowKit

def RelI (w : World) (m : Nat) (k : Value) (wr : World) : Prop := ∃ p : Nat, p ≤ m ∧ k = .int .i64 p ∧ w.grownBy wr none

set_option maxHeartbeats 2000000 in
theorem itemIs_any (q bT o1 m cap1 b2 o2 cap2 : Nat) (us : List Tk) (hm : m ≤ 4096) (HM : Hid (m = us.length)) (w : World)
    (c0 : w.cell? ⟨q, 0, none⟩ = some (.slice (some ⟨bT, o1, none⟩) m cap1)) (c1 : w.cell? ⟨q, 1, none⟩ = some (.int .i64 0))
    (h1 : Hid (∀ j (h : j < us.length), TkAt w bT (o1 + j * 3) us[j])) (h2 : Hid (∀ j (h : j < us.length), TkAt w b2 (o2 + j * 3) us[j])) :
    Calls Tryf.prog 10 #[.pointer (some ⟨q, 0, none⟩), .slice (some ⟨b2, o2, none⟩) m cap2] w fun e w' => e = .returned (.bool true) ∧ w.grownBy w' none := by
  go_enter Tryf.func10, Tryf.ntmps10
  go_wp2_with fail
  refine (pos_any q 0 w c1).mono ?_
  rintro e w0 ⟨rfl, rfl⟩
  go_wp2_with fail
  refine (tokens_any q m cap1 _ w0 c0).mono ?_
  rintro e w1 ⟨rfl, rfl⟩
  clear c0 c1
  go_wp2_with fail
  go_loopw [6] (fun k wr => RelI w1 m k wr) (fun k _ => m - (intOf k).toNat)
  case atStart => exact ⟨0, Nat.zero_le _, rfl, grown_refl _ _⟩
  case round =>
    obtain ⟨p, hp, rfl, hg⟩ := hrel
    have HG : Hid (w1.grownBy wr none) := hg
    by_cases hlt : p < m
    · have hk1 : p < us.length := by rw [← HM.out]; exact hlt
      obtain ⟨c0, c1, c2⟩ := (h1.out p hk1).grown hg (by simp)
      obtain ⟨d0, d1, d2⟩ := (h2.out p hk1).grown hg (by simp)
      obtain ⟨t, ht⟩ : ∃ t, t = us[p] := ⟨_, rfl⟩
      rw [← ht] at c0 c1 c2 d0 d1 d2
      clear hg ht hk1
      go_wp2_with fail
      go_region_with (go_at_call 17; refine (sameTok_self t _).mono ?_; rintro e w2 ⟨rfl, g2⟩)
      all_goals
        have HG2 : Hid (w1.grownBy w2 none) := grown_trans (grown_drew HG.out) g2
        clear g2
        go_wp2_with fail
        go_roundw
        case rel => exact ⟨p + 1, by omega, by go_num, HG2.out⟩
        case measure => simp [intOf]; omega
    · go_wp2_with fail
      go_ret
      exact ⟨rfl, HG.out⟩
end Go.Proofs.Qxb6627392aFmt
