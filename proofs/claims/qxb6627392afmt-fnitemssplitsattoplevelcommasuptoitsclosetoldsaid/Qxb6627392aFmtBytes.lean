/-
  The bound on lengths: it answers some bool, and only reads.
-/
import Derived.Test.Qxb6627392aFmtTokens
namespace Go.Proofs.Qxb6627392aFmt
open Go.RowKit

/-- No text below k is longer than 2^20. -/
def Short (ts : List Tk) (k : Nat) : Prop := ∀ j t, j < k → ts[j]? = some t → t.kind.size ≤ 1048576 ∧ t.text.size ≤ 1048576
theorem Short.step {ts : List Tk} {k : Nat} {u : Tk} (h : Short ts k) (hu : ts[k]? = some u) (h1 : u.kind.size ≤ 1048576) (h2 : u.text.size ≤ 1048576) : Short ts (k + 1) := by
  intro j t hj ht
  by_cases e : j = k
  · subst e
    rw [hu] at ht
    cases ht
    exact ⟨h1, h2⟩
  · exact h j t (by omega) ht
/-- It answers some bool; where that is true, the texts are short. -/
def SomeBool (ts : List Tk) (n : Nat) (e : Ending) : Prop := ∃ b, e = .returned (.bool b) ∧ (b = true → Short ts n)

def RelZ (ts : List Tk) (n : Nat) (z i : Value) : Prop := ∃ (k : Nat) (t : Int), k ≤ n ∧ i = .int .i64 k ∧ z = .int .i64 t ∧ 0 ≤ t ∧ t ≤ 1048576 ∧ Hid (Short ts k)

set_option maxRecDepth 20000 in
set_option maxHeartbeats 2000000 in
theorem bytes_any (ao : Option Addr) (n cap hi : Nat) (x : Int) (ts : List Tk) (hn : n ≤ 9223372036854775807) (HN : Hid (n = ts.length)) (w : World) (h : Hid (TksAt w ao hi ts)) :
    Calls Tryf.prog 4 #[.slice ao n cap, .int .i64 x] w fun e w' => SomeBool ts n e ∧ w' = w := by
  go_enter Tryf.func4, Tryf.ntmps4
  go_wp2
  · go_ret
    exact ⟨⟨_, rfl, fun h => by cases h⟩, rfl⟩
  · go_loop [5, 6] (fun z i => RelZ ts n z i) (fun _ i => n - (intOf i).toNat)
    case atStart => exact ⟨0, _, Nat.zero_le _, rfl, rfl, by omega, by omega, fun j t hj => absurd hj (by omega)⟩
    case round =>
      obtain ⟨k, t, hk, rfl, rfl, ht0, ht1, HSh⟩ := hrel
      by_cases hlt : k < n
      · have hk1 : k < ts.length := by rw [← HN.out]; exact hlt
        obtain ⟨b, off, rfl, _, c0, c1, c2⟩ := h.out k hk1
        obtain ⟨u, hu⟩ : ∃ u, u = ts[k] := ⟨_, rfl⟩
        have HK : Hid (ts[k]? = some u) := by show _ = _; rw [hu]; exact List.getElem?_eq_getElem hk1
        rw [← hu] at c0 c1 c2
        clear hu hk1 c2
        by_cases e1 : (1048576 : Int) < (u.kind.size : Int)
        · go_wp2
          go_ret
          exact ⟨⟨_, rfl, fun h => by cases h⟩, rfl⟩
        · by_cases e2 : (1048576 : Int) < t + (u.kind.size : Int)
          · go_wp2
            go_ret
            exact ⟨⟨_, rfl, fun h => by cases h⟩, rfl⟩
          · by_cases e3 : (1048576 : Int) < (u.text.size : Int)
            · go_wp2
              go_ret
              exact ⟨⟨_, rfl, fun h => by cases h⟩, rfl⟩
            · by_cases e4 : (1048576 : Int) < t + (u.kind.size : Int) + (u.text.size : Int)
              · go_wp2
                go_ret
                exact ⟨⟨_, rfl, fun h => by cases h⟩, rfl⟩
              · go_wp2
                go_round
                case rel => exact ⟨k + 1, _, by omega, by go_num, rfl, by omega, by omega, HSh.out.step HK.out (by omega) (by omega)⟩
                case measure => simp [intOf]; omega
      · go_wp2
        go_ret
        have hkn : k = n := by omega
        exact ⟨⟨_, rfl, fun _ => by rw [← hkn]; exact HSh.out⟩, rfl⟩
end Go.Proofs.Qxb6627392aFmt
