/-
  TOKENS IN MEMORY, AND THE SMALL FUNCTIONS: isSym, sameTok, Done, NewCursor, ZZCursorPos, ZZCursorTokens.
-/
import Derived.Test.Qxb6627392aFmtRows
import Derived.WalkKit
import Derived.WalkSpells
import Derived.WalkLawsBesides
import Derived.RegionTactic
import Derived.ChangeAlike
import Derived.BigRegion
import Derived.BigQuiet
import Derived.Deep.QuietTactic
import Derived.Deep.RegionWith
import Derived.Below
namespace Go.Proofs.Qxb6627392aFmt
open Go.RowKit

structure Tk where
  kind : ByteArray
  text : ByteArray
  line : Int

def Tk.val (t : Tk) : Value := .agg #[.string t.kind, .string t.text, .int .i64 t.line]

/-- One token: three cells. -/
def TkAt (w : World) (b o : Nat) (t : Tk) : Prop :=
  w.cell? ⟨b, o, none⟩ = some (.string t.kind) ∧ w.cell? ⟨b, o + 1, none⟩ = some (.string t.text) ∧ w.cell? ⟨b, o + 2, none⟩ = some (.int .i64 t.line)

/-- A token is the symbol s. -/
def symB (t : Tk) (s : List UInt8) : Bool := t.kind.toList == [115, 121, 109, 98, 111, 108] && t.text.toList == s

/-! ### What a call leaves as it was -/
theorem grown_refl (w : World) (r : Option Nat) : w.grownBy w r := ⟨rfl, rfl, rfl, Nat.le_refl _, fun _ _ _ => rfl⟩
theorem grown_trans {a b c : World} {r : Option Nat} (h : a.grownBy b r) (k : b.grownBy c r) : a.grownBy c r :=
  ⟨k.os.trans h.os, k.tape.trans h.tape, k.output.trans h.output, Nat.le_trans h.size k.size, fun i hi hr => (k.block i (Nat.lt_of_lt_of_le hi h.size) hr).trans (h.block i hi hr)⟩
theorem grown_any {a b : World} {r : Option Nat} (h : a.grownBy b none) : a.grownBy b r :=
  ⟨h.os, h.tape, h.output, h.size, fun i hi _ => h.block i hi (by simp)⟩
theorem grown_alloc (w : World) (o : Obj) (r : Option Nat) : w.grownBy (w.alloc o) r :=
  ⟨rfl, rfl, rfl, by rw [World.size_alloc]; omega, fun k hk _ => Below.heap_alloc w o k hk⟩
theorem grown_drewN (w : World) (n : Nat) (r : Option Nat) : w.grownBy (w.drewN n) r := ⟨rfl, rfl, rfl, Nat.le_refl _, fun _ _ _ => rfl⟩

theorem ret_bool {a b : Bool} (h : a = b) : Ending.returned (.bool a) = .returned (.bool b) := by rw [h]

set_option maxHeartbeats 400000 in
theorem isSym_any (t : Tk) (s : ByteArray) (l : List UInt8) (hs : s.toList = l) (w : World) :
    Calls Tryf.prog 8 #[t.val, .string s] w fun e w' => e = .returned (.bool (symB t l)) ∧ w.grownBy w' none := by
  subst hs
  unfold Tk.val
  by_cases h1 : (t.kind.toList == [115, 121, 109, 98, 111, 108]) = true
  · go_enter Tryf.func8, Tryf.ntmps8
    go_wp2
    go_ret
    exact ⟨ret_bool (by rw [symB, h1, Bool.true_and]), grown_alloc _ _ _⟩
  · have h1 : (t.kind.toList == [115, 121, 109, 98, 111, 108]) = false := by simpa using h1
    go_enter Tryf.func8, Tryf.ntmps8
    go_wp2
    go_ret
    exact ⟨ret_bool (by rw [symB, h1, Bool.false_and]), grown_alloc _ _ _⟩

set_option maxHeartbeats 400000 in
theorem sameTok_self (t : Tk) (w : World) :
    Calls Tryf.prog 17 #[t.val, t.val] w fun e w' => e = .returned (.bool true) ∧ w.grownBy w' none := by
  unfold Tk.val
  go_enter Tryf.func17, Tryf.ntmps17
  go_wp2
  go_ret
  exact ⟨rfl, grown_trans (grown_alloc _ _ _) (grown_alloc _ _ _)⟩

set_option maxHeartbeats 400000 in
theorem done_any (c p n cap : Nat) (ao : Option Addr) (w : World) (hn : n ≤ 4096) (hp : p ≤ n) (c0 : w.cell? ⟨c, 0, none⟩ = some (.slice ao n cap)) (c1 : w.cell? ⟨c, 1, none⟩ = some (.int .i64 p)) :
    Calls Tryf.prog 14 #[.pointer (some ⟨c, 0, none⟩)] w fun e w' => e = .returned (.bool (decide (p = n))) ∧ ∃ k, w' = w.drewN k := by
  by_cases h : p = n
  · subst h
    go_enter Tryf.func14, Tryf.ntmps14
    go_wp2
    go_quiet (fail)
    go_wp2
    go_ret
    exact ⟨ret_bool (by simp), _, rfl⟩
  · have hne : ((p : Int) == (n : Int)) = false := by simp; omega
    go_enter Tryf.func14, Tryf.ntmps14
    go_wp2
    go_quiet (fail)
    go_wp2
    go_ret
    exact ⟨ret_bool (by simp [h]), _, rfl⟩

set_option maxHeartbeats 400000 in
theorem newCursor_any (ao : Option Addr) (n cap : Nat) (w : World) :
    Calls Tryf.prog 11 #[.slice ao n cap] w fun e w' => e = .returned (.pointer (some ⟨w.heap.size, 0, none⟩)) ∧ w' = w.alloc (.cells #[.slice ao n cap, .int .i64 0] 45) := by
  go_enter Tryf.func11, Tryf.ntmps11
  go_wp2
  go_ret
  exact ⟨rfl, rfl⟩

set_option maxHeartbeats 400000 in
theorem pos_any (c : Nat) (p : Int) (w : World) (c1 : w.cell? ⟨c, 1, none⟩ = some (.int .i64 p)) :
    Calls Tryf.prog 7 #[.pointer (some ⟨c, 0, none⟩)] w fun e w' => e = .returned (.int .i64 p) ∧ w' = w := by
  go_enter Tryf.func7, Tryf.ntmps7
  go_wp2
  go_ret
  exact ⟨rfl, rfl⟩

set_option maxHeartbeats 400000 in
theorem tokens_any (c n cap : Nat) (ao : Option Addr) (w : World) (c0 : w.cell? ⟨c, 0, none⟩ = some (.slice ao n cap)) :
    Calls Tryf.prog 16 #[.pointer (some ⟨c, 0, none⟩)] w fun e w' => e = .returned (.slice ao n cap) ∧ w' = w := by
  go_enter Tryf.func16, Tryf.ntmps16
  go_wp2
  go_ret
  exact ⟨rfl, rfl⟩
end Go.Proofs.Qxb6627392aFmt
