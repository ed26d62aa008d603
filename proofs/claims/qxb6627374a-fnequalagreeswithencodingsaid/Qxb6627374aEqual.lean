/-
  'Equal' AND WHAT IT CALLS: what they answer of the data in memory; they only read.
-/
import Derived.Test.Qxb6627374aRows
import Derived.Test.Qxb6627374aData
import Derived.WalkKit
import Derived.WalkSpells
import Derived.Deep.QuietTactic
import Derived.BigQuiet
namespace Go.Proofs.Qxb6627374a
open Go.RowKit

theorem ret_bool {a b : Bool} (h : a = b) : Ending.returned (.bool a) = .returned (.bool b) := by rw [h]

theorem seq_true {a b : ByteArray} (h : a = b) : (a.toList == b.toList) = true := by subst h; simp
theorem seq_false {a b : ByteArray} (h : a ≠ b) : (a.toList == b.toList) = false := by
  rw [ByteArray.toList_eq, ByteArray.toList_eq]
  refine beq_eq_false_iff_ne.2 fun e => h ?_
  cases a; cases b
  simp at e
  rw [e]

set_option maxHeartbeats 400000 in
theorem equal_key (b1 o1 b2 o2 : Nat) (k1 k2 : ByteArray) (hne : (k1.toList == k2.toList) = false) (w : World) (c1 : w.cell? ⟨b1, o1, none⟩ = some (.string k1)) (c2 : w.cell? ⟨b2, o2, none⟩ = some (.string k2)) :
    Calls Try.prog 20 #[.pointer (some ⟨b1, o1, none⟩), .pointer (some ⟨b2, o2, none⟩)] w fun e w' => e = .returned (.bool false) ∧ ∃ n, w' = w.drewN n := by
  go_enter Try.func20, Try.ntmps20
  go_wp2
  go_quiet (fail)
  go_wp2
  go_ret
  exact ⟨rfl, _, rfl⟩

set_option maxHeartbeats 400000 in
theorem equal_op (b1 o1 b2 o2 : Nat) (k1 k2 p1 p2 : ByteArray) (heq : (k1.toList == k2.toList) = true) (hne : (p1.toList == p2.toList) = false) (w : World) (c1 : w.cell? ⟨b1, o1, none⟩ = some (.string k1)) (c2 : w.cell? ⟨b2, o2, none⟩ = some (.string k2))
    (d1 : w.cell? ⟨b1, o1 + 1, none⟩ = some (.string p1)) (d2 : w.cell? ⟨b2, o2 + 1, none⟩ = some (.string p2)) :
    Calls Try.prog 20 #[.pointer (some ⟨b1, o1, none⟩), .pointer (some ⟨b2, o2, none⟩)] w fun e w' => e = .returned (.bool false) ∧ ∃ n, w' = w.drewN n := by
  go_enter Try.func20, Try.ntmps20
  go_wp2
  go_quiet (fail)
  go_wp2
  go_ret
  exact ⟨rfl, _, rfl⟩

set_option maxHeartbeats 400000 in
theorem equal_len (b1 o1 b2 o2 : Nat) (k1 k2 p1 p2 : ByteArray) (s1 s2 : Option Addr) (n1 n2 m1 m2 : Nat) (heq : (k1.toList == k2.toList) = true) (heq' : (p1.toList == p2.toList) = true) (hne : ((n1 : Int) == (n2 : Int)) = false) (w : World) (c1 : w.cell? ⟨b1, o1, none⟩ = some (.string k1)) (c2 : w.cell? ⟨b2, o2, none⟩ = some (.string k2))
    (d1 : w.cell? ⟨b1, o1 + 1, none⟩ = some (.string p1)) (d2 : w.cell? ⟨b2, o2 + 1, none⟩ = some (.string p2))
    (e1 : w.cell? ⟨b1, o1 + 2, none⟩ = some (.slice s1 n1 m1)) (e2 : w.cell? ⟨b2, o2 + 2, none⟩ = some (.slice s2 n2 m2)) :
    Calls Try.prog 20 #[.pointer (some ⟨b1, o1, none⟩), .pointer (some ⟨b2, o2, none⟩)] w fun e w' => e = .returned (.bool false) ∧ ∃ n, w' = w.drewN n := by
  go_enter Try.func20, Try.ntmps20
  go_wp2
  go_quiet (fail)
  go_wp2
  go_ret
  exact ⟨rfl, _, rfl⟩

/-! ### The answers, as plain functions -/
def sEq (a b : ByteArray) : Bool := a.toList == b.toList
theorem sEq_iff (a b : ByteArray) : sEq a b = true ↔ a = b := by
  constructor
  · intro h
    by_cases e : a = b
    · exact e
    · have := seq_false e; rw [sEq, this] at h; cases h
  · intro h; exact seq_true h
def listEq {α : Type} (f : α → α → Bool) : List α → List α → Bool
  | [], [] => true
  | a :: l, b :: m => f a b && listEq f l m
  | _, _ => false
theorem listEq_iff {α : Type} {f : α → α → Bool} (hf : ∀ a b, f a b = true ↔ a = b) : ∀ l m : List α, listEq f l m = true ↔ l = m
  | [], [] => by simp [listEq]
  | [], b :: m => by simp [listEq]
  | a :: l, [] => by simp [listEq]
  | a :: l, b :: m => by simp [listEq, hf, listEq_iff hf l m]
def rEq (r s : Req) : Bool := sEq r.key s.key && sEq r.op s.op && listEq sEq r.vals s.vals
theorem req_ext {r1 r2 : Req} (h1 : r1.key = r2.key) (h2 : r1.op = r2.op) (h3 : r1.vals = r2.vals) : r1 = r2 := by
  cases r1; cases r2; simp_all
theorem rEq_iff (r s : Req) : rEq r s = true ↔ r = s := by
  simp only [rEq, Bool.and_eq_true, sEq_iff, listEq_iff sEq_iff]
  exact ⟨fun ⟨⟨a, b⟩, c⟩ => req_ext a b c, fun h => by subst h; exact ⟨⟨rfl, rfl⟩, rfl⟩⟩
def rsEq (l m : List Req) : Bool := listEq rEq l m
theorem rsEq_iff (l m : List Req) : rsEq l m = true ↔ l = m := listEq_iff rEq_iff l m
def tEq (s t : Term) : Bool := rsEq s.1 t.1 && rsEq s.2 t.2
theorem tEq_iff (s t : Term) : tEq s t = true ↔ s = t := by
  simp only [tEq, Bool.and_eq_true, rsEq_iff]
  exact ⟨fun ⟨a, b⟩ => Prod.ext a b, fun h => by subst h; exact ⟨rfl, rfl⟩⟩
def tsEq (l m : List Term) : Bool := listEq tEq l m
theorem tsEq_iff (l m : List Term) : tsEq l m = true ↔ l = m := listEq_iff tEq_iff l m
theorem bool_of_iff {b c : Bool} {p : Prop} (h : b = true ↔ p) (k : c = true ↔ p) : b = c := by
  rw [Bool.eq_iff_iff]; exact h.trans k.symm

/-- Two lists agree below k. -/
def Agree {α : Type} (s1 s2 : List α) (k : Nat) : Prop := ∀ j, j < k → s1[j]? = s2[j]?
theorem agree_step {α : Type} {s1 s2 : List α} {k : Nat} {u1 u2 : α} (h : Agree s1 s2 k ∧ s1[k]? = some u1 ∧ s2[k]? = some u2) (he : u1 = u2) : Agree s1 s2 (k + 1) := by
  intro j hj
  by_cases e : j = k
  · subst e; rw [h.2.1, h.2.2, he]
  · exact h.1 j (by omega)
theorem agree_all {α : Type} {s1 s2 : List α} {k : Nat} (h : Agree s1 s2 k) (hl : s1.length = s2.length) (hk : s1.length ≤ k) : s1 = s2 := by
  apply List.ext_getElem?
  intro j
  by_cases hj : j < k
  · exact h j hj
  · rw [List.getElem?_eq_none (by omega), List.getElem?_eq_none (by omega)]

/-- The loop's relation of 'equal'. -/
def RelS (w : World) (s1 s2 : List ByteArray) (i : Value) (wr : World) : Prop := ∃ k n : Nat, k ≤ s1.length ∧ i = .int .i64 k ∧ Agree s1 s2 k ∧ wr = w.drewN n

set_option maxHeartbeats 1000000 in
theorem equal_loop (b1 o1 b2 o2 : Nat) (k1 k2 p1 p2 : ByteArray) (v1 v2 : Value) (s1 s2 : List ByteArray) (lo hi lo' hi' : Nat) (heq : (k1.toList == k2.toList) = true) (heq' : (p1.toList == p2.toList) = true) (hlen : s1.length = s2.length) (w : World) (c1 : w.cell? ⟨b1, o1, none⟩ = some (.string k1)) (c2 : w.cell? ⟨b2, o2, none⟩ = some (.string k2))
    (d1 : w.cell? ⟨b1, o1 + 1, none⟩ = some (.string p1)) (d2 : w.cell? ⟨b2, o2 + 1, none⟩ = some (.string p2))
    (e1 : w.cell? ⟨b1, o1 + 2, none⟩ = some v1) (e2 : w.cell? ⟨b2, o2 + 2, none⟩ = some v2) (f1 : Strs w lo hi v1 s1) (f2 : Strs w lo' hi' v2 s2) :
    Calls Try.prog 20 #[.pointer (some ⟨b1, o1, none⟩), .pointer (some ⟨b2, o2, none⟩)] w fun e w' => (∃ b : Bool, e = .returned (.bool b) ∧ (b = true ↔ s1 = s2)) ∧ ∃ n, w' = w.drewN n := by
  obtain ⟨a1, m1, rfl, hn⟩ := f1.len
  obtain ⟨a2, m2, rfl, _⟩ := f2.len
  have HL : Hid (s1.length = s2.length) := hlen
  obtain ⟨n, hn1⟩ : ∃ n, n = s1.length := ⟨_, rfl⟩
  rw [← hlen, ← hn1] at e2
  rw [← hn1] at e1 hn
  have HN : Hid (n = s1.length) := hn1
  clear hlen hn1
  go_enter Try.func20, Try.ntmps20
  go_wp2
  go_quiet (fail)
  go_wp2
  go_loopw [44] (fun i wr => RelS w s1 s2 i wr) (fun i _ => n - (intOf i).toNat)
  case atStart => exact ⟨0, _, Nat.zero_le _, rfl, fun j hj => absurd hj (Nat.not_lt_zero _), rfl⟩
  case round =>
    obtain ⟨k, q, hk, rfl, hag, rfl⟩ := hrel
    rw [← HN.out] at hk
    by_cases hlt : k < n
    · obtain ⟨x1, y1, z1, ev1, g1⟩ := f1.at (j := k) (by rw [← HN.out]; exact hlt)
      obtain ⟨x2, y2, z2, ev2, g2⟩ := f2.at (j := k) (by rw [← HL.out, ← HN.out]; exact hlt)
      have hk1 : k < s1.length := by rw [← HN.out]; exact hlt
      have hk2 : k < s2.length := by rw [← HL.out]; exact hk1
      have he1 : w.cell? ⟨b1, o1 + 2, none⟩ = some (.slice (some ⟨x1, y1, none⟩) n m1) := by
        rw [e1]; simp only [Value.slice.injEq] at ev1; rw [ev1.1]
      have he2 : w.cell? ⟨b2, o2 + 2, none⟩ = some (.slice (some ⟨x2, y2, none⟩) n m2) := by
        rw [e2]; simp only [Value.slice.injEq] at ev2; rw [ev2.1]
      obtain ⟨u1, hu1⟩ : ∃ u, u = s1[k] := ⟨_, rfl⟩
      obtain ⟨u2, hu2⟩ : ∃ u, u = s2[k] := ⟨_, rfl⟩
      rw [← hu1] at g1
      rw [← hu2] at g2
      have HA : Hid (Agree s1 s2 k ∧ s1[k]? = some u1 ∧ s2[k]? = some u2) := ⟨hag, by rw [hu1]; exact List.getElem?_eq_getElem hk1, by rw [hu2]; exact List.getElem?_eq_getElem hk2⟩
      clear e1 e2 ev1 ev2 hag hu1 hu2 hk1 hk2 c1 c2 d1 d2 heq heq'
      by_cases hu : u1 = u2
      · have ht := seq_true hu
        have HU : Hid (u1 = u2) := hu
        clear hu
        go_wp2
        go_quiet (fail)
        go_wp2
        go_roundw
        case rel => exact ⟨k + 1, _, by rw [← HN.out]; omega, by go_num, agree_step HA.out HU.out, rfl⟩
        case measure => simp [intOf]; omega
      · have ht := seq_false hu
        have HU : Hid (u1 ≠ u2) := hu
        clear hu
        go_wp2
        go_quiet (fail)
        go_wp2
        go_ret
        refine ⟨⟨false, rfl, ?_⟩, _, World.drewN_drewN _ _ _⟩
        obtain ⟨_, h1, h2⟩ := HA.out
        refine ⟨fun h => (by cases h), fun h => absurd ?_ HU.out⟩
        rw [h, h2] at h1
        simpa using h1.symm
    · go_wp2
      go_ret
      exact ⟨⟨true, rfl, by simp; exact agree_all hag HL.out (by rw [← HN.out]; omega)⟩, _, rfl⟩

/-- LabelRequirement.equal: true just where the two are the same. -/
theorem equal_any (b1 o1 b2 o2 : Nat) (r1 r2 : Req) (lo hi lo' hi' : Nat) (w : World) (h1 : ReqAt w lo hi b1 o1 r1) (h2 : ReqAt w lo' hi' b2 o2 r2) :
    Calls Try.prog 20 #[.pointer (some ⟨b1, o1, none⟩), .pointer (some ⟨b2, o2, none⟩)] w fun e w' => e = .returned (.bool (rEq r1 r2)) ∧ ∃ n, w' = w.drewN n := by
  obtain ⟨c1, d1, v1, e1, f1⟩ := h1
  obtain ⟨c2, d2, v2, e2, f2⟩ := h2
  by_cases hk : r1.key = r2.key
  · by_cases hp : r1.op = r2.op
    · by_cases hl : r1.vals.length = r2.vals.length
      · refine (equal_loop b1 o1 b2 o2 _ _ _ _ v1 v2 _ _ lo hi lo' hi' (seq_true hk) (seq_true hp) hl w c1 c2 d1 d2 e1 e2 f1 f2).mono ?_
        rintro e w' ⟨⟨b, rfl, hb⟩, hw⟩
        exact ⟨ret_bool (bool_of_iff hb ((rEq_iff r1 r2).trans ⟨fun h => by rw [h], fun h => req_ext hk hp h⟩)), hw⟩
      · obtain ⟨a1, m1, rfl, _⟩ := f1.len
        obtain ⟨a2, m2, rfl, _⟩ := f2.len
        refine (equal_len b1 o1 b2 o2 _ _ _ _ a1 a2 _ _ m1 m2 (seq_true hk) (seq_true hp) (by simp; omega) w c1 c2 d1 d2 e1 e2).mono ?_
        rintro e w' ⟨rfl, hw⟩
        exact ⟨ret_bool (bool_of_iff ⟨fun h => (by cases h), fun h => absurd (by rw [h]) hl⟩ (rEq_iff r1 r2)), hw⟩
    · refine (equal_op b1 o1 b2 o2 _ _ _ _ (seq_true hk) (seq_false hp) w c1 c2 d1 d2).mono ?_
      rintro e w' ⟨rfl, hw⟩
      exact ⟨ret_bool (bool_of_iff ⟨fun h => (by cases h), fun h => absurd (by rw [h]) hp⟩ (rEq_iff r1 r2)), hw⟩
  · refine (equal_key b1 o1 b2 o2 _ _ (seq_false hk) w c1 c2).mono ?_
    rintro e w' ⟨rfl, hw⟩
    exact ⟨ret_bool (bool_of_iff ⟨fun h => (by cases h), fun h => absurd (by rw [h]) hk⟩ (rEq_iff r1 r2)), hw⟩
end Go.Proofs.Qxb6627374a
