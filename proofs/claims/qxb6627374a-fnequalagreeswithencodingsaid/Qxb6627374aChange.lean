/-
  'zzChange': a key changed, or a requirement added.
-/
import Derived.Test.Qxb6627374aAff
import Derived.Test.Qxb6627374aChangeLaws
namespace Go.Proofs.Qxb6627374a
open Go.RowKit

set_option maxHeartbeats 400000 in
theorem change_key (b n m : Nat) (q : Nat) (hq : q < n) (key s : ByteArray) (hk : key.size ≤ 1048576) (hs : s.size ≤ 1048576) (w : World) (c : w.cell? ⟨b, q * 3, none⟩ = some (.string key)) (hf : w.frozen? ⟨b, q * 3, none⟩ = false) :
    Calls Try.prog 13 #[.slice (some ⟨b, 0, none⟩) n m, .int .i64 q, .string s] w fun e w' => e = .returned (.slice (some ⟨b, 0, none⟩) n m) ∧ w' = w.setCell ⟨b, q * 3, none⟩ (.string (key ++ ⟨#[35]⟩ ++ s)) := by
  go_enter Try.func13, Try.ntmps13
  go_wp2
  go_ret
  exact ⟨rfl, rfl⟩

/-- The block in which an appended requirement first lies. -/
def addObj (s : ByteArray) : Obj := .cells #[.string s, .string ⟨#[]⟩, .slice none 0 0] 54

theorem three_cells (w : World) (x y z : Value) (t : TypeId) (j : Nat) (u : Value) (h : ([x, y, z] : List Value)[j]? = some u) : (w.alloc (.cells #[x, y, z] t)).cell? ((⟨w.heap.size, 0, none⟩ : Addr).add j) = some u := by
  rw [Addr.add_lit, Nat.zero_add, World.cell?_alloc_new]
  simpa using h
theorem two_cells (w : World) (x y : Value) (t : TypeId) (j : Nat) (u : Value) (h : ([x, y] : List Value)[j]? = some u) : (w.alloc (.cells #[x, y] t)).cell? ((⟨w.heap.size, 0, none⟩ : Addr).add j) = some u := by
  rw [Addr.add_lit, Nat.zero_add, World.cell?_alloc_new]
  simpa using h

set_option maxHeartbeats 1000000 in
theorem change_add_walk (ao : Option Addr) (n : Nat) (q : Int) (hq : q < 0 ∨ (n : Int) ≤ q) (hn : n ≤ 1048576) (s : ByteArray) (w : World) (olds : List Value) (hlo : olds.length = n * 3) (hnone : ao = none → n = 0 ∧ n = 0)
    (holds : ∀ b, ao = some b → ∀ j u, olds[j]? = some u → (w.alloc (addObj s)).cell? (b.add j) = some u) :
    Calls Try.prog 13 #[.slice ao n n, .int .i64 q, .string s] w fun e w' => ∃ v', e = .returned v' ∧ w'.ownsRow (w.heap.size + 1) 54 3 v' (n + 1) (olds ++ [.string s, .string ⟨#[]⟩, .slice none 0 0]) ∧ (w.alloc (addObj s)).grownBy w' none := by
  obtain ⟨i0, hi0, hz0, hz1, hz2⟩ := info_parts Try.info54
  unfold addObj at holds
  rcases hq with hq | hq
  all_goals
    go_enter Try.func13, Try.ntmps13
    go_wp2_with (at_builtin; refine wpList_append_grows _ rfl (.tmp 15) (.tmp 18) 37 rfl 54 i0 _ 3 56 Try.underlying37 hi0 hz0 hz1 hz2 rfl (by decide) ao n n olds rfl hnone hlo holds ⟨w.heap.size, 0, none⟩ 1 1 [.string s, .string ⟨#[]⟩, .slice none 0 0] rfl rfl (three_cells w _ _ _ 54) (by simp [Value.oneCell']) (by omega) (by unfold maxLen; omega) (by omega) ?_)
    intro v' w' hown hgrow
    go_wp2
    go_ret
    exact ⟨_, rfl, hown, hgrow⟩

/-- A requirement is added: what is handed back reads as the list and one more. -/
theorem change_add (v : Value) (rs : List Req) (lo hi : Nat) (q : Int) (hq : q < 0 ∨ (rs.length : Int) ≤ q) (s : ByteArray) (w : World) (hhi : hi ≤ w.heap.size) (hlo : lo ≤ w.heap.size) (h : ReqsNew w lo hi v rs) :
    Calls Try.prog 13 #[v, .int .i64 q, .string s] w fun e w' => ∃ a n c, e = .returned (.slice (some a) n c) ∧ Below w.heap.size w w' ∧ Reqs w' lo w'.heap.size (.slice (some a) n c) (rs ++ [⟨s, ⟨#[]⟩, []⟩]) := by
  have hr := h.reqs
  obtain ⟨ao, rfl, hl, h0, ha, hc⟩ := h
  have hr' : Reqs (w.alloc (addObj s)) lo hi (.slice ao rs.length rs.length) rs := hr.carry (fun b o _ h2 => World.cell?_alloc_lt _ _ _ (by show b < _; omega)) (Nat.le_refl _) (Nat.le_refl _)
  obtain ⟨b0, hb0⟩ : ∃ b0 : Nat, ∀ a, ao = some a → a = ⟨b0, 0, none⟩ := by
    cases ao with
    | none => exact ⟨0, fun a e => (by cases e)⟩
    | some a =>
      obtain ⟨b, e, _⟩ := ha a rfl
      exact ⟨b, fun a' e' => by rw [← e]; simpa using e'.symm⟩
  have hrow : ∀ a, ao = some a → ∀ o, o < rs.length * 3 → ∃ u, (w.alloc (addObj s)).cell? ⟨b0, 0 + o, none⟩ = some u := by
    intro a e o ho
    obtain ⟨_, _, e1, _, _, hc'⟩ := hr'
    simp only [Value.slice.injEq] at e1
    obtain ⟨rfl, _⟩ := e1
    obtain ⟨b, off, e2, _, _, x1, x2, u, x3, _⟩ := hc' (o / 3) (by omega)
    have e3 := hb0 _ e2
    simp only [Addr.mk.injEq] at e3
    obtain ⟨rfl, rfl, _⟩ := e3
    rcases (show o % 3 = 0 ∨ o % 3 = 1 ∨ o % 3 = 2 by omega) with e | e | e
    · exact ⟨_, by rw [show 0 + o = 0 + o / 3 * 3 by omega]; exact x1⟩
    · exact ⟨_, by rw [show 0 + o = 0 + o / 3 * 3 + 1 by omega]; exact x2⟩
    · exact ⟨_, by rw [show 0 + o = 0 + o / 3 * 3 + 2 by omega]; exact x3⟩
  refine (change_add_walk ao rs.length q hq hl s w (cellList (w.alloc (addObj s)) b0 0 (rs.length * 3)) (cellList_length _ _ _ _) (fun e => by rw [h0 e]; exact ⟨rfl, rfl⟩) (fun b e j u hu => ?_)).mono ?_
  · rw [hb0 b e, Addr.add_lit]
    exact cellList_cell (hrow b e) j u hu
  · rintro e w' ⟨v', rfl, hown, hgrow⟩
    have hs1 : (w.alloc (addObj s)).heap.size = w.heap.size + 1 := by simp
    have hbel : Below (w.heap.size + 1) (w.alloc (addObj s)) w' := (Below.refl _ _).grown hgrow (by simp) (fun k e => by cases e)
    have hR := hr'.append rfl hb0 hbel (by omega) (by omega) hown hl
    obtain ⟨g, cap, rfl, _⟩ := owns_cells hown (by omega)
    exact ⟨_, _, _, rfl, ((Below.refl _ _).alloc (Nat.le_refl _) _).trans (hbel.mono (by omega)), hR⟩
end Go.Proofs.Qxb6627374a
