/-
  THE STATEMENTS OF 'zzBytes_..', ONE LAW A SHAPE (written by program from a table of shapes; each is proved operation by operation).
-/
import Derived.Test.Qxb6627374aAbs
namespace Go.Proofs.Qxb6627374a
open Go.RowKit

/-- What is known of a frame's variables. -/
structure Fr (N V : Nat) (a : Act) (L : List (Nat × Value)) : Prop where
  defers : a.defers = []
  size : a.tmps.size = N
  known : ∀ p, p ∈ L → p.1 < V ∧ a.eval (.tmp p.1) = p.2
theorem Fr.weaken {N V : Nat} {a : Act} {L L' : List (Nat × Value)} (h : Fr N V a L) (hL : ∀ p, p ∈ L' → p ∈ L) : Fr N V a L' := ⟨h.defers, h.size, fun p hp => h.known p (hL p hp)⟩
theorem Fr.of_sees {N V : Nat} {a a' : Act} {L : List (Nat × Value)} {ρ : Nat → Value} (h : Fr N V a L) (hs : Sees N a' ρ) (hVN : V ≤ N) (hρ : ∀ t, t < V → ρ t = a.eval (.tmp t)) : Fr N V a' L :=
  ⟨hs.defers, hs.size, fun p hp => ⟨(h.known p hp).1, by rw [hs.slot p.1 (by have := (h.known p hp).1; omega), hρ p.1 (h.known p hp).1]; exact (h.known p hp).2⟩⟩
theorem Fr.assigned {N V z : Nat} {a a' : Act} {v : Value} {L L' : List (Nat × Value)} {ρ : Nat → Value} (h : Fr N V a L) (hs : Sees N a' (upd ρ z v)) (hVN : V ≤ N) (hz : z < V) (hρ : ∀ t, t < V → ρ t = a.eval (.tmp t)) (hL : ∀ p, p ∈ L' → p = (z, v) ∨ (p ∈ L ∧ p.1 ≠ z)) : Fr N V a' L' := by
  refine ⟨hs.defers, hs.size, fun p hp => ?_⟩
  rcases hL p hp with rfl | ⟨h1, h2⟩
  · exact ⟨hz, by rw [hs.slot z (by omega), upd_same]⟩
  · exact ⟨(h.known p h1).1, by rw [hs.slot p.1 (by have := (h.known p h1).1; omega), upd_other _ _ h2, hρ p.1 (h.known p h1).1]; exact (h.known p h1).2⟩

theorem chk0 {Q : Exit → Act → World → Prop} {a : Act} {w : World} {N V : Nat} {L : List (Nat × Value)} (hF : Fr N V a L) (hVN : V ≤ N) {s x id : Nat} {t0 t1 t2 : TypeId} {p0 p1 p2 : String} {e0 e1 e2 : Array Edge} (hsV : V ≤ s) (hsN : s + 3 ≤ N) {ao : Option Addr} {n c : Nat} (hx : (x, .slice ao n c) ∈ L) {r id2 : Nat} {ta : TypeId} {pa : String} {ea : Array Edge} (hr : r < V)
    (hno : ∀ a', Fr N V a' L → Q .normal a' w) (hyes : ∀ a', a'.defers = [] → a'.eval (.tmp r) = .bool false → Q .ret a' w) :
    Code.wp Try.prog ((Code.region id #[⟨some (s), .move (.tmp x), t0, p0, e0, none⟩, ⟨some (s + 1), .call { callee := .builtin .len, args := #[.tmp (s)], argTypes := #[22] }, t1, p1, e1, none⟩, ⟨some (s + 2), .binOp .gtr 3 (.tmp (s + 1)) (.const (.int .i64 1048576)) 3, t2, p2, e2, none⟩] false).seq (Code.cond (.tmp (s + 2)) ((Code.region id2 #[⟨some r, .assign (.const (.bool false)), ta, pa, ea, none⟩] false).seq Code.ret) Code.skip)) Q a w := by
  refine wp_seq (wp_region_list ?_)
  have s0 := Sees.self hF.defers hF.size
  have k_x := hF.known _ hx
  refine op_move s0 (by have := k_x.1; omega) fun a1 s1 => ?_
  refine op_len22 s1 (by omega) (by have hlt := k_x.1; rw [upd_same]; exact k_x.2) fun a2 s2 => ?_
  refine op_gtr s2 (by omega) (by rw [upd_same]) fun a3 s3 => ?_
  refine wpList_nil ?_
  refine wp_cond_split (by rw [s3.slot (s + 2) (by omega), upd_same]) (fun _ => ?_) (fun _ => ?_)
  · refine wp_seq (wp_region_list ?_)
    refine op_const s3 fun b1 u1 => ?_
    exact wpList_nil (wp_ret (hyes _ u1.defers (by rw [u1.slot r (by omega), upd_same])))
  · exact wp_skip (hno _ (hF.of_sees s3 hVN (fun t ht => by rw [upd_other _ _ (by omega), upd_other _ _ (by omega), upd_other _ _ (by omega)])))
theorem add0 {Q : Exit → Act → World → Prop} {a : Act} {w : World} {N V : Nat} {L : List (Nat × Value)} (hF : Fr N V a L) (hVN : V ≤ N) {s x z id : Nat} {t0 t1 t2 t3 : TypeId} {p0 p1 p2 p3 : String} {e0 e1 e2 e3 : Array Edge} (hsV : V ≤ s) (hsN : s + 4 ≤ N) {zq : Int} (hz : (z, .int .i64 zq) ∈ L) {ao : Option Addr} {n c : Nat} (hx : (x, .slice ao n c) ∈ L) {tz : TypeId} {pz : String} {ez : Array Edge}
    (hK : ∀ (q : Int) (a' : Act), (∀ L', (∀ p, p ∈ L' → p = (z, .int .i64 q) ∨ (p ∈ L ∧ p.1 ≠ z)) → Fr N V a' L') → Q .normal a' w) :
    Code.wp Try.prog (Code.region id #[⟨some (s), .move (.tmp z), t0, p0, e0, none⟩, ⟨some (s + 1), .move (.tmp x), t1, p1, e1, none⟩, ⟨some (s + 2), .call { callee := .builtin .len, args := #[.tmp (s + 1)], argTypes := #[22] }, t2, p2, e2, none⟩, ⟨some (s + 3), .binOp .add 3 (.tmp (s)) (.tmp (s + 2)) 3, t3, p3, e3, none⟩, ⟨some z, .assign (.tmp (s + 3)), tz, pz, ez, none⟩] false) Q a w := by
  refine wp_region_list ?_
  have s0 := Sees.self hF.defers hF.size
  have k_x := hF.known _ hx
  have k_z := hF.known _ hz
  refine op_move s0 (by have := k_z.1; omega) fun a1 s1 => ?_
  refine op_move s1 (by have := k_x.1; omega) fun a2 s2 => ?_
  refine op_len22 s2 (by omega) (by have hlt := k_x.1; rw [upd_same]; rw [upd_other _ _ (by omega)]; exact k_x.2) fun a3 s3 => ?_
  refine op_add s3 (by omega) (by omega) (by have hlt := k_z.1; rw [upd_other _ _ (by omega), upd_other _ _ (by omega), upd_same]; exact k_z.2) (by rw [upd_same]) fun a4 s4 => ?_
  refine op_assign s4 (by omega) fun b1 u1 => ?_
  rw [upd_same] at u1
  exact wpList_nil (hK _ b1 fun L' hL' => hF.assigned u1 hVN k_z.1 (fun t ht => by rw [upd_other _ _ (by omega), upd_other _ _ (by omega), upd_other _ _ (by omega), upd_other _ _ (by omega)]) hL')
theorem chk0s {Q : Exit → Act → World → Prop} {a : Act} {w : World} {N V : Nat} {L : List (Nat × Value)} (hF : Fr N V a L) (hVN : V ≤ N) {s x id : Nat} {t0 t1 t2 : TypeId} {p0 p1 p2 : String} {e0 e1 e2 : Array Edge} (hsV : V ≤ s) (hsN : s + 3 ≤ N) {bs : ByteArray} (hx : (x, .string bs) ∈ L) {r id2 : Nat} {ta : TypeId} {pa : String} {ea : Array Edge} (hr : r < V)
    (hno : ∀ a', Fr N V a' L → Q .normal a' w) (hyes : ∀ a', a'.defers = [] → a'.eval (.tmp r) = .bool false → Q .ret a' w) :
    Code.wp Try.prog ((Code.region id #[⟨some (s), .move (.tmp x), t0, p0, e0, none⟩, ⟨some (s + 1), .call { callee := .builtin .len, args := #[.tmp (s)], argTypes := #[9] }, t1, p1, e1, none⟩, ⟨some (s + 2), .binOp .gtr 3 (.tmp (s + 1)) (.const (.int .i64 1048576)) 3, t2, p2, e2, none⟩] false).seq (Code.cond (.tmp (s + 2)) ((Code.region id2 #[⟨some r, .assign (.const (.bool false)), ta, pa, ea, none⟩] false).seq Code.ret) Code.skip)) Q a w := by
  refine wp_seq (wp_region_list ?_)
  have s0 := Sees.self hF.defers hF.size
  have k_x := hF.known _ hx
  refine op_move s0 (by have := k_x.1; omega) fun a1 s1 => ?_
  refine op_len9 s1 (by omega) (by have hlt := k_x.1; rw [upd_same]; exact k_x.2) fun a2 s2 => ?_
  refine op_gtr s2 (by omega) (by rw [upd_same]) fun a3 s3 => ?_
  refine wpList_nil ?_
  refine wp_cond_split (by rw [s3.slot (s + 2) (by omega), upd_same]) (fun _ => ?_) (fun _ => ?_)
  · refine wp_seq (wp_region_list ?_)
    refine op_const s3 fun b1 u1 => ?_
    exact wpList_nil (wp_ret (hyes _ u1.defers (by rw [u1.slot r (by omega), upd_same])))
  · exact wp_skip (hno _ (hF.of_sees s3 hVN (fun t ht => by rw [upd_other _ _ (by omega), upd_other _ _ (by omega), upd_other _ _ (by omega)])))
theorem add0s {Q : Exit → Act → World → Prop} {a : Act} {w : World} {N V : Nat} {L : List (Nat × Value)} (hF : Fr N V a L) (hVN : V ≤ N) {s x z id : Nat} {t0 t1 t2 t3 : TypeId} {p0 p1 p2 p3 : String} {e0 e1 e2 e3 : Array Edge} (hsV : V ≤ s) (hsN : s + 4 ≤ N) {zq : Int} (hz : (z, .int .i64 zq) ∈ L) {bs : ByteArray} (hx : (x, .string bs) ∈ L) {tz : TypeId} {pz : String} {ez : Array Edge}
    (hK : ∀ (q : Int) (a' : Act), (∀ L', (∀ p, p ∈ L' → p = (z, .int .i64 q) ∨ (p ∈ L ∧ p.1 ≠ z)) → Fr N V a' L') → Q .normal a' w) :
    Code.wp Try.prog (Code.region id #[⟨some (s), .move (.tmp z), t0, p0, e0, none⟩, ⟨some (s + 1), .move (.tmp x), t1, p1, e1, none⟩, ⟨some (s + 2), .call { callee := .builtin .len, args := #[.tmp (s + 1)], argTypes := #[9] }, t2, p2, e2, none⟩, ⟨some (s + 3), .binOp .add 3 (.tmp (s)) (.tmp (s + 2)) 3, t3, p3, e3, none⟩, ⟨some z, .assign (.tmp (s + 3)), tz, pz, ez, none⟩] false) Q a w := by
  refine wp_region_list ?_
  have s0 := Sees.self hF.defers hF.size
  have k_x := hF.known _ hx
  have k_z := hF.known _ hz
  refine op_move s0 (by have := k_z.1; omega) fun a1 s1 => ?_
  refine op_move s1 (by have := k_x.1; omega) fun a2 s2 => ?_
  refine op_len9 s2 (by omega) (by have hlt := k_x.1; rw [upd_same]; rw [upd_other _ _ (by omega)]; exact k_x.2) fun a3 s3 => ?_
  refine op_add s3 (by omega) (by omega) (by have hlt := k_z.1; rw [upd_other _ _ (by omega), upd_other _ _ (by omega), upd_same]; exact k_z.2) (by rw [upd_same]) fun a4 s4 => ?_
  refine op_assign s4 (by omega) fun b1 u1 => ?_
  rw [upd_same] at u1
  exact wpList_nil (hK _ b1 fun L' hL' => hF.assigned u1 hVN k_z.1 (fun t ht => by rw [upd_other _ _ (by omega), upd_other _ _ (by omega), upd_other _ _ (by omega), upd_other _ _ (by omega)]) hL')
theorem chk1_0 {Q : Exit → Act → World → Prop} {a : Act} {w : World} {N V : Nat} {L : List (Nat × Value)} (hF : Fr N V a L) (hVN : V ≤ N) {s i x id : Nat} {t0 t1 t2 t3 t4 t5 t6 : TypeId} {p0 p1 p2 p3 p4 p5 p6 : String} {e0 e1 e2 e3 e4 e5 e6 : Array Edge} (hsV : V ≤ s) (hsN : s + 7 ≤ N) {b off n c ki : Nat} (hx : (x, .slice (some ⟨b, off, none⟩) n c) ∈ L) (hi : (i, .int .i64 ki) ∈ L) (hki : ki < n) {ao1 : Option Addr} {n1 c1 : Nat} (hc1 : w.cell? ⟨b, off + ki * 2, none⟩ = some (.slice ao1 n1 c1)) {r id2 : Nat} {ta : TypeId} {pa : String} {ea : Array Edge} (hr : r < V)
    (hno : ∀ a', Fr N V a' L → Q .normal a' w) (hyes : ∀ a', a'.defers = [] → a'.eval (.tmp r) = .bool false → Q .ret a' w) :
    Code.wp Try.prog ((Code.region id #[⟨some (s), .move (.tmp x), t0, p0, e0, none⟩, ⟨some (s + 1), .move (.tmp i), t1, p1, e1, none⟩, ⟨some (s + 2), .indexAddr 22 (.tmp (s)) (.tmp (s + 1)), t2, p2, e2, none⟩, ⟨some (s + 3), .fieldAddr 43 (.tmp (s + 2)) 0, t3, p3, e3, none⟩, ⟨some (s + 4), .load 41 (.tmp (s + 3)), t4, p4, e4, none⟩, ⟨some (s + 5), .call { callee := .builtin .len, args := #[.tmp (s + 4)], argTypes := #[41] }, t5, p5, e5, none⟩, ⟨some (s + 6), .binOp .gtr 3 (.tmp (s + 5)) (.const (.int .i64 1048576)) 3, t6, p6, e6, none⟩] false).seq (Code.cond (.tmp (s + 6)) ((Code.region id2 #[⟨some r, .assign (.const (.bool false)), ta, pa, ea, none⟩] false).seq Code.ret) Code.skip)) Q a w := by
  refine wp_seq (wp_region_list ?_)
  have s0 := Sees.self hF.defers hF.size
  have k_i := hF.known _ hi
  have k_x := hF.known _ hx
  refine op_move s0 (by have := k_x.1; omega) fun a1 s1 => ?_
  refine op_move s1 (by have := k_i.1; omega) fun a2 s2 => ?_
  refine op_idx22 s2 (by omega) (by omega) (by have hlt := k_x.1; rw [upd_other _ _ (by omega), upd_same]; exact k_x.2) (by have hlt := k_i.1; rw [upd_same]; rw [upd_other _ _ (by omega)]; exact k_i.2) hki fun a3 s3 => ?_
  refine op_fld43_0 s3 (by omega) (by rw [upd_same]) fun a4 s4 => ?_
  refine op_ld41 s4 (by omega) (by rw [upd_same]) hc1 fun a5 s5 => ?_
  refine op_len41 s5 (by omega) (by rw [upd_same]) fun a6 s6 => ?_
  refine op_gtr s6 (by omega) (by rw [upd_same]) fun a7 s7 => ?_
  refine wpList_nil ?_
  refine wp_cond_split (by rw [s7.slot (s + 6) (by omega), upd_same]) (fun _ => ?_) (fun _ => ?_)
  · refine wp_seq (wp_region_list ?_)
    refine op_const s7 fun b1 u1 => ?_
    exact wpList_nil (wp_ret (hyes _ u1.defers (by rw [u1.slot r (by omega), upd_same])))
  · exact wp_skip (hno _ (hF.of_sees s7 hVN (fun t ht => by rw [upd_other _ _ (by omega), upd_other _ _ (by omega), upd_other _ _ (by omega), upd_other _ _ (by omega), upd_other _ _ (by omega), upd_other _ _ (by omega), upd_other _ _ (by omega)])))
theorem add1_0 {Q : Exit → Act → World → Prop} {a : Act} {w : World} {N V : Nat} {L : List (Nat × Value)} (hF : Fr N V a L) (hVN : V ≤ N) {s i x z id : Nat} {t0 t1 t2 t3 t4 t5 t6 t7 : TypeId} {p0 p1 p2 p3 p4 p5 p6 p7 : String} {e0 e1 e2 e3 e4 e5 e6 e7 : Array Edge} (hsV : V ≤ s) (hsN : s + 8 ≤ N) {zq : Int} (hz : (z, .int .i64 zq) ∈ L) {b off n c ki : Nat} (hx : (x, .slice (some ⟨b, off, none⟩) n c) ∈ L) (hi : (i, .int .i64 ki) ∈ L) (hki : ki < n) {ao1 : Option Addr} {n1 c1 : Nat} (hc1 : w.cell? ⟨b, off + ki * 2, none⟩ = some (.slice ao1 n1 c1)) {tz : TypeId} {pz : String} {ez : Array Edge}
    (hK : ∀ (q : Int) (a' : Act), (∀ L', (∀ p, p ∈ L' → p = (z, .int .i64 q) ∨ (p ∈ L ∧ p.1 ≠ z)) → Fr N V a' L') → Q .normal a' w) :
    Code.wp Try.prog (Code.region id #[⟨some (s), .move (.tmp z), t0, p0, e0, none⟩, ⟨some (s + 1), .move (.tmp x), t1, p1, e1, none⟩, ⟨some (s + 2), .move (.tmp i), t2, p2, e2, none⟩, ⟨some (s + 3), .indexAddr 22 (.tmp (s + 1)) (.tmp (s + 2)), t3, p3, e3, none⟩, ⟨some (s + 4), .fieldAddr 43 (.tmp (s + 3)) 0, t4, p4, e4, none⟩, ⟨some (s + 5), .load 41 (.tmp (s + 4)), t5, p5, e5, none⟩, ⟨some (s + 6), .call { callee := .builtin .len, args := #[.tmp (s + 5)], argTypes := #[41] }, t6, p6, e6, none⟩, ⟨some (s + 7), .binOp .add 3 (.tmp (s)) (.tmp (s + 6)) 3, t7, p7, e7, none⟩, ⟨some z, .assign (.tmp (s + 7)), tz, pz, ez, none⟩] false) Q a w := by
  refine wp_region_list ?_
  have s0 := Sees.self hF.defers hF.size
  have k_i := hF.known _ hi
  have k_x := hF.known _ hx
  have k_z := hF.known _ hz
  refine op_move s0 (by have := k_z.1; omega) fun a1 s1 => ?_
  refine op_move s1 (by have := k_x.1; omega) fun a2 s2 => ?_
  refine op_move s2 (by have := k_i.1; omega) fun a3 s3 => ?_
  refine op_idx22 s3 (by omega) (by omega) (by have hlt := k_x.1; rw [upd_other _ _ (by omega), upd_same]; rw [upd_other _ _ (by omega)]; exact k_x.2) (by have hlt := k_i.1; rw [upd_same]; rw [upd_other _ _ (by omega), upd_other _ _ (by omega)]; exact k_i.2) hki fun a4 s4 => ?_
  refine op_fld43_0 s4 (by omega) (by rw [upd_same]) fun a5 s5 => ?_
  refine op_ld41 s5 (by omega) (by rw [upd_same]) hc1 fun a6 s6 => ?_
  refine op_len41 s6 (by omega) (by rw [upd_same]) fun a7 s7 => ?_
  refine op_add s7 (by omega) (by omega) (by have hlt := k_z.1; rw [upd_other _ _ (by omega), upd_other _ _ (by omega), upd_other _ _ (by omega), upd_other _ _ (by omega), upd_other _ _ (by omega), upd_other _ _ (by omega), upd_same]; exact k_z.2) (by rw [upd_same]) fun a8 s8 => ?_
  refine op_assign s8 (by omega) fun b1 u1 => ?_
  rw [upd_same] at u1
  exact wpList_nil (hK _ b1 fun L' hL' => hF.assigned u1 hVN k_z.1 (fun t ht => by rw [upd_other _ _ (by omega), upd_other _ _ (by omega), upd_other _ _ (by omega), upd_other _ _ (by omega), upd_other _ _ (by omega), upd_other _ _ (by omega), upd_other _ _ (by omega), upd_other _ _ (by omega)]) hL')
theorem chk1_1 {Q : Exit → Act → World → Prop} {a : Act} {w : World} {N V : Nat} {L : List (Nat × Value)} (hF : Fr N V a L) (hVN : V ≤ N) {s i x id : Nat} {t0 t1 t2 t3 t4 t5 t6 : TypeId} {p0 p1 p2 p3 p4 p5 p6 : String} {e0 e1 e2 e3 e4 e5 e6 : Array Edge} (hsV : V ≤ s) (hsN : s + 7 ≤ N) {b off n c ki : Nat} (hx : (x, .slice (some ⟨b, off, none⟩) n c) ∈ L) (hi : (i, .int .i64 ki) ∈ L) (hki : ki < n) {ao1 : Option Addr} {n1 c1 : Nat} (hc1 : w.cell? ⟨b, off + ki * 2 + 1, none⟩ = some (.slice ao1 n1 c1)) {r id2 : Nat} {ta : TypeId} {pa : String} {ea : Array Edge} (hr : r < V)
    (hno : ∀ a', Fr N V a' L → Q .normal a' w) (hyes : ∀ a', a'.defers = [] → a'.eval (.tmp r) = .bool false → Q .ret a' w) :
    Code.wp Try.prog ((Code.region id #[⟨some (s), .move (.tmp x), t0, p0, e0, none⟩, ⟨some (s + 1), .move (.tmp i), t1, p1, e1, none⟩, ⟨some (s + 2), .indexAddr 22 (.tmp (s)) (.tmp (s + 1)), t2, p2, e2, none⟩, ⟨some (s + 3), .fieldAddr 43 (.tmp (s + 2)) 1, t3, p3, e3, none⟩, ⟨some (s + 4), .load 41 (.tmp (s + 3)), t4, p4, e4, none⟩, ⟨some (s + 5), .call { callee := .builtin .len, args := #[.tmp (s + 4)], argTypes := #[41] }, t5, p5, e5, none⟩, ⟨some (s + 6), .binOp .gtr 3 (.tmp (s + 5)) (.const (.int .i64 1048576)) 3, t6, p6, e6, none⟩] false).seq (Code.cond (.tmp (s + 6)) ((Code.region id2 #[⟨some r, .assign (.const (.bool false)), ta, pa, ea, none⟩] false).seq Code.ret) Code.skip)) Q a w := by
  refine wp_seq (wp_region_list ?_)
  have s0 := Sees.self hF.defers hF.size
  have k_i := hF.known _ hi
  have k_x := hF.known _ hx
  refine op_move s0 (by have := k_x.1; omega) fun a1 s1 => ?_
  refine op_move s1 (by have := k_i.1; omega) fun a2 s2 => ?_
  refine op_idx22 s2 (by omega) (by omega) (by have hlt := k_x.1; rw [upd_other _ _ (by omega), upd_same]; exact k_x.2) (by have hlt := k_i.1; rw [upd_same]; rw [upd_other _ _ (by omega)]; exact k_i.2) hki fun a3 s3 => ?_
  refine op_fld43_1 s3 (by omega) (by rw [upd_same]) fun a4 s4 => ?_
  refine op_ld41 s4 (by omega) (by rw [upd_same]) hc1 fun a5 s5 => ?_
  refine op_len41 s5 (by omega) (by rw [upd_same]) fun a6 s6 => ?_
  refine op_gtr s6 (by omega) (by rw [upd_same]) fun a7 s7 => ?_
  refine wpList_nil ?_
  refine wp_cond_split (by rw [s7.slot (s + 6) (by omega), upd_same]) (fun _ => ?_) (fun _ => ?_)
  · refine wp_seq (wp_region_list ?_)
    refine op_const s7 fun b1 u1 => ?_
    exact wpList_nil (wp_ret (hyes _ u1.defers (by rw [u1.slot r (by omega), upd_same])))
  · exact wp_skip (hno _ (hF.of_sees s7 hVN (fun t ht => by rw [upd_other _ _ (by omega), upd_other _ _ (by omega), upd_other _ _ (by omega), upd_other _ _ (by omega), upd_other _ _ (by omega), upd_other _ _ (by omega), upd_other _ _ (by omega)])))
theorem add1_1 {Q : Exit → Act → World → Prop} {a : Act} {w : World} {N V : Nat} {L : List (Nat × Value)} (hF : Fr N V a L) (hVN : V ≤ N) {s i x z id : Nat} {t0 t1 t2 t3 t4 t5 t6 t7 : TypeId} {p0 p1 p2 p3 p4 p5 p6 p7 : String} {e0 e1 e2 e3 e4 e5 e6 e7 : Array Edge} (hsV : V ≤ s) (hsN : s + 8 ≤ N) {zq : Int} (hz : (z, .int .i64 zq) ∈ L) {b off n c ki : Nat} (hx : (x, .slice (some ⟨b, off, none⟩) n c) ∈ L) (hi : (i, .int .i64 ki) ∈ L) (hki : ki < n) {ao1 : Option Addr} {n1 c1 : Nat} (hc1 : w.cell? ⟨b, off + ki * 2 + 1, none⟩ = some (.slice ao1 n1 c1)) {tz : TypeId} {pz : String} {ez : Array Edge}
    (hK : ∀ (q : Int) (a' : Act), (∀ L', (∀ p, p ∈ L' → p = (z, .int .i64 q) ∨ (p ∈ L ∧ p.1 ≠ z)) → Fr N V a' L') → Q .normal a' w) :
    Code.wp Try.prog (Code.region id #[⟨some (s), .move (.tmp z), t0, p0, e0, none⟩, ⟨some (s + 1), .move (.tmp x), t1, p1, e1, none⟩, ⟨some (s + 2), .move (.tmp i), t2, p2, e2, none⟩, ⟨some (s + 3), .indexAddr 22 (.tmp (s + 1)) (.tmp (s + 2)), t3, p3, e3, none⟩, ⟨some (s + 4), .fieldAddr 43 (.tmp (s + 3)) 1, t4, p4, e4, none⟩, ⟨some (s + 5), .load 41 (.tmp (s + 4)), t5, p5, e5, none⟩, ⟨some (s + 6), .call { callee := .builtin .len, args := #[.tmp (s + 5)], argTypes := #[41] }, t6, p6, e6, none⟩, ⟨some (s + 7), .binOp .add 3 (.tmp (s)) (.tmp (s + 6)) 3, t7, p7, e7, none⟩, ⟨some z, .assign (.tmp (s + 7)), tz, pz, ez, none⟩] false) Q a w := by
  refine wp_region_list ?_
  have s0 := Sees.self hF.defers hF.size
  have k_i := hF.known _ hi
  have k_x := hF.known _ hx
  have k_z := hF.known _ hz
  refine op_move s0 (by have := k_z.1; omega) fun a1 s1 => ?_
  refine op_move s1 (by have := k_x.1; omega) fun a2 s2 => ?_
  refine op_move s2 (by have := k_i.1; omega) fun a3 s3 => ?_
  refine op_idx22 s3 (by omega) (by omega) (by have hlt := k_x.1; rw [upd_other _ _ (by omega), upd_same]; rw [upd_other _ _ (by omega)]; exact k_x.2) (by have hlt := k_i.1; rw [upd_same]; rw [upd_other _ _ (by omega), upd_other _ _ (by omega)]; exact k_i.2) hki fun a4 s4 => ?_
  refine op_fld43_1 s4 (by omega) (by rw [upd_same]) fun a5 s5 => ?_
  refine op_ld41 s5 (by omega) (by rw [upd_same]) hc1 fun a6 s6 => ?_
  refine op_len41 s6 (by omega) (by rw [upd_same]) fun a7 s7 => ?_
  refine op_add s7 (by omega) (by omega) (by have hlt := k_z.1; rw [upd_other _ _ (by omega), upd_other _ _ (by omega), upd_other _ _ (by omega), upd_other _ _ (by omega), upd_other _ _ (by omega), upd_other _ _ (by omega), upd_same]; exact k_z.2) (by rw [upd_same]) fun a8 s8 => ?_
  refine op_assign s8 (by omega) fun b1 u1 => ?_
  rw [upd_same] at u1
  exact wpList_nil (hK _ b1 fun L' hL' => hF.assigned u1 hVN k_z.1 (fun t ht => by rw [upd_other _ _ (by omega), upd_other _ _ (by omega), upd_other _ _ (by omega), upd_other _ _ (by omega), upd_other _ _ (by omega), upd_other _ _ (by omega), upd_other _ _ (by omega), upd_other _ _ (by omega)]) hL')
theorem chk2_0_0 {Q : Exit → Act → World → Prop} {a : Act} {w : World} {N V : Nat} {L : List (Nat × Value)} (hF : Fr N V a L) (hVN : V ≤ N) {s i j x id : Nat} {t0 t1 t2 t3 t4 t5 t6 t7 t8 t9 t10 : TypeId} {p0 p1 p2 p3 p4 p5 p6 p7 p8 p9 p10 : String} {e0 e1 e2 e3 e4 e5 e6 e7 e8 e9 e10 : Array Edge} (hsV : V ≤ s) (hsN : s + 11 ≤ N) {b off n c ki : Nat} (hx : (x, .slice (some ⟨b, off, none⟩) n c) ∈ L) (hi : (i, .int .i64 ki) ∈ L) (hki : ki < n) {b1 off1 n1 c1 kj : Nat} (hc1 : w.cell? ⟨b, off + ki * 2, none⟩ = some (.slice (some ⟨b1, off1, none⟩) n1 c1)) (hj : (j, .int .i64 kj) ∈ L) (hkj : kj < n1) {bs : ByteArray} (hc2 : w.cell? ⟨b1, off1 + kj * 3, none⟩ = some (.string bs)) {r id2 : Nat} {ta : TypeId} {pa : String} {ea : Array Edge} (hr : r < V)
    (hno : ∀ a', Fr N V a' L → Q .normal a' w) (hyes : ∀ a', a'.defers = [] → a'.eval (.tmp r) = .bool false → Q .ret a' w) :
    Code.wp Try.prog ((Code.region id #[⟨some (s), .move (.tmp x), t0, p0, e0, none⟩, ⟨some (s + 1), .move (.tmp i), t1, p1, e1, none⟩, ⟨some (s + 2), .indexAddr 22 (.tmp (s)) (.tmp (s + 1)), t2, p2, e2, none⟩, ⟨some (s + 3), .fieldAddr 43 (.tmp (s + 2)) 0, t3, p3, e3, none⟩, ⟨some (s + 4), .load 41 (.tmp (s + 3)), t4, p4, e4, none⟩, ⟨some (s + 5), .move (.tmp j), t5, p5, e5, none⟩, ⟨some (s + 6), .indexAddr 41 (.tmp (s + 4)) (.tmp (s + 5)), t6, p6, e6, none⟩, ⟨some (s + 7), .fieldAddr 46 (.tmp (s + 6)) 0, t7, p7, e7, none⟩, ⟨some (s + 8), .load 9 (.tmp (s + 7)), t8, p8, e8, none⟩, ⟨some (s + 9), .call { callee := .builtin .len, args := #[.tmp (s + 8)], argTypes := #[9] }, t9, p9, e9, none⟩, ⟨some (s + 10), .binOp .gtr 3 (.tmp (s + 9)) (.const (.int .i64 1048576)) 3, t10, p10, e10, none⟩] false).seq (Code.cond (.tmp (s + 10)) ((Code.region id2 #[⟨some r, .assign (.const (.bool false)), ta, pa, ea, none⟩] false).seq Code.ret) Code.skip)) Q a w := by
  refine wp_seq (wp_region_list ?_)
  have s0 := Sees.self hF.defers hF.size
  have k_i := hF.known _ hi
  have k_j := hF.known _ hj
  have k_x := hF.known _ hx
  refine op_move s0 (by have := k_x.1; omega) fun a1 s1 => ?_
  refine op_move s1 (by have := k_i.1; omega) fun a2 s2 => ?_
  refine op_idx22 s2 (by omega) (by omega) (by have hlt := k_x.1; rw [upd_other _ _ (by omega), upd_same]; exact k_x.2) (by have hlt := k_i.1; rw [upd_same]; rw [upd_other _ _ (by omega)]; exact k_i.2) hki fun a3 s3 => ?_
  refine op_fld43_0 s3 (by omega) (by rw [upd_same]) fun a4 s4 => ?_
  refine op_ld41 s4 (by omega) (by rw [upd_same]) hc1 fun a5 s5 => ?_
  refine op_move s5 (by have := k_j.1; omega) fun a6 s6 => ?_
  refine op_idx41 s6 (by omega) (by omega) (by rw [upd_other _ _ (by omega), upd_same]) (by have hlt := k_j.1; rw [upd_same]; rw [upd_other _ _ (by omega), upd_other _ _ (by omega), upd_other _ _ (by omega), upd_other _ _ (by omega), upd_other _ _ (by omega)]; exact k_j.2) hkj fun a7 s7 => ?_
  refine op_fld46_0 s7 (by omega) (by rw [upd_same]) fun a8 s8 => ?_
  refine op_ld9 s8 (by omega) (by rw [upd_same]) hc2 fun a9 s9 => ?_
  refine op_len9 s9 (by omega) (by rw [upd_same]) fun a10 s10 => ?_
  refine op_gtr s10 (by omega) (by rw [upd_same]) fun a11 s11 => ?_
  refine wpList_nil ?_
  refine wp_cond_split (by rw [s11.slot (s + 10) (by omega), upd_same]) (fun _ => ?_) (fun _ => ?_)
  · refine wp_seq (wp_region_list ?_)
    refine op_const s11 fun b1 u1 => ?_
    exact wpList_nil (wp_ret (hyes _ u1.defers (by rw [u1.slot r (by omega), upd_same])))
  · exact wp_skip (hno _ (hF.of_sees s11 hVN (fun t ht => by rw [upd_other _ _ (by omega), upd_other _ _ (by omega), upd_other _ _ (by omega), upd_other _ _ (by omega), upd_other _ _ (by omega), upd_other _ _ (by omega), upd_other _ _ (by omega), upd_other _ _ (by omega), upd_other _ _ (by omega), upd_other _ _ (by omega), upd_other _ _ (by omega)])))
theorem add2_0_0 {Q : Exit → Act → World → Prop} {a : Act} {w : World} {N V : Nat} {L : List (Nat × Value)} (hF : Fr N V a L) (hVN : V ≤ N) {s i j x z id : Nat} {t0 t1 t2 t3 t4 t5 t6 t7 t8 t9 t10 t11 : TypeId} {p0 p1 p2 p3 p4 p5 p6 p7 p8 p9 p10 p11 : String} {e0 e1 e2 e3 e4 e5 e6 e7 e8 e9 e10 e11 : Array Edge} (hsV : V ≤ s) (hsN : s + 12 ≤ N) {zq : Int} (hz : (z, .int .i64 zq) ∈ L) {b off n c ki : Nat} (hx : (x, .slice (some ⟨b, off, none⟩) n c) ∈ L) (hi : (i, .int .i64 ki) ∈ L) (hki : ki < n) {b1 off1 n1 c1 kj : Nat} (hc1 : w.cell? ⟨b, off + ki * 2, none⟩ = some (.slice (some ⟨b1, off1, none⟩) n1 c1)) (hj : (j, .int .i64 kj) ∈ L) (hkj : kj < n1) {bs : ByteArray} (hc2 : w.cell? ⟨b1, off1 + kj * 3, none⟩ = some (.string bs)) {tz : TypeId} {pz : String} {ez : Array Edge}
    (hK : ∀ (q : Int) (a' : Act), (∀ L', (∀ p, p ∈ L' → p = (z, .int .i64 q) ∨ (p ∈ L ∧ p.1 ≠ z)) → Fr N V a' L') → Q .normal a' w) :
    Code.wp Try.prog (Code.region id #[⟨some (s), .move (.tmp z), t0, p0, e0, none⟩, ⟨some (s + 1), .move (.tmp x), t1, p1, e1, none⟩, ⟨some (s + 2), .move (.tmp i), t2, p2, e2, none⟩, ⟨some (s + 3), .indexAddr 22 (.tmp (s + 1)) (.tmp (s + 2)), t3, p3, e3, none⟩, ⟨some (s + 4), .fieldAddr 43 (.tmp (s + 3)) 0, t4, p4, e4, none⟩, ⟨some (s + 5), .load 41 (.tmp (s + 4)), t5, p5, e5, none⟩, ⟨some (s + 6), .move (.tmp j), t6, p6, e6, none⟩, ⟨some (s + 7), .indexAddr 41 (.tmp (s + 5)) (.tmp (s + 6)), t7, p7, e7, none⟩, ⟨some (s + 8), .fieldAddr 46 (.tmp (s + 7)) 0, t8, p8, e8, none⟩, ⟨some (s + 9), .load 9 (.tmp (s + 8)), t9, p9, e9, none⟩, ⟨some (s + 10), .call { callee := .builtin .len, args := #[.tmp (s + 9)], argTypes := #[9] }, t10, p10, e10, none⟩, ⟨some (s + 11), .binOp .add 3 (.tmp (s)) (.tmp (s + 10)) 3, t11, p11, e11, none⟩, ⟨some z, .assign (.tmp (s + 11)), tz, pz, ez, none⟩] false) Q a w := by
  refine wp_region_list ?_
  have s0 := Sees.self hF.defers hF.size
  have k_i := hF.known _ hi
  have k_j := hF.known _ hj
  have k_x := hF.known _ hx
  have k_z := hF.known _ hz
  refine op_move s0 (by have := k_z.1; omega) fun a1 s1 => ?_
  refine op_move s1 (by have := k_x.1; omega) fun a2 s2 => ?_
  refine op_move s2 (by have := k_i.1; omega) fun a3 s3 => ?_
  refine op_idx22 s3 (by omega) (by omega) (by have hlt := k_x.1; rw [upd_other _ _ (by omega), upd_same]; rw [upd_other _ _ (by omega)]; exact k_x.2) (by have hlt := k_i.1; rw [upd_same]; rw [upd_other _ _ (by omega), upd_other _ _ (by omega)]; exact k_i.2) hki fun a4 s4 => ?_
  refine op_fld43_0 s4 (by omega) (by rw [upd_same]) fun a5 s5 => ?_
  refine op_ld41 s5 (by omega) (by rw [upd_same]) hc1 fun a6 s6 => ?_
  refine op_move s6 (by have := k_j.1; omega) fun a7 s7 => ?_
  refine op_idx41 s7 (by omega) (by omega) (by rw [upd_other _ _ (by omega), upd_same]) (by have hlt := k_j.1; rw [upd_same]; rw [upd_other _ _ (by omega), upd_other _ _ (by omega), upd_other _ _ (by omega), upd_other _ _ (by omega), upd_other _ _ (by omega), upd_other _ _ (by omega)]; exact k_j.2) hkj fun a8 s8 => ?_
  refine op_fld46_0 s8 (by omega) (by rw [upd_same]) fun a9 s9 => ?_
  refine op_ld9 s9 (by omega) (by rw [upd_same]) hc2 fun a10 s10 => ?_
  refine op_len9 s10 (by omega) (by rw [upd_same]) fun a11 s11 => ?_
  refine op_add s11 (by omega) (by omega) (by have hlt := k_z.1; rw [upd_other _ _ (by omega), upd_other _ _ (by omega), upd_other _ _ (by omega), upd_other _ _ (by omega), upd_other _ _ (by omega), upd_other _ _ (by omega), upd_other _ _ (by omega), upd_other _ _ (by omega), upd_other _ _ (by omega), upd_other _ _ (by omega), upd_same]; exact k_z.2) (by rw [upd_same]) fun a12 s12 => ?_
  refine op_assign s12 (by omega) fun b1 u1 => ?_
  rw [upd_same] at u1
  exact wpList_nil (hK _ b1 fun L' hL' => hF.assigned u1 hVN k_z.1 (fun t ht => by rw [upd_other _ _ (by omega), upd_other _ _ (by omega), upd_other _ _ (by omega), upd_other _ _ (by omega), upd_other _ _ (by omega), upd_other _ _ (by omega), upd_other _ _ (by omega), upd_other _ _ (by omega), upd_other _ _ (by omega), upd_other _ _ (by omega), upd_other _ _ (by omega), upd_other _ _ (by omega)]) hL')
theorem chk2_0_1 {Q : Exit → Act → World → Prop} {a : Act} {w : World} {N V : Nat} {L : List (Nat × Value)} (hF : Fr N V a L) (hVN : V ≤ N) {s i j x id : Nat} {t0 t1 t2 t3 t4 t5 t6 t7 t8 t9 t10 : TypeId} {p0 p1 p2 p3 p4 p5 p6 p7 p8 p9 p10 : String} {e0 e1 e2 e3 e4 e5 e6 e7 e8 e9 e10 : Array Edge} (hsV : V ≤ s) (hsN : s + 11 ≤ N) {b off n c ki : Nat} (hx : (x, .slice (some ⟨b, off, none⟩) n c) ∈ L) (hi : (i, .int .i64 ki) ∈ L) (hki : ki < n) {b1 off1 n1 c1 kj : Nat} (hc1 : w.cell? ⟨b, off + ki * 2, none⟩ = some (.slice (some ⟨b1, off1, none⟩) n1 c1)) (hj : (j, .int .i64 kj) ∈ L) (hkj : kj < n1) {bs : ByteArray} (hc2 : w.cell? ⟨b1, off1 + kj * 3 + 1, none⟩ = some (.string bs)) {r id2 : Nat} {ta : TypeId} {pa : String} {ea : Array Edge} (hr : r < V)
    (hno : ∀ a', Fr N V a' L → Q .normal a' w) (hyes : ∀ a', a'.defers = [] → a'.eval (.tmp r) = .bool false → Q .ret a' w) :
    Code.wp Try.prog ((Code.region id #[⟨some (s), .move (.tmp x), t0, p0, e0, none⟩, ⟨some (s + 1), .move (.tmp i), t1, p1, e1, none⟩, ⟨some (s + 2), .indexAddr 22 (.tmp (s)) (.tmp (s + 1)), t2, p2, e2, none⟩, ⟨some (s + 3), .fieldAddr 43 (.tmp (s + 2)) 0, t3, p3, e3, none⟩, ⟨some (s + 4), .load 41 (.tmp (s + 3)), t4, p4, e4, none⟩, ⟨some (s + 5), .move (.tmp j), t5, p5, e5, none⟩, ⟨some (s + 6), .indexAddr 41 (.tmp (s + 4)) (.tmp (s + 5)), t6, p6, e6, none⟩, ⟨some (s + 7), .fieldAddr 46 (.tmp (s + 6)) 1, t7, p7, e7, none⟩, ⟨some (s + 8), .load 9 (.tmp (s + 7)), t8, p8, e8, none⟩, ⟨some (s + 9), .call { callee := .builtin .len, args := #[.tmp (s + 8)], argTypes := #[9] }, t9, p9, e9, none⟩, ⟨some (s + 10), .binOp .gtr 3 (.tmp (s + 9)) (.const (.int .i64 1048576)) 3, t10, p10, e10, none⟩] false).seq (Code.cond (.tmp (s + 10)) ((Code.region id2 #[⟨some r, .assign (.const (.bool false)), ta, pa, ea, none⟩] false).seq Code.ret) Code.skip)) Q a w := by
  refine wp_seq (wp_region_list ?_)
  have s0 := Sees.self hF.defers hF.size
  have k_i := hF.known _ hi
  have k_j := hF.known _ hj
  have k_x := hF.known _ hx
  refine op_move s0 (by have := k_x.1; omega) fun a1 s1 => ?_
  refine op_move s1 (by have := k_i.1; omega) fun a2 s2 => ?_
  refine op_idx22 s2 (by omega) (by omega) (by have hlt := k_x.1; rw [upd_other _ _ (by omega), upd_same]; exact k_x.2) (by have hlt := k_i.1; rw [upd_same]; rw [upd_other _ _ (by omega)]; exact k_i.2) hki fun a3 s3 => ?_
  refine op_fld43_0 s3 (by omega) (by rw [upd_same]) fun a4 s4 => ?_
  refine op_ld41 s4 (by omega) (by rw [upd_same]) hc1 fun a5 s5 => ?_
  refine op_move s5 (by have := k_j.1; omega) fun a6 s6 => ?_
  refine op_idx41 s6 (by omega) (by omega) (by rw [upd_other _ _ (by omega), upd_same]) (by have hlt := k_j.1; rw [upd_same]; rw [upd_other _ _ (by omega), upd_other _ _ (by omega), upd_other _ _ (by omega), upd_other _ _ (by omega), upd_other _ _ (by omega)]; exact k_j.2) hkj fun a7 s7 => ?_
  refine op_fld46_1 s7 (by omega) (by rw [upd_same]) fun a8 s8 => ?_
  refine op_ld9 s8 (by omega) (by rw [upd_same]) hc2 fun a9 s9 => ?_
  refine op_len9 s9 (by omega) (by rw [upd_same]) fun a10 s10 => ?_
  refine op_gtr s10 (by omega) (by rw [upd_same]) fun a11 s11 => ?_
  refine wpList_nil ?_
  refine wp_cond_split (by rw [s11.slot (s + 10) (by omega), upd_same]) (fun _ => ?_) (fun _ => ?_)
  · refine wp_seq (wp_region_list ?_)
    refine op_const s11 fun b1 u1 => ?_
    exact wpList_nil (wp_ret (hyes _ u1.defers (by rw [u1.slot r (by omega), upd_same])))
  · exact wp_skip (hno _ (hF.of_sees s11 hVN (fun t ht => by rw [upd_other _ _ (by omega), upd_other _ _ (by omega), upd_other _ _ (by omega), upd_other _ _ (by omega), upd_other _ _ (by omega), upd_other _ _ (by omega), upd_other _ _ (by omega), upd_other _ _ (by omega), upd_other _ _ (by omega), upd_other _ _ (by omega), upd_other _ _ (by omega)])))
theorem add2_0_1 {Q : Exit → Act → World → Prop} {a : Act} {w : World} {N V : Nat} {L : List (Nat × Value)} (hF : Fr N V a L) (hVN : V ≤ N) {s i j x z id : Nat} {t0 t1 t2 t3 t4 t5 t6 t7 t8 t9 t10 t11 : TypeId} {p0 p1 p2 p3 p4 p5 p6 p7 p8 p9 p10 p11 : String} {e0 e1 e2 e3 e4 e5 e6 e7 e8 e9 e10 e11 : Array Edge} (hsV : V ≤ s) (hsN : s + 12 ≤ N) {zq : Int} (hz : (z, .int .i64 zq) ∈ L) {b off n c ki : Nat} (hx : (x, .slice (some ⟨b, off, none⟩) n c) ∈ L) (hi : (i, .int .i64 ki) ∈ L) (hki : ki < n) {b1 off1 n1 c1 kj : Nat} (hc1 : w.cell? ⟨b, off + ki * 2, none⟩ = some (.slice (some ⟨b1, off1, none⟩) n1 c1)) (hj : (j, .int .i64 kj) ∈ L) (hkj : kj < n1) {bs : ByteArray} (hc2 : w.cell? ⟨b1, off1 + kj * 3 + 1, none⟩ = some (.string bs)) {tz : TypeId} {pz : String} {ez : Array Edge}
    (hK : ∀ (q : Int) (a' : Act), (∀ L', (∀ p, p ∈ L' → p = (z, .int .i64 q) ∨ (p ∈ L ∧ p.1 ≠ z)) → Fr N V a' L') → Q .normal a' w) :
    Code.wp Try.prog (Code.region id #[⟨some (s), .move (.tmp z), t0, p0, e0, none⟩, ⟨some (s + 1), .move (.tmp x), t1, p1, e1, none⟩, ⟨some (s + 2), .move (.tmp i), t2, p2, e2, none⟩, ⟨some (s + 3), .indexAddr 22 (.tmp (s + 1)) (.tmp (s + 2)), t3, p3, e3, none⟩, ⟨some (s + 4), .fieldAddr 43 (.tmp (s + 3)) 0, t4, p4, e4, none⟩, ⟨some (s + 5), .load 41 (.tmp (s + 4)), t5, p5, e5, none⟩, ⟨some (s + 6), .move (.tmp j), t6, p6, e6, none⟩, ⟨some (s + 7), .indexAddr 41 (.tmp (s + 5)) (.tmp (s + 6)), t7, p7, e7, none⟩, ⟨some (s + 8), .fieldAddr 46 (.tmp (s + 7)) 1, t8, p8, e8, none⟩, ⟨some (s + 9), .load 9 (.tmp (s + 8)), t9, p9, e9, none⟩, ⟨some (s + 10), .call { callee := .builtin .len, args := #[.tmp (s + 9)], argTypes := #[9] }, t10, p10, e10, none⟩, ⟨some (s + 11), .binOp .add 3 (.tmp (s)) (.tmp (s + 10)) 3, t11, p11, e11, none⟩, ⟨some z, .assign (.tmp (s + 11)), tz, pz, ez, none⟩] false) Q a w := by
  refine wp_region_list ?_
  have s0 := Sees.self hF.defers hF.size
  have k_i := hF.known _ hi
  have k_j := hF.known _ hj
  have k_x := hF.known _ hx
  have k_z := hF.known _ hz
  refine op_move s0 (by have := k_z.1; omega) fun a1 s1 => ?_
  refine op_move s1 (by have := k_x.1; omega) fun a2 s2 => ?_
  refine op_move s2 (by have := k_i.1; omega) fun a3 s3 => ?_
  refine op_idx22 s3 (by omega) (by omega) (by have hlt := k_x.1; rw [upd_other _ _ (by omega), upd_same]; rw [upd_other _ _ (by omega)]; exact k_x.2) (by have hlt := k_i.1; rw [upd_same]; rw [upd_other _ _ (by omega), upd_other _ _ (by omega)]; exact k_i.2) hki fun a4 s4 => ?_
  refine op_fld43_0 s4 (by omega) (by rw [upd_same]) fun a5 s5 => ?_
  refine op_ld41 s5 (by omega) (by rw [upd_same]) hc1 fun a6 s6 => ?_
  refine op_move s6 (by have := k_j.1; omega) fun a7 s7 => ?_
  refine op_idx41 s7 (by omega) (by omega) (by rw [upd_other _ _ (by omega), upd_same]) (by have hlt := k_j.1; rw [upd_same]; rw [upd_other _ _ (by omega), upd_other _ _ (by omega), upd_other _ _ (by omega), upd_other _ _ (by omega), upd_other _ _ (by omega), upd_other _ _ (by omega)]; exact k_j.2) hkj fun a8 s8 => ?_
  refine op_fld46_1 s8 (by omega) (by rw [upd_same]) fun a9 s9 => ?_
  refine op_ld9 s9 (by omega) (by rw [upd_same]) hc2 fun a10 s10 => ?_
  refine op_len9 s10 (by omega) (by rw [upd_same]) fun a11 s11 => ?_
  refine op_add s11 (by omega) (by omega) (by have hlt := k_z.1; rw [upd_other _ _ (by omega), upd_other _ _ (by omega), upd_other _ _ (by omega), upd_other _ _ (by omega), upd_other _ _ (by omega), upd_other _ _ (by omega), upd_other _ _ (by omega), upd_other _ _ (by omega), upd_other _ _ (by omega), upd_other _ _ (by omega), upd_same]; exact k_z.2) (by rw [upd_same]) fun a12 s12 => ?_
  refine op_assign s12 (by omega) fun b1 u1 => ?_
  rw [upd_same] at u1
  exact wpList_nil (hK _ b1 fun L' hL' => hF.assigned u1 hVN k_z.1 (fun t ht => by rw [upd_other _ _ (by omega), upd_other _ _ (by omega), upd_other _ _ (by omega), upd_other _ _ (by omega), upd_other _ _ (by omega), upd_other _ _ (by omega), upd_other _ _ (by omega), upd_other _ _ (by omega), upd_other _ _ (by omega), upd_other _ _ (by omega), upd_other _ _ (by omega), upd_other _ _ (by omega)]) hL')
theorem chk2_0_2 {Q : Exit → Act → World → Prop} {a : Act} {w : World} {N V : Nat} {L : List (Nat × Value)} (hF : Fr N V a L) (hVN : V ≤ N) {s i j x id : Nat} {t0 t1 t2 t3 t4 t5 t6 t7 t8 t9 t10 : TypeId} {p0 p1 p2 p3 p4 p5 p6 p7 p8 p9 p10 : String} {e0 e1 e2 e3 e4 e5 e6 e7 e8 e9 e10 : Array Edge} (hsV : V ≤ s) (hsN : s + 11 ≤ N) {b off n c ki : Nat} (hx : (x, .slice (some ⟨b, off, none⟩) n c) ∈ L) (hi : (i, .int .i64 ki) ∈ L) (hki : ki < n) {b1 off1 n1 c1 kj : Nat} (hc1 : w.cell? ⟨b, off + ki * 2, none⟩ = some (.slice (some ⟨b1, off1, none⟩) n1 c1)) (hj : (j, .int .i64 kj) ∈ L) (hkj : kj < n1) {ao2 : Option Addr} {n2 c2 : Nat} (hc2 : w.cell? ⟨b1, off1 + kj * 3 + 2, none⟩ = some (.slice ao2 n2 c2)) {r id2 : Nat} {ta : TypeId} {pa : String} {ea : Array Edge} (hr : r < V)
    (hno : ∀ a', Fr N V a' L → Q .normal a' w) (hyes : ∀ a', a'.defers = [] → a'.eval (.tmp r) = .bool false → Q .ret a' w) :
    Code.wp Try.prog ((Code.region id #[⟨some (s), .move (.tmp x), t0, p0, e0, none⟩, ⟨some (s + 1), .move (.tmp i), t1, p1, e1, none⟩, ⟨some (s + 2), .indexAddr 22 (.tmp (s)) (.tmp (s + 1)), t2, p2, e2, none⟩, ⟨some (s + 3), .fieldAddr 43 (.tmp (s + 2)) 0, t3, p3, e3, none⟩, ⟨some (s + 4), .load 41 (.tmp (s + 3)), t4, p4, e4, none⟩, ⟨some (s + 5), .move (.tmp j), t5, p5, e5, none⟩, ⟨some (s + 6), .indexAddr 41 (.tmp (s + 4)) (.tmp (s + 5)), t6, p6, e6, none⟩, ⟨some (s + 7), .fieldAddr 46 (.tmp (s + 6)) 2, t7, p7, e7, none⟩, ⟨some (s + 8), .load 44 (.tmp (s + 7)), t8, p8, e8, none⟩, ⟨some (s + 9), .call { callee := .builtin .len, args := #[.tmp (s + 8)], argTypes := #[44] }, t9, p9, e9, none⟩, ⟨some (s + 10), .binOp .gtr 3 (.tmp (s + 9)) (.const (.int .i64 1048576)) 3, t10, p10, e10, none⟩] false).seq (Code.cond (.tmp (s + 10)) ((Code.region id2 #[⟨some r, .assign (.const (.bool false)), ta, pa, ea, none⟩] false).seq Code.ret) Code.skip)) Q a w := by
  refine wp_seq (wp_region_list ?_)
  have s0 := Sees.self hF.defers hF.size
  have k_i := hF.known _ hi
  have k_j := hF.known _ hj
  have k_x := hF.known _ hx
  refine op_move s0 (by have := k_x.1; omega) fun a1 s1 => ?_
  refine op_move s1 (by have := k_i.1; omega) fun a2 s2 => ?_
  refine op_idx22 s2 (by omega) (by omega) (by have hlt := k_x.1; rw [upd_other _ _ (by omega), upd_same]; exact k_x.2) (by have hlt := k_i.1; rw [upd_same]; rw [upd_other _ _ (by omega)]; exact k_i.2) hki fun a3 s3 => ?_
  refine op_fld43_0 s3 (by omega) (by rw [upd_same]) fun a4 s4 => ?_
  refine op_ld41 s4 (by omega) (by rw [upd_same]) hc1 fun a5 s5 => ?_
  refine op_move s5 (by have := k_j.1; omega) fun a6 s6 => ?_
  refine op_idx41 s6 (by omega) (by omega) (by rw [upd_other _ _ (by omega), upd_same]) (by have hlt := k_j.1; rw [upd_same]; rw [upd_other _ _ (by omega), upd_other _ _ (by omega), upd_other _ _ (by omega), upd_other _ _ (by omega), upd_other _ _ (by omega)]; exact k_j.2) hkj fun a7 s7 => ?_
  refine op_fld46_2 s7 (by omega) (by rw [upd_same]) fun a8 s8 => ?_
  refine op_ld44 s8 (by omega) (by rw [upd_same]) hc2 fun a9 s9 => ?_
  refine op_len44 s9 (by omega) (by rw [upd_same]) fun a10 s10 => ?_
  refine op_gtr s10 (by omega) (by rw [upd_same]) fun a11 s11 => ?_
  refine wpList_nil ?_
  refine wp_cond_split (by rw [s11.slot (s + 10) (by omega), upd_same]) (fun _ => ?_) (fun _ => ?_)
  · refine wp_seq (wp_region_list ?_)
    refine op_const s11 fun b1 u1 => ?_
    exact wpList_nil (wp_ret (hyes _ u1.defers (by rw [u1.slot r (by omega), upd_same])))
  · exact wp_skip (hno _ (hF.of_sees s11 hVN (fun t ht => by rw [upd_other _ _ (by omega), upd_other _ _ (by omega), upd_other _ _ (by omega), upd_other _ _ (by omega), upd_other _ _ (by omega), upd_other _ _ (by omega), upd_other _ _ (by omega), upd_other _ _ (by omega), upd_other _ _ (by omega), upd_other _ _ (by omega), upd_other _ _ (by omega)])))
theorem add2_0_2 {Q : Exit → Act → World → Prop} {a : Act} {w : World} {N V : Nat} {L : List (Nat × Value)} (hF : Fr N V a L) (hVN : V ≤ N) {s i j x z id : Nat} {t0 t1 t2 t3 t4 t5 t6 t7 t8 t9 t10 t11 : TypeId} {p0 p1 p2 p3 p4 p5 p6 p7 p8 p9 p10 p11 : String} {e0 e1 e2 e3 e4 e5 e6 e7 e8 e9 e10 e11 : Array Edge} (hsV : V ≤ s) (hsN : s + 12 ≤ N) {zq : Int} (hz : (z, .int .i64 zq) ∈ L) {b off n c ki : Nat} (hx : (x, .slice (some ⟨b, off, none⟩) n c) ∈ L) (hi : (i, .int .i64 ki) ∈ L) (hki : ki < n) {b1 off1 n1 c1 kj : Nat} (hc1 : w.cell? ⟨b, off + ki * 2, none⟩ = some (.slice (some ⟨b1, off1, none⟩) n1 c1)) (hj : (j, .int .i64 kj) ∈ L) (hkj : kj < n1) {ao2 : Option Addr} {n2 c2 : Nat} (hc2 : w.cell? ⟨b1, off1 + kj * 3 + 2, none⟩ = some (.slice ao2 n2 c2)) {tz : TypeId} {pz : String} {ez : Array Edge}
    (hK : ∀ (q : Int) (a' : Act), (∀ L', (∀ p, p ∈ L' → p = (z, .int .i64 q) ∨ (p ∈ L ∧ p.1 ≠ z)) → Fr N V a' L') → Q .normal a' w) :
    Code.wp Try.prog (Code.region id #[⟨some (s), .move (.tmp z), t0, p0, e0, none⟩, ⟨some (s + 1), .move (.tmp x), t1, p1, e1, none⟩, ⟨some (s + 2), .move (.tmp i), t2, p2, e2, none⟩, ⟨some (s + 3), .indexAddr 22 (.tmp (s + 1)) (.tmp (s + 2)), t3, p3, e3, none⟩, ⟨some (s + 4), .fieldAddr 43 (.tmp (s + 3)) 0, t4, p4, e4, none⟩, ⟨some (s + 5), .load 41 (.tmp (s + 4)), t5, p5, e5, none⟩, ⟨some (s + 6), .move (.tmp j), t6, p6, e6, none⟩, ⟨some (s + 7), .indexAddr 41 (.tmp (s + 5)) (.tmp (s + 6)), t7, p7, e7, none⟩, ⟨some (s + 8), .fieldAddr 46 (.tmp (s + 7)) 2, t8, p8, e8, none⟩, ⟨some (s + 9), .load 44 (.tmp (s + 8)), t9, p9, e9, none⟩, ⟨some (s + 10), .call { callee := .builtin .len, args := #[.tmp (s + 9)], argTypes := #[44] }, t10, p10, e10, none⟩, ⟨some (s + 11), .binOp .add 3 (.tmp (s)) (.tmp (s + 10)) 3, t11, p11, e11, none⟩, ⟨some z, .assign (.tmp (s + 11)), tz, pz, ez, none⟩] false) Q a w := by
  refine wp_region_list ?_
  have s0 := Sees.self hF.defers hF.size
  have k_i := hF.known _ hi
  have k_j := hF.known _ hj
  have k_x := hF.known _ hx
  have k_z := hF.known _ hz
  refine op_move s0 (by have := k_z.1; omega) fun a1 s1 => ?_
  refine op_move s1 (by have := k_x.1; omega) fun a2 s2 => ?_
  refine op_move s2 (by have := k_i.1; omega) fun a3 s3 => ?_
  refine op_idx22 s3 (by omega) (by omega) (by have hlt := k_x.1; rw [upd_other _ _ (by omega), upd_same]; rw [upd_other _ _ (by omega)]; exact k_x.2) (by have hlt := k_i.1; rw [upd_same]; rw [upd_other _ _ (by omega), upd_other _ _ (by omega)]; exact k_i.2) hki fun a4 s4 => ?_
  refine op_fld43_0 s4 (by omega) (by rw [upd_same]) fun a5 s5 => ?_
  refine op_ld41 s5 (by omega) (by rw [upd_same]) hc1 fun a6 s6 => ?_
  refine op_move s6 (by have := k_j.1; omega) fun a7 s7 => ?_
  refine op_idx41 s7 (by omega) (by omega) (by rw [upd_other _ _ (by omega), upd_same]) (by have hlt := k_j.1; rw [upd_same]; rw [upd_other _ _ (by omega), upd_other _ _ (by omega), upd_other _ _ (by omega), upd_other _ _ (by omega), upd_other _ _ (by omega), upd_other _ _ (by omega)]; exact k_j.2) hkj fun a8 s8 => ?_
  refine op_fld46_2 s8 (by omega) (by rw [upd_same]) fun a9 s9 => ?_
  refine op_ld44 s9 (by omega) (by rw [upd_same]) hc2 fun a10 s10 => ?_
  refine op_len44 s10 (by omega) (by rw [upd_same]) fun a11 s11 => ?_
  refine op_add s11 (by omega) (by omega) (by have hlt := k_z.1; rw [upd_other _ _ (by omega), upd_other _ _ (by omega), upd_other _ _ (by omega), upd_other _ _ (by omega), upd_other _ _ (by omega), upd_other _ _ (by omega), upd_other _ _ (by omega), upd_other _ _ (by omega), upd_other _ _ (by omega), upd_other _ _ (by omega), upd_same]; exact k_z.2) (by rw [upd_same]) fun a12 s12 => ?_
  refine op_assign s12 (by omega) fun b1 u1 => ?_
  rw [upd_same] at u1
  exact wpList_nil (hK _ b1 fun L' hL' => hF.assigned u1 hVN k_z.1 (fun t ht => by rw [upd_other _ _ (by omega), upd_other _ _ (by omega), upd_other _ _ (by omega), upd_other _ _ (by omega), upd_other _ _ (by omega), upd_other _ _ (by omega), upd_other _ _ (by omega), upd_other _ _ (by omega), upd_other _ _ (by omega), upd_other _ _ (by omega), upd_other _ _ (by omega), upd_other _ _ (by omega)]) hL')
theorem chk2_1_0 {Q : Exit → Act → World → Prop} {a : Act} {w : World} {N V : Nat} {L : List (Nat × Value)} (hF : Fr N V a L) (hVN : V ≤ N) {s i j x id : Nat} {t0 t1 t2 t3 t4 t5 t6 t7 t8 t9 t10 : TypeId} {p0 p1 p2 p3 p4 p5 p6 p7 p8 p9 p10 : String} {e0 e1 e2 e3 e4 e5 e6 e7 e8 e9 e10 : Array Edge} (hsV : V ≤ s) (hsN : s + 11 ≤ N) {b off n c ki : Nat} (hx : (x, .slice (some ⟨b, off, none⟩) n c) ∈ L) (hi : (i, .int .i64 ki) ∈ L) (hki : ki < n) {b1 off1 n1 c1 kj : Nat} (hc1 : w.cell? ⟨b, off + ki * 2 + 1, none⟩ = some (.slice (some ⟨b1, off1, none⟩) n1 c1)) (hj : (j, .int .i64 kj) ∈ L) (hkj : kj < n1) {bs : ByteArray} (hc2 : w.cell? ⟨b1, off1 + kj * 3, none⟩ = some (.string bs)) {r id2 : Nat} {ta : TypeId} {pa : String} {ea : Array Edge} (hr : r < V)
    (hno : ∀ a', Fr N V a' L → Q .normal a' w) (hyes : ∀ a', a'.defers = [] → a'.eval (.tmp r) = .bool false → Q .ret a' w) :
    Code.wp Try.prog ((Code.region id #[⟨some (s), .move (.tmp x), t0, p0, e0, none⟩, ⟨some (s + 1), .move (.tmp i), t1, p1, e1, none⟩, ⟨some (s + 2), .indexAddr 22 (.tmp (s)) (.tmp (s + 1)), t2, p2, e2, none⟩, ⟨some (s + 3), .fieldAddr 43 (.tmp (s + 2)) 1, t3, p3, e3, none⟩, ⟨some (s + 4), .load 41 (.tmp (s + 3)), t4, p4, e4, none⟩, ⟨some (s + 5), .move (.tmp j), t5, p5, e5, none⟩, ⟨some (s + 6), .indexAddr 41 (.tmp (s + 4)) (.tmp (s + 5)), t6, p6, e6, none⟩, ⟨some (s + 7), .fieldAddr 46 (.tmp (s + 6)) 0, t7, p7, e7, none⟩, ⟨some (s + 8), .load 9 (.tmp (s + 7)), t8, p8, e8, none⟩, ⟨some (s + 9), .call { callee := .builtin .len, args := #[.tmp (s + 8)], argTypes := #[9] }, t9, p9, e9, none⟩, ⟨some (s + 10), .binOp .gtr 3 (.tmp (s + 9)) (.const (.int .i64 1048576)) 3, t10, p10, e10, none⟩] false).seq (Code.cond (.tmp (s + 10)) ((Code.region id2 #[⟨some r, .assign (.const (.bool false)), ta, pa, ea, none⟩] false).seq Code.ret) Code.skip)) Q a w := by
  refine wp_seq (wp_region_list ?_)
  have s0 := Sees.self hF.defers hF.size
  have k_i := hF.known _ hi
  have k_j := hF.known _ hj
  have k_x := hF.known _ hx
  refine op_move s0 (by have := k_x.1; omega) fun a1 s1 => ?_
  refine op_move s1 (by have := k_i.1; omega) fun a2 s2 => ?_
  refine op_idx22 s2 (by omega) (by omega) (by have hlt := k_x.1; rw [upd_other _ _ (by omega), upd_same]; exact k_x.2) (by have hlt := k_i.1; rw [upd_same]; rw [upd_other _ _ (by omega)]; exact k_i.2) hki fun a3 s3 => ?_
  refine op_fld43_1 s3 (by omega) (by rw [upd_same]) fun a4 s4 => ?_
  refine op_ld41 s4 (by omega) (by rw [upd_same]) hc1 fun a5 s5 => ?_
  refine op_move s5 (by have := k_j.1; omega) fun a6 s6 => ?_
  refine op_idx41 s6 (by omega) (by omega) (by rw [upd_other _ _ (by omega), upd_same]) (by have hlt := k_j.1; rw [upd_same]; rw [upd_other _ _ (by omega), upd_other _ _ (by omega), upd_other _ _ (by omega), upd_other _ _ (by omega), upd_other _ _ (by omega)]; exact k_j.2) hkj fun a7 s7 => ?_
  refine op_fld46_0 s7 (by omega) (by rw [upd_same]) fun a8 s8 => ?_
  refine op_ld9 s8 (by omega) (by rw [upd_same]) hc2 fun a9 s9 => ?_
  refine op_len9 s9 (by omega) (by rw [upd_same]) fun a10 s10 => ?_
  refine op_gtr s10 (by omega) (by rw [upd_same]) fun a11 s11 => ?_
  refine wpList_nil ?_
  refine wp_cond_split (by rw [s11.slot (s + 10) (by omega), upd_same]) (fun _ => ?_) (fun _ => ?_)
  · refine wp_seq (wp_region_list ?_)
    refine op_const s11 fun b1 u1 => ?_
    exact wpList_nil (wp_ret (hyes _ u1.defers (by rw [u1.slot r (by omega), upd_same])))
  · exact wp_skip (hno _ (hF.of_sees s11 hVN (fun t ht => by rw [upd_other _ _ (by omega), upd_other _ _ (by omega), upd_other _ _ (by omega), upd_other _ _ (by omega), upd_other _ _ (by omega), upd_other _ _ (by omega), upd_other _ _ (by omega), upd_other _ _ (by omega), upd_other _ _ (by omega), upd_other _ _ (by omega), upd_other _ _ (by omega)])))
theorem add2_1_0 {Q : Exit → Act → World → Prop} {a : Act} {w : World} {N V : Nat} {L : List (Nat × Value)} (hF : Fr N V a L) (hVN : V ≤ N) {s i j x z id : Nat} {t0 t1 t2 t3 t4 t5 t6 t7 t8 t9 t10 t11 : TypeId} {p0 p1 p2 p3 p4 p5 p6 p7 p8 p9 p10 p11 : String} {e0 e1 e2 e3 e4 e5 e6 e7 e8 e9 e10 e11 : Array Edge} (hsV : V ≤ s) (hsN : s + 12 ≤ N) {zq : Int} (hz : (z, .int .i64 zq) ∈ L) {b off n c ki : Nat} (hx : (x, .slice (some ⟨b, off, none⟩) n c) ∈ L) (hi : (i, .int .i64 ki) ∈ L) (hki : ki < n) {b1 off1 n1 c1 kj : Nat} (hc1 : w.cell? ⟨b, off + ki * 2 + 1, none⟩ = some (.slice (some ⟨b1, off1, none⟩) n1 c1)) (hj : (j, .int .i64 kj) ∈ L) (hkj : kj < n1) {bs : ByteArray} (hc2 : w.cell? ⟨b1, off1 + kj * 3, none⟩ = some (.string bs)) {tz : TypeId} {pz : String} {ez : Array Edge}
    (hK : ∀ (q : Int) (a' : Act), (∀ L', (∀ p, p ∈ L' → p = (z, .int .i64 q) ∨ (p ∈ L ∧ p.1 ≠ z)) → Fr N V a' L') → Q .normal a' w) :
    Code.wp Try.prog (Code.region id #[⟨some (s), .move (.tmp z), t0, p0, e0, none⟩, ⟨some (s + 1), .move (.tmp x), t1, p1, e1, none⟩, ⟨some (s + 2), .move (.tmp i), t2, p2, e2, none⟩, ⟨some (s + 3), .indexAddr 22 (.tmp (s + 1)) (.tmp (s + 2)), t3, p3, e3, none⟩, ⟨some (s + 4), .fieldAddr 43 (.tmp (s + 3)) 1, t4, p4, e4, none⟩, ⟨some (s + 5), .load 41 (.tmp (s + 4)), t5, p5, e5, none⟩, ⟨some (s + 6), .move (.tmp j), t6, p6, e6, none⟩, ⟨some (s + 7), .indexAddr 41 (.tmp (s + 5)) (.tmp (s + 6)), t7, p7, e7, none⟩, ⟨some (s + 8), .fieldAddr 46 (.tmp (s + 7)) 0, t8, p8, e8, none⟩, ⟨some (s + 9), .load 9 (.tmp (s + 8)), t9, p9, e9, none⟩, ⟨some (s + 10), .call { callee := .builtin .len, args := #[.tmp (s + 9)], argTypes := #[9] }, t10, p10, e10, none⟩, ⟨some (s + 11), .binOp .add 3 (.tmp (s)) (.tmp (s + 10)) 3, t11, p11, e11, none⟩, ⟨some z, .assign (.tmp (s + 11)), tz, pz, ez, none⟩] false) Q a w := by
  refine wp_region_list ?_
  have s0 := Sees.self hF.defers hF.size
  have k_i := hF.known _ hi
  have k_j := hF.known _ hj
  have k_x := hF.known _ hx
  have k_z := hF.known _ hz
  refine op_move s0 (by have := k_z.1; omega) fun a1 s1 => ?_
  refine op_move s1 (by have := k_x.1; omega) fun a2 s2 => ?_
  refine op_move s2 (by have := k_i.1; omega) fun a3 s3 => ?_
  refine op_idx22 s3 (by omega) (by omega) (by have hlt := k_x.1; rw [upd_other _ _ (by omega), upd_same]; rw [upd_other _ _ (by omega)]; exact k_x.2) (by have hlt := k_i.1; rw [upd_same]; rw [upd_other _ _ (by omega), upd_other _ _ (by omega)]; exact k_i.2) hki fun a4 s4 => ?_
  refine op_fld43_1 s4 (by omega) (by rw [upd_same]) fun a5 s5 => ?_
  refine op_ld41 s5 (by omega) (by rw [upd_same]) hc1 fun a6 s6 => ?_
  refine op_move s6 (by have := k_j.1; omega) fun a7 s7 => ?_
  refine op_idx41 s7 (by omega) (by omega) (by rw [upd_other _ _ (by omega), upd_same]) (by have hlt := k_j.1; rw [upd_same]; rw [upd_other _ _ (by omega), upd_other _ _ (by omega), upd_other _ _ (by omega), upd_other _ _ (by omega), upd_other _ _ (by omega), upd_other _ _ (by omega)]; exact k_j.2) hkj fun a8 s8 => ?_
  refine op_fld46_0 s8 (by omega) (by rw [upd_same]) fun a9 s9 => ?_
  refine op_ld9 s9 (by omega) (by rw [upd_same]) hc2 fun a10 s10 => ?_
  refine op_len9 s10 (by omega) (by rw [upd_same]) fun a11 s11 => ?_
  refine op_add s11 (by omega) (by omega) (by have hlt := k_z.1; rw [upd_other _ _ (by omega), upd_other _ _ (by omega), upd_other _ _ (by omega), upd_other _ _ (by omega), upd_other _ _ (by omega), upd_other _ _ (by omega), upd_other _ _ (by omega), upd_other _ _ (by omega), upd_other _ _ (by omega), upd_other _ _ (by omega), upd_same]; exact k_z.2) (by rw [upd_same]) fun a12 s12 => ?_
  refine op_assign s12 (by omega) fun b1 u1 => ?_
  rw [upd_same] at u1
  exact wpList_nil (hK _ b1 fun L' hL' => hF.assigned u1 hVN k_z.1 (fun t ht => by rw [upd_other _ _ (by omega), upd_other _ _ (by omega), upd_other _ _ (by omega), upd_other _ _ (by omega), upd_other _ _ (by omega), upd_other _ _ (by omega), upd_other _ _ (by omega), upd_other _ _ (by omega), upd_other _ _ (by omega), upd_other _ _ (by omega), upd_other _ _ (by omega), upd_other _ _ (by omega)]) hL')
theorem chk2_1_1 {Q : Exit → Act → World → Prop} {a : Act} {w : World} {N V : Nat} {L : List (Nat × Value)} (hF : Fr N V a L) (hVN : V ≤ N) {s i j x id : Nat} {t0 t1 t2 t3 t4 t5 t6 t7 t8 t9 t10 : TypeId} {p0 p1 p2 p3 p4 p5 p6 p7 p8 p9 p10 : String} {e0 e1 e2 e3 e4 e5 e6 e7 e8 e9 e10 : Array Edge} (hsV : V ≤ s) (hsN : s + 11 ≤ N) {b off n c ki : Nat} (hx : (x, .slice (some ⟨b, off, none⟩) n c) ∈ L) (hi : (i, .int .i64 ki) ∈ L) (hki : ki < n) {b1 off1 n1 c1 kj : Nat} (hc1 : w.cell? ⟨b, off + ki * 2 + 1, none⟩ = some (.slice (some ⟨b1, off1, none⟩) n1 c1)) (hj : (j, .int .i64 kj) ∈ L) (hkj : kj < n1) {bs : ByteArray} (hc2 : w.cell? ⟨b1, off1 + kj * 3 + 1, none⟩ = some (.string bs)) {r id2 : Nat} {ta : TypeId} {pa : String} {ea : Array Edge} (hr : r < V)
    (hno : ∀ a', Fr N V a' L → Q .normal a' w) (hyes : ∀ a', a'.defers = [] → a'.eval (.tmp r) = .bool false → Q .ret a' w) :
    Code.wp Try.prog ((Code.region id #[⟨some (s), .move (.tmp x), t0, p0, e0, none⟩, ⟨some (s + 1), .move (.tmp i), t1, p1, e1, none⟩, ⟨some (s + 2), .indexAddr 22 (.tmp (s)) (.tmp (s + 1)), t2, p2, e2, none⟩, ⟨some (s + 3), .fieldAddr 43 (.tmp (s + 2)) 1, t3, p3, e3, none⟩, ⟨some (s + 4), .load 41 (.tmp (s + 3)), t4, p4, e4, none⟩, ⟨some (s + 5), .move (.tmp j), t5, p5, e5, none⟩, ⟨some (s + 6), .indexAddr 41 (.tmp (s + 4)) (.tmp (s + 5)), t6, p6, e6, none⟩, ⟨some (s + 7), .fieldAddr 46 (.tmp (s + 6)) 1, t7, p7, e7, none⟩, ⟨some (s + 8), .load 9 (.tmp (s + 7)), t8, p8, e8, none⟩, ⟨some (s + 9), .call { callee := .builtin .len, args := #[.tmp (s + 8)], argTypes := #[9] }, t9, p9, e9, none⟩, ⟨some (s + 10), .binOp .gtr 3 (.tmp (s + 9)) (.const (.int .i64 1048576)) 3, t10, p10, e10, none⟩] false).seq (Code.cond (.tmp (s + 10)) ((Code.region id2 #[⟨some r, .assign (.const (.bool false)), ta, pa, ea, none⟩] false).seq Code.ret) Code.skip)) Q a w := by
  refine wp_seq (wp_region_list ?_)
  have s0 := Sees.self hF.defers hF.size
  have k_i := hF.known _ hi
  have k_j := hF.known _ hj
  have k_x := hF.known _ hx
  refine op_move s0 (by have := k_x.1; omega) fun a1 s1 => ?_
  refine op_move s1 (by have := k_i.1; omega) fun a2 s2 => ?_
  refine op_idx22 s2 (by omega) (by omega) (by have hlt := k_x.1; rw [upd_other _ _ (by omega), upd_same]; exact k_x.2) (by have hlt := k_i.1; rw [upd_same]; rw [upd_other _ _ (by omega)]; exact k_i.2) hki fun a3 s3 => ?_
  refine op_fld43_1 s3 (by omega) (by rw [upd_same]) fun a4 s4 => ?_
  refine op_ld41 s4 (by omega) (by rw [upd_same]) hc1 fun a5 s5 => ?_
  refine op_move s5 (by have := k_j.1; omega) fun a6 s6 => ?_
  refine op_idx41 s6 (by omega) (by omega) (by rw [upd_other _ _ (by omega), upd_same]) (by have hlt := k_j.1; rw [upd_same]; rw [upd_other _ _ (by omega), upd_other _ _ (by omega), upd_other _ _ (by omega), upd_other _ _ (by omega), upd_other _ _ (by omega)]; exact k_j.2) hkj fun a7 s7 => ?_
  refine op_fld46_1 s7 (by omega) (by rw [upd_same]) fun a8 s8 => ?_
  refine op_ld9 s8 (by omega) (by rw [upd_same]) hc2 fun a9 s9 => ?_
  refine op_len9 s9 (by omega) (by rw [upd_same]) fun a10 s10 => ?_
  refine op_gtr s10 (by omega) (by rw [upd_same]) fun a11 s11 => ?_
  refine wpList_nil ?_
  refine wp_cond_split (by rw [s11.slot (s + 10) (by omega), upd_same]) (fun _ => ?_) (fun _ => ?_)
  · refine wp_seq (wp_region_list ?_)
    refine op_const s11 fun b1 u1 => ?_
    exact wpList_nil (wp_ret (hyes _ u1.defers (by rw [u1.slot r (by omega), upd_same])))
  · exact wp_skip (hno _ (hF.of_sees s11 hVN (fun t ht => by rw [upd_other _ _ (by omega), upd_other _ _ (by omega), upd_other _ _ (by omega), upd_other _ _ (by omega), upd_other _ _ (by omega), upd_other _ _ (by omega), upd_other _ _ (by omega), upd_other _ _ (by omega), upd_other _ _ (by omega), upd_other _ _ (by omega), upd_other _ _ (by omega)])))
theorem add2_1_1 {Q : Exit → Act → World → Prop} {a : Act} {w : World} {N V : Nat} {L : List (Nat × Value)} (hF : Fr N V a L) (hVN : V ≤ N) {s i j x z id : Nat} {t0 t1 t2 t3 t4 t5 t6 t7 t8 t9 t10 t11 : TypeId} {p0 p1 p2 p3 p4 p5 p6 p7 p8 p9 p10 p11 : String} {e0 e1 e2 e3 e4 e5 e6 e7 e8 e9 e10 e11 : Array Edge} (hsV : V ≤ s) (hsN : s + 12 ≤ N) {zq : Int} (hz : (z, .int .i64 zq) ∈ L) {b off n c ki : Nat} (hx : (x, .slice (some ⟨b, off, none⟩) n c) ∈ L) (hi : (i, .int .i64 ki) ∈ L) (hki : ki < n) {b1 off1 n1 c1 kj : Nat} (hc1 : w.cell? ⟨b, off + ki * 2 + 1, none⟩ = some (.slice (some ⟨b1, off1, none⟩) n1 c1)) (hj : (j, .int .i64 kj) ∈ L) (hkj : kj < n1) {bs : ByteArray} (hc2 : w.cell? ⟨b1, off1 + kj * 3 + 1, none⟩ = some (.string bs)) {tz : TypeId} {pz : String} {ez : Array Edge}
    (hK : ∀ (q : Int) (a' : Act), (∀ L', (∀ p, p ∈ L' → p = (z, .int .i64 q) ∨ (p ∈ L ∧ p.1 ≠ z)) → Fr N V a' L') → Q .normal a' w) :
    Code.wp Try.prog (Code.region id #[⟨some (s), .move (.tmp z), t0, p0, e0, none⟩, ⟨some (s + 1), .move (.tmp x), t1, p1, e1, none⟩, ⟨some (s + 2), .move (.tmp i), t2, p2, e2, none⟩, ⟨some (s + 3), .indexAddr 22 (.tmp (s + 1)) (.tmp (s + 2)), t3, p3, e3, none⟩, ⟨some (s + 4), .fieldAddr 43 (.tmp (s + 3)) 1, t4, p4, e4, none⟩, ⟨some (s + 5), .load 41 (.tmp (s + 4)), t5, p5, e5, none⟩, ⟨some (s + 6), .move (.tmp j), t6, p6, e6, none⟩, ⟨some (s + 7), .indexAddr 41 (.tmp (s + 5)) (.tmp (s + 6)), t7, p7, e7, none⟩, ⟨some (s + 8), .fieldAddr 46 (.tmp (s + 7)) 1, t8, p8, e8, none⟩, ⟨some (s + 9), .load 9 (.tmp (s + 8)), t9, p9, e9, none⟩, ⟨some (s + 10), .call { callee := .builtin .len, args := #[.tmp (s + 9)], argTypes := #[9] }, t10, p10, e10, none⟩, ⟨some (s + 11), .binOp .add 3 (.tmp (s)) (.tmp (s + 10)) 3, t11, p11, e11, none⟩, ⟨some z, .assign (.tmp (s + 11)), tz, pz, ez, none⟩] false) Q a w := by
  refine wp_region_list ?_
  have s0 := Sees.self hF.defers hF.size
  have k_i := hF.known _ hi
  have k_j := hF.known _ hj
  have k_x := hF.known _ hx
  have k_z := hF.known _ hz
  refine op_move s0 (by have := k_z.1; omega) fun a1 s1 => ?_
  refine op_move s1 (by have := k_x.1; omega) fun a2 s2 => ?_
  refine op_move s2 (by have := k_i.1; omega) fun a3 s3 => ?_
  refine op_idx22 s3 (by omega) (by omega) (by have hlt := k_x.1; rw [upd_other _ _ (by omega), upd_same]; rw [upd_other _ _ (by omega)]; exact k_x.2) (by have hlt := k_i.1; rw [upd_same]; rw [upd_other _ _ (by omega), upd_other _ _ (by omega)]; exact k_i.2) hki fun a4 s4 => ?_
  refine op_fld43_1 s4 (by omega) (by rw [upd_same]) fun a5 s5 => ?_
  refine op_ld41 s5 (by omega) (by rw [upd_same]) hc1 fun a6 s6 => ?_
  refine op_move s6 (by have := k_j.1; omega) fun a7 s7 => ?_
  refine op_idx41 s7 (by omega) (by omega) (by rw [upd_other _ _ (by omega), upd_same]) (by have hlt := k_j.1; rw [upd_same]; rw [upd_other _ _ (by omega), upd_other _ _ (by omega), upd_other _ _ (by omega), upd_other _ _ (by omega), upd_other _ _ (by omega), upd_other _ _ (by omega)]; exact k_j.2) hkj fun a8 s8 => ?_
  refine op_fld46_1 s8 (by omega) (by rw [upd_same]) fun a9 s9 => ?_
  refine op_ld9 s9 (by omega) (by rw [upd_same]) hc2 fun a10 s10 => ?_
  refine op_len9 s10 (by omega) (by rw [upd_same]) fun a11 s11 => ?_
  refine op_add s11 (by omega) (by omega) (by have hlt := k_z.1; rw [upd_other _ _ (by omega), upd_other _ _ (by omega), upd_other _ _ (by omega), upd_other _ _ (by omega), upd_other _ _ (by omega), upd_other _ _ (by omega), upd_other _ _ (by omega), upd_other _ _ (by omega), upd_other _ _ (by omega), upd_other _ _ (by omega), upd_same]; exact k_z.2) (by rw [upd_same]) fun a12 s12 => ?_
  refine op_assign s12 (by omega) fun b1 u1 => ?_
  rw [upd_same] at u1
  exact wpList_nil (hK _ b1 fun L' hL' => hF.assigned u1 hVN k_z.1 (fun t ht => by rw [upd_other _ _ (by omega), upd_other _ _ (by omega), upd_other _ _ (by omega), upd_other _ _ (by omega), upd_other _ _ (by omega), upd_other _ _ (by omega), upd_other _ _ (by omega), upd_other _ _ (by omega), upd_other _ _ (by omega), upd_other _ _ (by omega), upd_other _ _ (by omega), upd_other _ _ (by omega)]) hL')
theorem chk2_1_2 {Q : Exit → Act → World → Prop} {a : Act} {w : World} {N V : Nat} {L : List (Nat × Value)} (hF : Fr N V a L) (hVN : V ≤ N) {s i j x id : Nat} {t0 t1 t2 t3 t4 t5 t6 t7 t8 t9 t10 : TypeId} {p0 p1 p2 p3 p4 p5 p6 p7 p8 p9 p10 : String} {e0 e1 e2 e3 e4 e5 e6 e7 e8 e9 e10 : Array Edge} (hsV : V ≤ s) (hsN : s + 11 ≤ N) {b off n c ki : Nat} (hx : (x, .slice (some ⟨b, off, none⟩) n c) ∈ L) (hi : (i, .int .i64 ki) ∈ L) (hki : ki < n) {b1 off1 n1 c1 kj : Nat} (hc1 : w.cell? ⟨b, off + ki * 2 + 1, none⟩ = some (.slice (some ⟨b1, off1, none⟩) n1 c1)) (hj : (j, .int .i64 kj) ∈ L) (hkj : kj < n1) {ao2 : Option Addr} {n2 c2 : Nat} (hc2 : w.cell? ⟨b1, off1 + kj * 3 + 2, none⟩ = some (.slice ao2 n2 c2)) {r id2 : Nat} {ta : TypeId} {pa : String} {ea : Array Edge} (hr : r < V)
    (hno : ∀ a', Fr N V a' L → Q .normal a' w) (hyes : ∀ a', a'.defers = [] → a'.eval (.tmp r) = .bool false → Q .ret a' w) :
    Code.wp Try.prog ((Code.region id #[⟨some (s), .move (.tmp x), t0, p0, e0, none⟩, ⟨some (s + 1), .move (.tmp i), t1, p1, e1, none⟩, ⟨some (s + 2), .indexAddr 22 (.tmp (s)) (.tmp (s + 1)), t2, p2, e2, none⟩, ⟨some (s + 3), .fieldAddr 43 (.tmp (s + 2)) 1, t3, p3, e3, none⟩, ⟨some (s + 4), .load 41 (.tmp (s + 3)), t4, p4, e4, none⟩, ⟨some (s + 5), .move (.tmp j), t5, p5, e5, none⟩, ⟨some (s + 6), .indexAddr 41 (.tmp (s + 4)) (.tmp (s + 5)), t6, p6, e6, none⟩, ⟨some (s + 7), .fieldAddr 46 (.tmp (s + 6)) 2, t7, p7, e7, none⟩, ⟨some (s + 8), .load 44 (.tmp (s + 7)), t8, p8, e8, none⟩, ⟨some (s + 9), .call { callee := .builtin .len, args := #[.tmp (s + 8)], argTypes := #[44] }, t9, p9, e9, none⟩, ⟨some (s + 10), .binOp .gtr 3 (.tmp (s + 9)) (.const (.int .i64 1048576)) 3, t10, p10, e10, none⟩] false).seq (Code.cond (.tmp (s + 10)) ((Code.region id2 #[⟨some r, .assign (.const (.bool false)), ta, pa, ea, none⟩] false).seq Code.ret) Code.skip)) Q a w := by
  refine wp_seq (wp_region_list ?_)
  have s0 := Sees.self hF.defers hF.size
  have k_i := hF.known _ hi
  have k_j := hF.known _ hj
  have k_x := hF.known _ hx
  refine op_move s0 (by have := k_x.1; omega) fun a1 s1 => ?_
  refine op_move s1 (by have := k_i.1; omega) fun a2 s2 => ?_
  refine op_idx22 s2 (by omega) (by omega) (by have hlt := k_x.1; rw [upd_other _ _ (by omega), upd_same]; exact k_x.2) (by have hlt := k_i.1; rw [upd_same]; rw [upd_other _ _ (by omega)]; exact k_i.2) hki fun a3 s3 => ?_
  refine op_fld43_1 s3 (by omega) (by rw [upd_same]) fun a4 s4 => ?_
  refine op_ld41 s4 (by omega) (by rw [upd_same]) hc1 fun a5 s5 => ?_
  refine op_move s5 (by have := k_j.1; omega) fun a6 s6 => ?_
  refine op_idx41 s6 (by omega) (by omega) (by rw [upd_other _ _ (by omega), upd_same]) (by have hlt := k_j.1; rw [upd_same]; rw [upd_other _ _ (by omega), upd_other _ _ (by omega), upd_other _ _ (by omega), upd_other _ _ (by omega), upd_other _ _ (by omega)]; exact k_j.2) hkj fun a7 s7 => ?_
  refine op_fld46_2 s7 (by omega) (by rw [upd_same]) fun a8 s8 => ?_
  refine op_ld44 s8 (by omega) (by rw [upd_same]) hc2 fun a9 s9 => ?_
  refine op_len44 s9 (by omega) (by rw [upd_same]) fun a10 s10 => ?_
  refine op_gtr s10 (by omega) (by rw [upd_same]) fun a11 s11 => ?_
  refine wpList_nil ?_
  refine wp_cond_split (by rw [s11.slot (s + 10) (by omega), upd_same]) (fun _ => ?_) (fun _ => ?_)
  · refine wp_seq (wp_region_list ?_)
    refine op_const s11 fun b1 u1 => ?_
    exact wpList_nil (wp_ret (hyes _ u1.defers (by rw [u1.slot r (by omega), upd_same])))
  · exact wp_skip (hno _ (hF.of_sees s11 hVN (fun t ht => by rw [upd_other _ _ (by omega), upd_other _ _ (by omega), upd_other _ _ (by omega), upd_other _ _ (by omega), upd_other _ _ (by omega), upd_other _ _ (by omega), upd_other _ _ (by omega), upd_other _ _ (by omega), upd_other _ _ (by omega), upd_other _ _ (by omega), upd_other _ _ (by omega)])))
theorem add2_1_2 {Q : Exit → Act → World → Prop} {a : Act} {w : World} {N V : Nat} {L : List (Nat × Value)} (hF : Fr N V a L) (hVN : V ≤ N) {s i j x z id : Nat} {t0 t1 t2 t3 t4 t5 t6 t7 t8 t9 t10 t11 : TypeId} {p0 p1 p2 p3 p4 p5 p6 p7 p8 p9 p10 p11 : String} {e0 e1 e2 e3 e4 e5 e6 e7 e8 e9 e10 e11 : Array Edge} (hsV : V ≤ s) (hsN : s + 12 ≤ N) {zq : Int} (hz : (z, .int .i64 zq) ∈ L) {b off n c ki : Nat} (hx : (x, .slice (some ⟨b, off, none⟩) n c) ∈ L) (hi : (i, .int .i64 ki) ∈ L) (hki : ki < n) {b1 off1 n1 c1 kj : Nat} (hc1 : w.cell? ⟨b, off + ki * 2 + 1, none⟩ = some (.slice (some ⟨b1, off1, none⟩) n1 c1)) (hj : (j, .int .i64 kj) ∈ L) (hkj : kj < n1) {ao2 : Option Addr} {n2 c2 : Nat} (hc2 : w.cell? ⟨b1, off1 + kj * 3 + 2, none⟩ = some (.slice ao2 n2 c2)) {tz : TypeId} {pz : String} {ez : Array Edge}
    (hK : ∀ (q : Int) (a' : Act), (∀ L', (∀ p, p ∈ L' → p = (z, .int .i64 q) ∨ (p ∈ L ∧ p.1 ≠ z)) → Fr N V a' L') → Q .normal a' w) :
    Code.wp Try.prog (Code.region id #[⟨some (s), .move (.tmp z), t0, p0, e0, none⟩, ⟨some (s + 1), .move (.tmp x), t1, p1, e1, none⟩, ⟨some (s + 2), .move (.tmp i), t2, p2, e2, none⟩, ⟨some (s + 3), .indexAddr 22 (.tmp (s + 1)) (.tmp (s + 2)), t3, p3, e3, none⟩, ⟨some (s + 4), .fieldAddr 43 (.tmp (s + 3)) 1, t4, p4, e4, none⟩, ⟨some (s + 5), .load 41 (.tmp (s + 4)), t5, p5, e5, none⟩, ⟨some (s + 6), .move (.tmp j), t6, p6, e6, none⟩, ⟨some (s + 7), .indexAddr 41 (.tmp (s + 5)) (.tmp (s + 6)), t7, p7, e7, none⟩, ⟨some (s + 8), .fieldAddr 46 (.tmp (s + 7)) 2, t8, p8, e8, none⟩, ⟨some (s + 9), .load 44 (.tmp (s + 8)), t9, p9, e9, none⟩, ⟨some (s + 10), .call { callee := .builtin .len, args := #[.tmp (s + 9)], argTypes := #[44] }, t10, p10, e10, none⟩, ⟨some (s + 11), .binOp .add 3 (.tmp (s)) (.tmp (s + 10)) 3, t11, p11, e11, none⟩, ⟨some z, .assign (.tmp (s + 11)), tz, pz, ez, none⟩] false) Q a w := by
  refine wp_region_list ?_
  have s0 := Sees.self hF.defers hF.size
  have k_i := hF.known _ hi
  have k_j := hF.known _ hj
  have k_x := hF.known _ hx
  have k_z := hF.known _ hz
  refine op_move s0 (by have := k_z.1; omega) fun a1 s1 => ?_
  refine op_move s1 (by have := k_x.1; omega) fun a2 s2 => ?_
  refine op_move s2 (by have := k_i.1; omega) fun a3 s3 => ?_
  refine op_idx22 s3 (by omega) (by omega) (by have hlt := k_x.1; rw [upd_other _ _ (by omega), upd_same]; rw [upd_other _ _ (by omega)]; exact k_x.2) (by have hlt := k_i.1; rw [upd_same]; rw [upd_other _ _ (by omega), upd_other _ _ (by omega)]; exact k_i.2) hki fun a4 s4 => ?_
  refine op_fld43_1 s4 (by omega) (by rw [upd_same]) fun a5 s5 => ?_
  refine op_ld41 s5 (by omega) (by rw [upd_same]) hc1 fun a6 s6 => ?_
  refine op_move s6 (by have := k_j.1; omega) fun a7 s7 => ?_
  refine op_idx41 s7 (by omega) (by omega) (by rw [upd_other _ _ (by omega), upd_same]) (by have hlt := k_j.1; rw [upd_same]; rw [upd_other _ _ (by omega), upd_other _ _ (by omega), upd_other _ _ (by omega), upd_other _ _ (by omega), upd_other _ _ (by omega), upd_other _ _ (by omega)]; exact k_j.2) hkj fun a8 s8 => ?_
  refine op_fld46_2 s8 (by omega) (by rw [upd_same]) fun a9 s9 => ?_
  refine op_ld44 s9 (by omega) (by rw [upd_same]) hc2 fun a10 s10 => ?_
  refine op_len44 s10 (by omega) (by rw [upd_same]) fun a11 s11 => ?_
  refine op_add s11 (by omega) (by omega) (by have hlt := k_z.1; rw [upd_other _ _ (by omega), upd_other _ _ (by omega), upd_other _ _ (by omega), upd_other _ _ (by omega), upd_other _ _ (by omega), upd_other _ _ (by omega), upd_other _ _ (by omega), upd_other _ _ (by omega), upd_other _ _ (by omega), upd_other _ _ (by omega), upd_same]; exact k_z.2) (by rw [upd_same]) fun a12 s12 => ?_
  refine op_assign s12 (by omega) fun b1 u1 => ?_
  rw [upd_same] at u1
  exact wpList_nil (hK _ b1 fun L' hL' => hF.assigned u1 hVN k_z.1 (fun t ht => by rw [upd_other _ _ (by omega), upd_other _ _ (by omega), upd_other _ _ (by omega), upd_other _ _ (by omega), upd_other _ _ (by omega), upd_other _ _ (by omega), upd_other _ _ (by omega), upd_other _ _ (by omega), upd_other _ _ (by omega), upd_other _ _ (by omega), upd_other _ _ (by omega), upd_other _ _ (by omega)]) hL')
theorem chk3_0 {Q : Exit → Act → World → Prop} {a : Act} {w : World} {N V : Nat} {L : List (Nat × Value)} (hF : Fr N V a L) (hVN : V ≤ N) {s i j l x id : Nat} {t0 t1 t2 t3 t4 t5 t6 t7 t8 t9 t10 t11 t12 t13 : TypeId} {p0 p1 p2 p3 p4 p5 p6 p7 p8 p9 p10 p11 p12 p13 : String} {e0 e1 e2 e3 e4 e5 e6 e7 e8 e9 e10 e11 e12 e13 : Array Edge} (hsV : V ≤ s) (hsN : s + 14 ≤ N) {b off n c ki : Nat} (hx : (x, .slice (some ⟨b, off, none⟩) n c) ∈ L) (hi : (i, .int .i64 ki) ∈ L) (hki : ki < n) {b1 off1 n1 c1 kj : Nat} (hc1 : w.cell? ⟨b, off + ki * 2, none⟩ = some (.slice (some ⟨b1, off1, none⟩) n1 c1)) (hj : (j, .int .i64 kj) ∈ L) (hkj : kj < n1) {b2 off2 n2 c2 kl : Nat} (hc2 : w.cell? ⟨b1, off1 + kj * 3 + 2, none⟩ = some (.slice (some ⟨b2, off2, none⟩) n2 c2)) (hl : (l, .int .i64 kl) ∈ L) (hkl : kl < n2) {bs : ByteArray} (hc3 : w.cell? ⟨b2, off2 + kl, none⟩ = some (.string bs)) {r id2 : Nat} {ta : TypeId} {pa : String} {ea : Array Edge} (hr : r < V)
    (hno : ∀ a', Fr N V a' L → Q .normal a' w) (hyes : ∀ a', a'.defers = [] → a'.eval (.tmp r) = .bool false → Q .ret a' w) :
    Code.wp Try.prog ((Code.region id #[⟨some (s), .move (.tmp x), t0, p0, e0, none⟩, ⟨some (s + 1), .move (.tmp i), t1, p1, e1, none⟩, ⟨some (s + 2), .indexAddr 22 (.tmp (s)) (.tmp (s + 1)), t2, p2, e2, none⟩, ⟨some (s + 3), .fieldAddr 43 (.tmp (s + 2)) 0, t3, p3, e3, none⟩, ⟨some (s + 4), .load 41 (.tmp (s + 3)), t4, p4, e4, none⟩, ⟨some (s + 5), .move (.tmp j), t5, p5, e5, none⟩, ⟨some (s + 6), .indexAddr 41 (.tmp (s + 4)) (.tmp (s + 5)), t6, p6, e6, none⟩, ⟨some (s + 7), .fieldAddr 46 (.tmp (s + 6)) 2, t7, p7, e7, none⟩, ⟨some (s + 8), .load 44 (.tmp (s + 7)), t8, p8, e8, none⟩, ⟨some (s + 9), .move (.tmp l), t9, p9, e9, none⟩, ⟨some (s + 10), .indexAddr 44 (.tmp (s + 8)) (.tmp (s + 9)), t10, p10, e10, none⟩, ⟨some (s + 11), .load 9 (.tmp (s + 10)), t11, p11, e11, none⟩, ⟨some (s + 12), .call { callee := .builtin .len, args := #[.tmp (s + 11)], argTypes := #[9] }, t12, p12, e12, none⟩, ⟨some (s + 13), .binOp .gtr 3 (.tmp (s + 12)) (.const (.int .i64 1048576)) 3, t13, p13, e13, none⟩] false).seq (Code.cond (.tmp (s + 13)) ((Code.region id2 #[⟨some r, .assign (.const (.bool false)), ta, pa, ea, none⟩] false).seq Code.ret) Code.skip)) Q a w := by
  refine wp_seq (wp_region_list ?_)
  have s0 := Sees.self hF.defers hF.size
  have k_i := hF.known _ hi
  have k_j := hF.known _ hj
  have k_l := hF.known _ hl
  have k_x := hF.known _ hx
  refine op_move s0 (by have := k_x.1; omega) fun a1 s1 => ?_
  refine op_move s1 (by have := k_i.1; omega) fun a2 s2 => ?_
  refine op_idx22 s2 (by omega) (by omega) (by have hlt := k_x.1; rw [upd_other _ _ (by omega), upd_same]; exact k_x.2) (by have hlt := k_i.1; rw [upd_same]; rw [upd_other _ _ (by omega)]; exact k_i.2) hki fun a3 s3 => ?_
  refine op_fld43_0 s3 (by omega) (by rw [upd_same]) fun a4 s4 => ?_
  refine op_ld41 s4 (by omega) (by rw [upd_same]) hc1 fun a5 s5 => ?_
  refine op_move s5 (by have := k_j.1; omega) fun a6 s6 => ?_
  refine op_idx41 s6 (by omega) (by omega) (by rw [upd_other _ _ (by omega), upd_same]) (by have hlt := k_j.1; rw [upd_same]; rw [upd_other _ _ (by omega), upd_other _ _ (by omega), upd_other _ _ (by omega), upd_other _ _ (by omega), upd_other _ _ (by omega)]; exact k_j.2) hkj fun a7 s7 => ?_
  refine op_fld46_2 s7 (by omega) (by rw [upd_same]) fun a8 s8 => ?_
  refine op_ld44 s8 (by omega) (by rw [upd_same]) hc2 fun a9 s9 => ?_
  refine op_move s9 (by have := k_l.1; omega) fun a10 s10 => ?_
  refine op_idx44 s10 (by omega) (by omega) (by rw [upd_other _ _ (by omega), upd_same]) (by have hlt := k_l.1; rw [upd_same]; rw [upd_other _ _ (by omega), upd_other _ _ (by omega), upd_other _ _ (by omega), upd_other _ _ (by omega), upd_other _ _ (by omega), upd_other _ _ (by omega), upd_other _ _ (by omega), upd_other _ _ (by omega), upd_other _ _ (by omega)]; exact k_l.2) hkl fun a11 s11 => ?_
  refine op_ld9 s11 (by omega) (by rw [upd_same]) hc3 fun a12 s12 => ?_
  refine op_len9 s12 (by omega) (by rw [upd_same]) fun a13 s13 => ?_
  refine op_gtr s13 (by omega) (by rw [upd_same]) fun a14 s14 => ?_
  refine wpList_nil ?_
  refine wp_cond_split (by rw [s14.slot (s + 13) (by omega), upd_same]) (fun _ => ?_) (fun _ => ?_)
  · refine wp_seq (wp_region_list ?_)
    refine op_const s14 fun b1 u1 => ?_
    exact wpList_nil (wp_ret (hyes _ u1.defers (by rw [u1.slot r (by omega), upd_same])))
  · exact wp_skip (hno _ (hF.of_sees s14 hVN (fun t ht => by rw [upd_other _ _ (by omega), upd_other _ _ (by omega), upd_other _ _ (by omega), upd_other _ _ (by omega), upd_other _ _ (by omega), upd_other _ _ (by omega), upd_other _ _ (by omega), upd_other _ _ (by omega), upd_other _ _ (by omega), upd_other _ _ (by omega), upd_other _ _ (by omega), upd_other _ _ (by omega), upd_other _ _ (by omega), upd_other _ _ (by omega)])))
theorem add3_0 {Q : Exit → Act → World → Prop} {a : Act} {w : World} {N V : Nat} {L : List (Nat × Value)} (hF : Fr N V a L) (hVN : V ≤ N) {s i j l x z id : Nat} {t0 t1 t2 t3 t4 t5 t6 t7 t8 t9 t10 t11 t12 t13 t14 : TypeId} {p0 p1 p2 p3 p4 p5 p6 p7 p8 p9 p10 p11 p12 p13 p14 : String} {e0 e1 e2 e3 e4 e5 e6 e7 e8 e9 e10 e11 e12 e13 e14 : Array Edge} (hsV : V ≤ s) (hsN : s + 15 ≤ N) {zq : Int} (hz : (z, .int .i64 zq) ∈ L) {b off n c ki : Nat} (hx : (x, .slice (some ⟨b, off, none⟩) n c) ∈ L) (hi : (i, .int .i64 ki) ∈ L) (hki : ki < n) {b1 off1 n1 c1 kj : Nat} (hc1 : w.cell? ⟨b, off + ki * 2, none⟩ = some (.slice (some ⟨b1, off1, none⟩) n1 c1)) (hj : (j, .int .i64 kj) ∈ L) (hkj : kj < n1) {b2 off2 n2 c2 kl : Nat} (hc2 : w.cell? ⟨b1, off1 + kj * 3 + 2, none⟩ = some (.slice (some ⟨b2, off2, none⟩) n2 c2)) (hl : (l, .int .i64 kl) ∈ L) (hkl : kl < n2) {bs : ByteArray} (hc3 : w.cell? ⟨b2, off2 + kl, none⟩ = some (.string bs)) {tz : TypeId} {pz : String} {ez : Array Edge}
    (hK : ∀ (q : Int) (a' : Act), (∀ L', (∀ p, p ∈ L' → p = (z, .int .i64 q) ∨ (p ∈ L ∧ p.1 ≠ z)) → Fr N V a' L') → Q .normal a' w) :
    Code.wp Try.prog (Code.region id #[⟨some (s), .move (.tmp z), t0, p0, e0, none⟩, ⟨some (s + 1), .move (.tmp x), t1, p1, e1, none⟩, ⟨some (s + 2), .move (.tmp i), t2, p2, e2, none⟩, ⟨some (s + 3), .indexAddr 22 (.tmp (s + 1)) (.tmp (s + 2)), t3, p3, e3, none⟩, ⟨some (s + 4), .fieldAddr 43 (.tmp (s + 3)) 0, t4, p4, e4, none⟩, ⟨some (s + 5), .load 41 (.tmp (s + 4)), t5, p5, e5, none⟩, ⟨some (s + 6), .move (.tmp j), t6, p6, e6, none⟩, ⟨some (s + 7), .indexAddr 41 (.tmp (s + 5)) (.tmp (s + 6)), t7, p7, e7, none⟩, ⟨some (s + 8), .fieldAddr 46 (.tmp (s + 7)) 2, t8, p8, e8, none⟩, ⟨some (s + 9), .load 44 (.tmp (s + 8)), t9, p9, e9, none⟩, ⟨some (s + 10), .move (.tmp l), t10, p10, e10, none⟩, ⟨some (s + 11), .indexAddr 44 (.tmp (s + 9)) (.tmp (s + 10)), t11, p11, e11, none⟩, ⟨some (s + 12), .load 9 (.tmp (s + 11)), t12, p12, e12, none⟩, ⟨some (s + 13), .call { callee := .builtin .len, args := #[.tmp (s + 12)], argTypes := #[9] }, t13, p13, e13, none⟩, ⟨some (s + 14), .binOp .add 3 (.tmp (s)) (.tmp (s + 13)) 3, t14, p14, e14, none⟩, ⟨some z, .assign (.tmp (s + 14)), tz, pz, ez, none⟩] false) Q a w := by
  refine wp_region_list ?_
  have s0 := Sees.self hF.defers hF.size
  have k_i := hF.known _ hi
  have k_j := hF.known _ hj
  have k_l := hF.known _ hl
  have k_x := hF.known _ hx
  have k_z := hF.known _ hz
  refine op_move s0 (by have := k_z.1; omega) fun a1 s1 => ?_
  refine op_move s1 (by have := k_x.1; omega) fun a2 s2 => ?_
  refine op_move s2 (by have := k_i.1; omega) fun a3 s3 => ?_
  refine op_idx22 s3 (by omega) (by omega) (by have hlt := k_x.1; rw [upd_other _ _ (by omega), upd_same]; rw [upd_other _ _ (by omega)]; exact k_x.2) (by have hlt := k_i.1; rw [upd_same]; rw [upd_other _ _ (by omega), upd_other _ _ (by omega)]; exact k_i.2) hki fun a4 s4 => ?_
  refine op_fld43_0 s4 (by omega) (by rw [upd_same]) fun a5 s5 => ?_
  refine op_ld41 s5 (by omega) (by rw [upd_same]) hc1 fun a6 s6 => ?_
  refine op_move s6 (by have := k_j.1; omega) fun a7 s7 => ?_
  refine op_idx41 s7 (by omega) (by omega) (by rw [upd_other _ _ (by omega), upd_same]) (by have hlt := k_j.1; rw [upd_same]; rw [upd_other _ _ (by omega), upd_other _ _ (by omega), upd_other _ _ (by omega), upd_other _ _ (by omega), upd_other _ _ (by omega), upd_other _ _ (by omega)]; exact k_j.2) hkj fun a8 s8 => ?_
  refine op_fld46_2 s8 (by omega) (by rw [upd_same]) fun a9 s9 => ?_
  refine op_ld44 s9 (by omega) (by rw [upd_same]) hc2 fun a10 s10 => ?_
  refine op_move s10 (by have := k_l.1; omega) fun a11 s11 => ?_
  refine op_idx44 s11 (by omega) (by omega) (by rw [upd_other _ _ (by omega), upd_same]) (by have hlt := k_l.1; rw [upd_same]; rw [upd_other _ _ (by omega), upd_other _ _ (by omega), upd_other _ _ (by omega), upd_other _ _ (by omega), upd_other _ _ (by omega), upd_other _ _ (by omega), upd_other _ _ (by omega), upd_other _ _ (by omega), upd_other _ _ (by omega), upd_other _ _ (by omega)]; exact k_l.2) hkl fun a12 s12 => ?_
  refine op_ld9 s12 (by omega) (by rw [upd_same]) hc3 fun a13 s13 => ?_
  refine op_len9 s13 (by omega) (by rw [upd_same]) fun a14 s14 => ?_
  refine op_add s14 (by omega) (by omega) (by have hlt := k_z.1; rw [upd_other _ _ (by omega), upd_other _ _ (by omega), upd_other _ _ (by omega), upd_other _ _ (by omega), upd_other _ _ (by omega), upd_other _ _ (by omega), upd_other _ _ (by omega), upd_other _ _ (by omega), upd_other _ _ (by omega), upd_other _ _ (by omega), upd_other _ _ (by omega), upd_other _ _ (by omega), upd_other _ _ (by omega), upd_same]; exact k_z.2) (by rw [upd_same]) fun a15 s15 => ?_
  refine op_assign s15 (by omega) fun b1 u1 => ?_
  rw [upd_same] at u1
  exact wpList_nil (hK _ b1 fun L' hL' => hF.assigned u1 hVN k_z.1 (fun t ht => by rw [upd_other _ _ (by omega), upd_other _ _ (by omega), upd_other _ _ (by omega), upd_other _ _ (by omega), upd_other _ _ (by omega), upd_other _ _ (by omega), upd_other _ _ (by omega), upd_other _ _ (by omega), upd_other _ _ (by omega), upd_other _ _ (by omega), upd_other _ _ (by omega), upd_other _ _ (by omega), upd_other _ _ (by omega), upd_other _ _ (by omega), upd_other _ _ (by omega)]) hL')
theorem chk3_1 {Q : Exit → Act → World → Prop} {a : Act} {w : World} {N V : Nat} {L : List (Nat × Value)} (hF : Fr N V a L) (hVN : V ≤ N) {s i j l x id : Nat} {t0 t1 t2 t3 t4 t5 t6 t7 t8 t9 t10 t11 t12 t13 : TypeId} {p0 p1 p2 p3 p4 p5 p6 p7 p8 p9 p10 p11 p12 p13 : String} {e0 e1 e2 e3 e4 e5 e6 e7 e8 e9 e10 e11 e12 e13 : Array Edge} (hsV : V ≤ s) (hsN : s + 14 ≤ N) {b off n c ki : Nat} (hx : (x, .slice (some ⟨b, off, none⟩) n c) ∈ L) (hi : (i, .int .i64 ki) ∈ L) (hki : ki < n) {b1 off1 n1 c1 kj : Nat} (hc1 : w.cell? ⟨b, off + ki * 2 + 1, none⟩ = some (.slice (some ⟨b1, off1, none⟩) n1 c1)) (hj : (j, .int .i64 kj) ∈ L) (hkj : kj < n1) {b2 off2 n2 c2 kl : Nat} (hc2 : w.cell? ⟨b1, off1 + kj * 3 + 2, none⟩ = some (.slice (some ⟨b2, off2, none⟩) n2 c2)) (hl : (l, .int .i64 kl) ∈ L) (hkl : kl < n2) {bs : ByteArray} (hc3 : w.cell? ⟨b2, off2 + kl, none⟩ = some (.string bs)) {r id2 : Nat} {ta : TypeId} {pa : String} {ea : Array Edge} (hr : r < V)
    (hno : ∀ a', Fr N V a' L → Q .normal a' w) (hyes : ∀ a', a'.defers = [] → a'.eval (.tmp r) = .bool false → Q .ret a' w) :
    Code.wp Try.prog ((Code.region id #[⟨some (s), .move (.tmp x), t0, p0, e0, none⟩, ⟨some (s + 1), .move (.tmp i), t1, p1, e1, none⟩, ⟨some (s + 2), .indexAddr 22 (.tmp (s)) (.tmp (s + 1)), t2, p2, e2, none⟩, ⟨some (s + 3), .fieldAddr 43 (.tmp (s + 2)) 1, t3, p3, e3, none⟩, ⟨some (s + 4), .load 41 (.tmp (s + 3)), t4, p4, e4, none⟩, ⟨some (s + 5), .move (.tmp j), t5, p5, e5, none⟩, ⟨some (s + 6), .indexAddr 41 (.tmp (s + 4)) (.tmp (s + 5)), t6, p6, e6, none⟩, ⟨some (s + 7), .fieldAddr 46 (.tmp (s + 6)) 2, t7, p7, e7, none⟩, ⟨some (s + 8), .load 44 (.tmp (s + 7)), t8, p8, e8, none⟩, ⟨some (s + 9), .move (.tmp l), t9, p9, e9, none⟩, ⟨some (s + 10), .indexAddr 44 (.tmp (s + 8)) (.tmp (s + 9)), t10, p10, e10, none⟩, ⟨some (s + 11), .load 9 (.tmp (s + 10)), t11, p11, e11, none⟩, ⟨some (s + 12), .call { callee := .builtin .len, args := #[.tmp (s + 11)], argTypes := #[9] }, t12, p12, e12, none⟩, ⟨some (s + 13), .binOp .gtr 3 (.tmp (s + 12)) (.const (.int .i64 1048576)) 3, t13, p13, e13, none⟩] false).seq (Code.cond (.tmp (s + 13)) ((Code.region id2 #[⟨some r, .assign (.const (.bool false)), ta, pa, ea, none⟩] false).seq Code.ret) Code.skip)) Q a w := by
  refine wp_seq (wp_region_list ?_)
  have s0 := Sees.self hF.defers hF.size
  have k_i := hF.known _ hi
  have k_j := hF.known _ hj
  have k_l := hF.known _ hl
  have k_x := hF.known _ hx
  refine op_move s0 (by have := k_x.1; omega) fun a1 s1 => ?_
  refine op_move s1 (by have := k_i.1; omega) fun a2 s2 => ?_
  refine op_idx22 s2 (by omega) (by omega) (by have hlt := k_x.1; rw [upd_other _ _ (by omega), upd_same]; exact k_x.2) (by have hlt := k_i.1; rw [upd_same]; rw [upd_other _ _ (by omega)]; exact k_i.2) hki fun a3 s3 => ?_
  refine op_fld43_1 s3 (by omega) (by rw [upd_same]) fun a4 s4 => ?_
  refine op_ld41 s4 (by omega) (by rw [upd_same]) hc1 fun a5 s5 => ?_
  refine op_move s5 (by have := k_j.1; omega) fun a6 s6 => ?_
  refine op_idx41 s6 (by omega) (by omega) (by rw [upd_other _ _ (by omega), upd_same]) (by have hlt := k_j.1; rw [upd_same]; rw [upd_other _ _ (by omega), upd_other _ _ (by omega), upd_other _ _ (by omega), upd_other _ _ (by omega), upd_other _ _ (by omega)]; exact k_j.2) hkj fun a7 s7 => ?_
  refine op_fld46_2 s7 (by omega) (by rw [upd_same]) fun a8 s8 => ?_
  refine op_ld44 s8 (by omega) (by rw [upd_same]) hc2 fun a9 s9 => ?_
  refine op_move s9 (by have := k_l.1; omega) fun a10 s10 => ?_
  refine op_idx44 s10 (by omega) (by omega) (by rw [upd_other _ _ (by omega), upd_same]) (by have hlt := k_l.1; rw [upd_same]; rw [upd_other _ _ (by omega), upd_other _ _ (by omega), upd_other _ _ (by omega), upd_other _ _ (by omega), upd_other _ _ (by omega), upd_other _ _ (by omega), upd_other _ _ (by omega), upd_other _ _ (by omega), upd_other _ _ (by omega)]; exact k_l.2) hkl fun a11 s11 => ?_
  refine op_ld9 s11 (by omega) (by rw [upd_same]) hc3 fun a12 s12 => ?_
  refine op_len9 s12 (by omega) (by rw [upd_same]) fun a13 s13 => ?_
  refine op_gtr s13 (by omega) (by rw [upd_same]) fun a14 s14 => ?_
  refine wpList_nil ?_
  refine wp_cond_split (by rw [s14.slot (s + 13) (by omega), upd_same]) (fun _ => ?_) (fun _ => ?_)
  · refine wp_seq (wp_region_list ?_)
    refine op_const s14 fun b1 u1 => ?_
    exact wpList_nil (wp_ret (hyes _ u1.defers (by rw [u1.slot r (by omega), upd_same])))
  · exact wp_skip (hno _ (hF.of_sees s14 hVN (fun t ht => by rw [upd_other _ _ (by omega), upd_other _ _ (by omega), upd_other _ _ (by omega), upd_other _ _ (by omega), upd_other _ _ (by omega), upd_other _ _ (by omega), upd_other _ _ (by omega), upd_other _ _ (by omega), upd_other _ _ (by omega), upd_other _ _ (by omega), upd_other _ _ (by omega), upd_other _ _ (by omega), upd_other _ _ (by omega), upd_other _ _ (by omega)])))
theorem add3_1 {Q : Exit → Act → World → Prop} {a : Act} {w : World} {N V : Nat} {L : List (Nat × Value)} (hF : Fr N V a L) (hVN : V ≤ N) {s i j l x z id : Nat} {t0 t1 t2 t3 t4 t5 t6 t7 t8 t9 t10 t11 t12 t13 t14 : TypeId} {p0 p1 p2 p3 p4 p5 p6 p7 p8 p9 p10 p11 p12 p13 p14 : String} {e0 e1 e2 e3 e4 e5 e6 e7 e8 e9 e10 e11 e12 e13 e14 : Array Edge} (hsV : V ≤ s) (hsN : s + 15 ≤ N) {zq : Int} (hz : (z, .int .i64 zq) ∈ L) {b off n c ki : Nat} (hx : (x, .slice (some ⟨b, off, none⟩) n c) ∈ L) (hi : (i, .int .i64 ki) ∈ L) (hki : ki < n) {b1 off1 n1 c1 kj : Nat} (hc1 : w.cell? ⟨b, off + ki * 2 + 1, none⟩ = some (.slice (some ⟨b1, off1, none⟩) n1 c1)) (hj : (j, .int .i64 kj) ∈ L) (hkj : kj < n1) {b2 off2 n2 c2 kl : Nat} (hc2 : w.cell? ⟨b1, off1 + kj * 3 + 2, none⟩ = some (.slice (some ⟨b2, off2, none⟩) n2 c2)) (hl : (l, .int .i64 kl) ∈ L) (hkl : kl < n2) {bs : ByteArray} (hc3 : w.cell? ⟨b2, off2 + kl, none⟩ = some (.string bs)) {tz : TypeId} {pz : String} {ez : Array Edge}
    (hK : ∀ (q : Int) (a' : Act), (∀ L', (∀ p, p ∈ L' → p = (z, .int .i64 q) ∨ (p ∈ L ∧ p.1 ≠ z)) → Fr N V a' L') → Q .normal a' w) :
    Code.wp Try.prog (Code.region id #[⟨some (s), .move (.tmp z), t0, p0, e0, none⟩, ⟨some (s + 1), .move (.tmp x), t1, p1, e1, none⟩, ⟨some (s + 2), .move (.tmp i), t2, p2, e2, none⟩, ⟨some (s + 3), .indexAddr 22 (.tmp (s + 1)) (.tmp (s + 2)), t3, p3, e3, none⟩, ⟨some (s + 4), .fieldAddr 43 (.tmp (s + 3)) 1, t4, p4, e4, none⟩, ⟨some (s + 5), .load 41 (.tmp (s + 4)), t5, p5, e5, none⟩, ⟨some (s + 6), .move (.tmp j), t6, p6, e6, none⟩, ⟨some (s + 7), .indexAddr 41 (.tmp (s + 5)) (.tmp (s + 6)), t7, p7, e7, none⟩, ⟨some (s + 8), .fieldAddr 46 (.tmp (s + 7)) 2, t8, p8, e8, none⟩, ⟨some (s + 9), .load 44 (.tmp (s + 8)), t9, p9, e9, none⟩, ⟨some (s + 10), .move (.tmp l), t10, p10, e10, none⟩, ⟨some (s + 11), .indexAddr 44 (.tmp (s + 9)) (.tmp (s + 10)), t11, p11, e11, none⟩, ⟨some (s + 12), .load 9 (.tmp (s + 11)), t12, p12, e12, none⟩, ⟨some (s + 13), .call { callee := .builtin .len, args := #[.tmp (s + 12)], argTypes := #[9] }, t13, p13, e13, none⟩, ⟨some (s + 14), .binOp .add 3 (.tmp (s)) (.tmp (s + 13)) 3, t14, p14, e14, none⟩, ⟨some z, .assign (.tmp (s + 14)), tz, pz, ez, none⟩] false) Q a w := by
  refine wp_region_list ?_
  have s0 := Sees.self hF.defers hF.size
  have k_i := hF.known _ hi
  have k_j := hF.known _ hj
  have k_l := hF.known _ hl
  have k_x := hF.known _ hx
  have k_z := hF.known _ hz
  refine op_move s0 (by have := k_z.1; omega) fun a1 s1 => ?_
  refine op_move s1 (by have := k_x.1; omega) fun a2 s2 => ?_
  refine op_move s2 (by have := k_i.1; omega) fun a3 s3 => ?_
  refine op_idx22 s3 (by omega) (by omega) (by have hlt := k_x.1; rw [upd_other _ _ (by omega), upd_same]; rw [upd_other _ _ (by omega)]; exact k_x.2) (by have hlt := k_i.1; rw [upd_same]; rw [upd_other _ _ (by omega), upd_other _ _ (by omega)]; exact k_i.2) hki fun a4 s4 => ?_
  refine op_fld43_1 s4 (by omega) (by rw [upd_same]) fun a5 s5 => ?_
  refine op_ld41 s5 (by omega) (by rw [upd_same]) hc1 fun a6 s6 => ?_
  refine op_move s6 (by have := k_j.1; omega) fun a7 s7 => ?_
  refine op_idx41 s7 (by omega) (by omega) (by rw [upd_other _ _ (by omega), upd_same]) (by have hlt := k_j.1; rw [upd_same]; rw [upd_other _ _ (by omega), upd_other _ _ (by omega), upd_other _ _ (by omega), upd_other _ _ (by omega), upd_other _ _ (by omega), upd_other _ _ (by omega)]; exact k_j.2) hkj fun a8 s8 => ?_
  refine op_fld46_2 s8 (by omega) (by rw [upd_same]) fun a9 s9 => ?_
  refine op_ld44 s9 (by omega) (by rw [upd_same]) hc2 fun a10 s10 => ?_
  refine op_move s10 (by have := k_l.1; omega) fun a11 s11 => ?_
  refine op_idx44 s11 (by omega) (by omega) (by rw [upd_other _ _ (by omega), upd_same]) (by have hlt := k_l.1; rw [upd_same]; rw [upd_other _ _ (by omega), upd_other _ _ (by omega), upd_other _ _ (by omega), upd_other _ _ (by omega), upd_other _ _ (by omega), upd_other _ _ (by omega), upd_other _ _ (by omega), upd_other _ _ (by omega), upd_other _ _ (by omega), upd_other _ _ (by omega)]; exact k_l.2) hkl fun a12 s12 => ?_
  refine op_ld9 s12 (by omega) (by rw [upd_same]) hc3 fun a13 s13 => ?_
  refine op_len9 s13 (by omega) (by rw [upd_same]) fun a14 s14 => ?_
  refine op_add s14 (by omega) (by omega) (by have hlt := k_z.1; rw [upd_other _ _ (by omega), upd_other _ _ (by omega), upd_other _ _ (by omega), upd_other _ _ (by omega), upd_other _ _ (by omega), upd_other _ _ (by omega), upd_other _ _ (by omega), upd_other _ _ (by omega), upd_other _ _ (by omega), upd_other _ _ (by omega), upd_other _ _ (by omega), upd_other _ _ (by omega), upd_other _ _ (by omega), upd_same]; exact k_z.2) (by rw [upd_same]) fun a15 s15 => ?_
  refine op_assign s15 (by omega) fun b1 u1 => ?_
  rw [upd_same] at u1
  exact wpList_nil (hK _ b1 fun L' hL' => hF.assigned u1 hVN k_z.1 (fun t ht => by rw [upd_other _ _ (by omega), upd_other _ _ (by omega), upd_other _ _ (by omega), upd_other _ _ (by omega), upd_other _ _ (by omega), upd_other _ _ (by omega), upd_other _ _ (by omega), upd_other _ _ (by omega), upd_other _ _ (by omega), upd_other _ _ (by omega), upd_other _ _ (by omega), upd_other _ _ (by omega), upd_other _ _ (by omega), upd_other _ _ (by omega), upd_other _ _ (by omega)]) hL')
theorem loop0 {Q : Exit → Act → World → Prop} {a : Act} {w : World} {N V : Nat} {L : List (Nat × Value)} (hF : Fr N V a L) (hVN : V ≤ N) {s i x id : Nat} {t0 t1 t2 t3 : TypeId} {p0 p1 p2 p3 : String} {e0 e1 e2 e3 : Array Edge} (hsV : V ≤ s) (hsN : s + 4 ≤ N) {ki : Nat} (hi : (i, .int .i64 ki) ∈ L) {ao : Option Addr} {n c : Nat} (hx : (x, .slice ao n c) ∈ L) {xid : Nat}
    (hyes : (ki < n) → ∀ a', Fr N V a' L → Q .normal a' w) (hno : ¬ (ki < n) → ∀ a', Fr N V a' L → Q (.exit xid) a' w) :
    Code.wp Try.prog ((Code.region id #[⟨some (s), .move (.tmp i), t0, p0, e0, none⟩, ⟨some (s + 1), .move (.tmp x), t1, p1, e1, none⟩, ⟨some (s + 2), .call { callee := .builtin .len, args := #[.tmp (s + 1)], argTypes := #[22] }, t2, p2, e2, none⟩, ⟨some (s + 3), .binOp .lss 3 (.tmp (s)) (.tmp (s + 2)) 3, t3, p3, e3, none⟩] false).seq (Code.cond (.tmp (s + 3)) Code.skip (Code.exit xid))) Q a w := by
  refine wp_seq (wp_region_list ?_)
  have s0 := Sees.self hF.defers hF.size
  have k_i := hF.known _ hi
  have k_x := hF.known _ hx
  refine op_move s0 (by have := k_i.1; omega) fun a1 s1 => ?_
  refine op_move s1 (by have := k_x.1; omega) fun a2 s2 => ?_
  refine op_len22 s2 (by omega) (by have hlt := k_x.1; rw [upd_same]; rw [upd_other _ _ (by omega)]; exact k_x.2) fun a3 s3 => ?_
  refine op_lss s3 (by omega) (by omega) (by have hlt := k_i.1; rw [upd_other _ _ (by omega), upd_other _ _ (by omega), upd_same]; exact k_i.2) (by rw [upd_same]) fun a4 s4 => ?_
  refine wpList_nil ?_
  refine wp_cond_split (by rw [s4.slot (s + 3) (by omega), upd_same]) (fun h => ?_) (fun h => ?_)
  · exact wp_skip (hyes (by simpa using h) _ (hF.of_sees s4 hVN (fun t ht => by rw [upd_other _ _ (by omega), upd_other _ _ (by omega), upd_other _ _ (by omega), upd_other _ _ (by omega)])))
  · exact wp_exit (hno (by simpa using h) _ (hF.of_sees s4 hVN (fun t ht => by rw [upd_other _ _ (by omega), upd_other _ _ (by omega), upd_other _ _ (by omega), upd_other _ _ (by omega)])))
theorem loop1_0 {Q : Exit → Act → World → Prop} {a : Act} {w : World} {N V : Nat} {L : List (Nat × Value)} (hF : Fr N V a L) (hVN : V ≤ N) {s i j x id : Nat} {t0 t1 t2 t3 t4 t5 t6 t7 : TypeId} {p0 p1 p2 p3 p4 p5 p6 p7 : String} {e0 e1 e2 e3 e4 e5 e6 e7 : Array Edge} (hsV : V ≤ s) (hsN : s + 8 ≤ N) {kj : Nat} (hj : (j, .int .i64 kj) ∈ L) {b off n c ki : Nat} (hx : (x, .slice (some ⟨b, off, none⟩) n c) ∈ L) (hi : (i, .int .i64 ki) ∈ L) (hki : ki < n) {ao1 : Option Addr} {n1 c1 : Nat} (hc1 : w.cell? ⟨b, off + ki * 2, none⟩ = some (.slice ao1 n1 c1)) {xid : Nat}
    (hyes : (kj < n1) → ∀ a', Fr N V a' L → Q .normal a' w) (hno : ¬ (kj < n1) → ∀ a', Fr N V a' L → Q (.exit xid) a' w) :
    Code.wp Try.prog ((Code.region id #[⟨some (s), .move (.tmp j), t0, p0, e0, none⟩, ⟨some (s + 1), .move (.tmp x), t1, p1, e1, none⟩, ⟨some (s + 2), .move (.tmp i), t2, p2, e2, none⟩, ⟨some (s + 3), .indexAddr 22 (.tmp (s + 1)) (.tmp (s + 2)), t3, p3, e3, none⟩, ⟨some (s + 4), .fieldAddr 43 (.tmp (s + 3)) 0, t4, p4, e4, none⟩, ⟨some (s + 5), .load 41 (.tmp (s + 4)), t5, p5, e5, none⟩, ⟨some (s + 6), .call { callee := .builtin .len, args := #[.tmp (s + 5)], argTypes := #[41] }, t6, p6, e6, none⟩, ⟨some (s + 7), .binOp .lss 3 (.tmp (s)) (.tmp (s + 6)) 3, t7, p7, e7, none⟩] false).seq (Code.cond (.tmp (s + 7)) Code.skip (Code.exit xid))) Q a w := by
  refine wp_seq (wp_region_list ?_)
  have s0 := Sees.self hF.defers hF.size
  have k_i := hF.known _ hi
  have k_j := hF.known _ hj
  have k_x := hF.known _ hx
  refine op_move s0 (by have := k_j.1; omega) fun a1 s1 => ?_
  refine op_move s1 (by have := k_x.1; omega) fun a2 s2 => ?_
  refine op_move s2 (by have := k_i.1; omega) fun a3 s3 => ?_
  refine op_idx22 s3 (by omega) (by omega) (by have hlt := k_x.1; rw [upd_other _ _ (by omega), upd_same]; rw [upd_other _ _ (by omega)]; exact k_x.2) (by have hlt := k_i.1; rw [upd_same]; rw [upd_other _ _ (by omega), upd_other _ _ (by omega)]; exact k_i.2) hki fun a4 s4 => ?_
  refine op_fld43_0 s4 (by omega) (by rw [upd_same]) fun a5 s5 => ?_
  refine op_ld41 s5 (by omega) (by rw [upd_same]) hc1 fun a6 s6 => ?_
  refine op_len41 s6 (by omega) (by rw [upd_same]) fun a7 s7 => ?_
  refine op_lss s7 (by omega) (by omega) (by have hlt := k_j.1; rw [upd_other _ _ (by omega), upd_other _ _ (by omega), upd_other _ _ (by omega), upd_other _ _ (by omega), upd_other _ _ (by omega), upd_other _ _ (by omega), upd_same]; exact k_j.2) (by rw [upd_same]) fun a8 s8 => ?_
  refine wpList_nil ?_
  refine wp_cond_split (by rw [s8.slot (s + 7) (by omega), upd_same]) (fun h => ?_) (fun h => ?_)
  · exact wp_skip (hyes (by simpa using h) _ (hF.of_sees s8 hVN (fun t ht => by rw [upd_other _ _ (by omega), upd_other _ _ (by omega), upd_other _ _ (by omega), upd_other _ _ (by omega), upd_other _ _ (by omega), upd_other _ _ (by omega), upd_other _ _ (by omega), upd_other _ _ (by omega)])))
  · exact wp_exit (hno (by simpa using h) _ (hF.of_sees s8 hVN (fun t ht => by rw [upd_other _ _ (by omega), upd_other _ _ (by omega), upd_other _ _ (by omega), upd_other _ _ (by omega), upd_other _ _ (by omega), upd_other _ _ (by omega), upd_other _ _ (by omega), upd_other _ _ (by omega)])))
theorem loop1_1 {Q : Exit → Act → World → Prop} {a : Act} {w : World} {N V : Nat} {L : List (Nat × Value)} (hF : Fr N V a L) (hVN : V ≤ N) {s i j x id : Nat} {t0 t1 t2 t3 t4 t5 t6 t7 : TypeId} {p0 p1 p2 p3 p4 p5 p6 p7 : String} {e0 e1 e2 e3 e4 e5 e6 e7 : Array Edge} (hsV : V ≤ s) (hsN : s + 8 ≤ N) {kj : Nat} (hj : (j, .int .i64 kj) ∈ L) {b off n c ki : Nat} (hx : (x, .slice (some ⟨b, off, none⟩) n c) ∈ L) (hi : (i, .int .i64 ki) ∈ L) (hki : ki < n) {ao1 : Option Addr} {n1 c1 : Nat} (hc1 : w.cell? ⟨b, off + ki * 2 + 1, none⟩ = some (.slice ao1 n1 c1)) {xid : Nat}
    (hyes : (kj < n1) → ∀ a', Fr N V a' L → Q .normal a' w) (hno : ¬ (kj < n1) → ∀ a', Fr N V a' L → Q (.exit xid) a' w) :
    Code.wp Try.prog ((Code.region id #[⟨some (s), .move (.tmp j), t0, p0, e0, none⟩, ⟨some (s + 1), .move (.tmp x), t1, p1, e1, none⟩, ⟨some (s + 2), .move (.tmp i), t2, p2, e2, none⟩, ⟨some (s + 3), .indexAddr 22 (.tmp (s + 1)) (.tmp (s + 2)), t3, p3, e3, none⟩, ⟨some (s + 4), .fieldAddr 43 (.tmp (s + 3)) 1, t4, p4, e4, none⟩, ⟨some (s + 5), .load 41 (.tmp (s + 4)), t5, p5, e5, none⟩, ⟨some (s + 6), .call { callee := .builtin .len, args := #[.tmp (s + 5)], argTypes := #[41] }, t6, p6, e6, none⟩, ⟨some (s + 7), .binOp .lss 3 (.tmp (s)) (.tmp (s + 6)) 3, t7, p7, e7, none⟩] false).seq (Code.cond (.tmp (s + 7)) Code.skip (Code.exit xid))) Q a w := by
  refine wp_seq (wp_region_list ?_)
  have s0 := Sees.self hF.defers hF.size
  have k_i := hF.known _ hi
  have k_j := hF.known _ hj
  have k_x := hF.known _ hx
  refine op_move s0 (by have := k_j.1; omega) fun a1 s1 => ?_
  refine op_move s1 (by have := k_x.1; omega) fun a2 s2 => ?_
  refine op_move s2 (by have := k_i.1; omega) fun a3 s3 => ?_
  refine op_idx22 s3 (by omega) (by omega) (by have hlt := k_x.1; rw [upd_other _ _ (by omega), upd_same]; rw [upd_other _ _ (by omega)]; exact k_x.2) (by have hlt := k_i.1; rw [upd_same]; rw [upd_other _ _ (by omega), upd_other _ _ (by omega)]; exact k_i.2) hki fun a4 s4 => ?_
  refine op_fld43_1 s4 (by omega) (by rw [upd_same]) fun a5 s5 => ?_
  refine op_ld41 s5 (by omega) (by rw [upd_same]) hc1 fun a6 s6 => ?_
  refine op_len41 s6 (by omega) (by rw [upd_same]) fun a7 s7 => ?_
  refine op_lss s7 (by omega) (by omega) (by have hlt := k_j.1; rw [upd_other _ _ (by omega), upd_other _ _ (by omega), upd_other _ _ (by omega), upd_other _ _ (by omega), upd_other _ _ (by omega), upd_other _ _ (by omega), upd_same]; exact k_j.2) (by rw [upd_same]) fun a8 s8 => ?_
  refine wpList_nil ?_
  refine wp_cond_split (by rw [s8.slot (s + 7) (by omega), upd_same]) (fun h => ?_) (fun h => ?_)
  · exact wp_skip (hyes (by simpa using h) _ (hF.of_sees s8 hVN (fun t ht => by rw [upd_other _ _ (by omega), upd_other _ _ (by omega), upd_other _ _ (by omega), upd_other _ _ (by omega), upd_other _ _ (by omega), upd_other _ _ (by omega), upd_other _ _ (by omega), upd_other _ _ (by omega)])))
  · exact wp_exit (hno (by simpa using h) _ (hF.of_sees s8 hVN (fun t ht => by rw [upd_other _ _ (by omega), upd_other _ _ (by omega), upd_other _ _ (by omega), upd_other _ _ (by omega), upd_other _ _ (by omega), upd_other _ _ (by omega), upd_other _ _ (by omega), upd_other _ _ (by omega)])))
theorem loop2_0_2 {Q : Exit → Act → World → Prop} {a : Act} {w : World} {N V : Nat} {L : List (Nat × Value)} (hF : Fr N V a L) (hVN : V ≤ N) {s i j l x id : Nat} {t0 t1 t2 t3 t4 t5 t6 t7 t8 t9 t10 t11 : TypeId} {p0 p1 p2 p3 p4 p5 p6 p7 p8 p9 p10 p11 : String} {e0 e1 e2 e3 e4 e5 e6 e7 e8 e9 e10 e11 : Array Edge} (hsV : V ≤ s) (hsN : s + 12 ≤ N) {kl : Nat} (hl : (l, .int .i64 kl) ∈ L) {b off n c ki : Nat} (hx : (x, .slice (some ⟨b, off, none⟩) n c) ∈ L) (hi : (i, .int .i64 ki) ∈ L) (hki : ki < n) {b1 off1 n1 c1 kj : Nat} (hc1 : w.cell? ⟨b, off + ki * 2, none⟩ = some (.slice (some ⟨b1, off1, none⟩) n1 c1)) (hj : (j, .int .i64 kj) ∈ L) (hkj : kj < n1) {ao2 : Option Addr} {n2 c2 : Nat} (hc2 : w.cell? ⟨b1, off1 + kj * 3 + 2, none⟩ = some (.slice ao2 n2 c2)) {xid : Nat}
    (hyes : (kl < n2) → ∀ a', Fr N V a' L → Q .normal a' w) (hno : ¬ (kl < n2) → ∀ a', Fr N V a' L → Q (.exit xid) a' w) :
    Code.wp Try.prog ((Code.region id #[⟨some (s), .move (.tmp l), t0, p0, e0, none⟩, ⟨some (s + 1), .move (.tmp x), t1, p1, e1, none⟩, ⟨some (s + 2), .move (.tmp i), t2, p2, e2, none⟩, ⟨some (s + 3), .indexAddr 22 (.tmp (s + 1)) (.tmp (s + 2)), t3, p3, e3, none⟩, ⟨some (s + 4), .fieldAddr 43 (.tmp (s + 3)) 0, t4, p4, e4, none⟩, ⟨some (s + 5), .load 41 (.tmp (s + 4)), t5, p5, e5, none⟩, ⟨some (s + 6), .move (.tmp j), t6, p6, e6, none⟩, ⟨some (s + 7), .indexAddr 41 (.tmp (s + 5)) (.tmp (s + 6)), t7, p7, e7, none⟩, ⟨some (s + 8), .fieldAddr 46 (.tmp (s + 7)) 2, t8, p8, e8, none⟩, ⟨some (s + 9), .load 44 (.tmp (s + 8)), t9, p9, e9, none⟩, ⟨some (s + 10), .call { callee := .builtin .len, args := #[.tmp (s + 9)], argTypes := #[44] }, t10, p10, e10, none⟩, ⟨some (s + 11), .binOp .lss 3 (.tmp (s)) (.tmp (s + 10)) 3, t11, p11, e11, none⟩] false).seq (Code.cond (.tmp (s + 11)) Code.skip (Code.exit xid))) Q a w := by
  refine wp_seq (wp_region_list ?_)
  have s0 := Sees.self hF.defers hF.size
  have k_i := hF.known _ hi
  have k_j := hF.known _ hj
  have k_l := hF.known _ hl
  have k_x := hF.known _ hx
  refine op_move s0 (by have := k_l.1; omega) fun a1 s1 => ?_
  refine op_move s1 (by have := k_x.1; omega) fun a2 s2 => ?_
  refine op_move s2 (by have := k_i.1; omega) fun a3 s3 => ?_
  refine op_idx22 s3 (by omega) (by omega) (by have hlt := k_x.1; rw [upd_other _ _ (by omega), upd_same]; rw [upd_other _ _ (by omega)]; exact k_x.2) (by have hlt := k_i.1; rw [upd_same]; rw [upd_other _ _ (by omega), upd_other _ _ (by omega)]; exact k_i.2) hki fun a4 s4 => ?_
  refine op_fld43_0 s4 (by omega) (by rw [upd_same]) fun a5 s5 => ?_
  refine op_ld41 s5 (by omega) (by rw [upd_same]) hc1 fun a6 s6 => ?_
  refine op_move s6 (by have := k_j.1; omega) fun a7 s7 => ?_
  refine op_idx41 s7 (by omega) (by omega) (by rw [upd_other _ _ (by omega), upd_same]) (by have hlt := k_j.1; rw [upd_same]; rw [upd_other _ _ (by omega), upd_other _ _ (by omega), upd_other _ _ (by omega), upd_other _ _ (by omega), upd_other _ _ (by omega), upd_other _ _ (by omega)]; exact k_j.2) hkj fun a8 s8 => ?_
  refine op_fld46_2 s8 (by omega) (by rw [upd_same]) fun a9 s9 => ?_
  refine op_ld44 s9 (by omega) (by rw [upd_same]) hc2 fun a10 s10 => ?_
  refine op_len44 s10 (by omega) (by rw [upd_same]) fun a11 s11 => ?_
  refine op_lss s11 (by omega) (by omega) (by have hlt := k_l.1; rw [upd_other _ _ (by omega), upd_other _ _ (by omega), upd_other _ _ (by omega), upd_other _ _ (by omega), upd_other _ _ (by omega), upd_other _ _ (by omega), upd_other _ _ (by omega), upd_other _ _ (by omega), upd_other _ _ (by omega), upd_other _ _ (by omega), upd_same]; exact k_l.2) (by rw [upd_same]) fun a12 s12 => ?_
  refine wpList_nil ?_
  refine wp_cond_split (by rw [s12.slot (s + 11) (by omega), upd_same]) (fun h => ?_) (fun h => ?_)
  · exact wp_skip (hyes (by simpa using h) _ (hF.of_sees s12 hVN (fun t ht => by rw [upd_other _ _ (by omega), upd_other _ _ (by omega), upd_other _ _ (by omega), upd_other _ _ (by omega), upd_other _ _ (by omega), upd_other _ _ (by omega), upd_other _ _ (by omega), upd_other _ _ (by omega), upd_other _ _ (by omega), upd_other _ _ (by omega), upd_other _ _ (by omega), upd_other _ _ (by omega)])))
  · exact wp_exit (hno (by simpa using h) _ (hF.of_sees s12 hVN (fun t ht => by rw [upd_other _ _ (by omega), upd_other _ _ (by omega), upd_other _ _ (by omega), upd_other _ _ (by omega), upd_other _ _ (by omega), upd_other _ _ (by omega), upd_other _ _ (by omega), upd_other _ _ (by omega), upd_other _ _ (by omega), upd_other _ _ (by omega), upd_other _ _ (by omega), upd_other _ _ (by omega)])))
theorem loop2_1_2 {Q : Exit → Act → World → Prop} {a : Act} {w : World} {N V : Nat} {L : List (Nat × Value)} (hF : Fr N V a L) (hVN : V ≤ N) {s i j l x id : Nat} {t0 t1 t2 t3 t4 t5 t6 t7 t8 t9 t10 t11 : TypeId} {p0 p1 p2 p3 p4 p5 p6 p7 p8 p9 p10 p11 : String} {e0 e1 e2 e3 e4 e5 e6 e7 e8 e9 e10 e11 : Array Edge} (hsV : V ≤ s) (hsN : s + 12 ≤ N) {kl : Nat} (hl : (l, .int .i64 kl) ∈ L) {b off n c ki : Nat} (hx : (x, .slice (some ⟨b, off, none⟩) n c) ∈ L) (hi : (i, .int .i64 ki) ∈ L) (hki : ki < n) {b1 off1 n1 c1 kj : Nat} (hc1 : w.cell? ⟨b, off + ki * 2 + 1, none⟩ = some (.slice (some ⟨b1, off1, none⟩) n1 c1)) (hj : (j, .int .i64 kj) ∈ L) (hkj : kj < n1) {ao2 : Option Addr} {n2 c2 : Nat} (hc2 : w.cell? ⟨b1, off1 + kj * 3 + 2, none⟩ = some (.slice ao2 n2 c2)) {xid : Nat}
    (hyes : (kl < n2) → ∀ a', Fr N V a' L → Q .normal a' w) (hno : ¬ (kl < n2) → ∀ a', Fr N V a' L → Q (.exit xid) a' w) :
    Code.wp Try.prog ((Code.region id #[⟨some (s), .move (.tmp l), t0, p0, e0, none⟩, ⟨some (s + 1), .move (.tmp x), t1, p1, e1, none⟩, ⟨some (s + 2), .move (.tmp i), t2, p2, e2, none⟩, ⟨some (s + 3), .indexAddr 22 (.tmp (s + 1)) (.tmp (s + 2)), t3, p3, e3, none⟩, ⟨some (s + 4), .fieldAddr 43 (.tmp (s + 3)) 1, t4, p4, e4, none⟩, ⟨some (s + 5), .load 41 (.tmp (s + 4)), t5, p5, e5, none⟩, ⟨some (s + 6), .move (.tmp j), t6, p6, e6, none⟩, ⟨some (s + 7), .indexAddr 41 (.tmp (s + 5)) (.tmp (s + 6)), t7, p7, e7, none⟩, ⟨some (s + 8), .fieldAddr 46 (.tmp (s + 7)) 2, t8, p8, e8, none⟩, ⟨some (s + 9), .load 44 (.tmp (s + 8)), t9, p9, e9, none⟩, ⟨some (s + 10), .call { callee := .builtin .len, args := #[.tmp (s + 9)], argTypes := #[44] }, t10, p10, e10, none⟩, ⟨some (s + 11), .binOp .lss 3 (.tmp (s)) (.tmp (s + 10)) 3, t11, p11, e11, none⟩] false).seq (Code.cond (.tmp (s + 11)) Code.skip (Code.exit xid))) Q a w := by
  refine wp_seq (wp_region_list ?_)
  have s0 := Sees.self hF.defers hF.size
  have k_i := hF.known _ hi
  have k_j := hF.known _ hj
  have k_l := hF.known _ hl
  have k_x := hF.known _ hx
  refine op_move s0 (by have := k_l.1; omega) fun a1 s1 => ?_
  refine op_move s1 (by have := k_x.1; omega) fun a2 s2 => ?_
  refine op_move s2 (by have := k_i.1; omega) fun a3 s3 => ?_
  refine op_idx22 s3 (by omega) (by omega) (by have hlt := k_x.1; rw [upd_other _ _ (by omega), upd_same]; rw [upd_other _ _ (by omega)]; exact k_x.2) (by have hlt := k_i.1; rw [upd_same]; rw [upd_other _ _ (by omega), upd_other _ _ (by omega)]; exact k_i.2) hki fun a4 s4 => ?_
  refine op_fld43_1 s4 (by omega) (by rw [upd_same]) fun a5 s5 => ?_
  refine op_ld41 s5 (by omega) (by rw [upd_same]) hc1 fun a6 s6 => ?_
  refine op_move s6 (by have := k_j.1; omega) fun a7 s7 => ?_
  refine op_idx41 s7 (by omega) (by omega) (by rw [upd_other _ _ (by omega), upd_same]) (by have hlt := k_j.1; rw [upd_same]; rw [upd_other _ _ (by omega), upd_other _ _ (by omega), upd_other _ _ (by omega), upd_other _ _ (by omega), upd_other _ _ (by omega), upd_other _ _ (by omega)]; exact k_j.2) hkj fun a8 s8 => ?_
  refine op_fld46_2 s8 (by omega) (by rw [upd_same]) fun a9 s9 => ?_
  refine op_ld44 s9 (by omega) (by rw [upd_same]) hc2 fun a10 s10 => ?_
  refine op_len44 s10 (by omega) (by rw [upd_same]) fun a11 s11 => ?_
  refine op_lss s11 (by omega) (by omega) (by have hlt := k_l.1; rw [upd_other _ _ (by omega), upd_other _ _ (by omega), upd_other _ _ (by omega), upd_other _ _ (by omega), upd_other _ _ (by omega), upd_other _ _ (by omega), upd_other _ _ (by omega), upd_other _ _ (by omega), upd_other _ _ (by omega), upd_other _ _ (by omega), upd_same]; exact k_l.2) (by rw [upd_same]) fun a12 s12 => ?_
  refine wpList_nil ?_
  refine wp_cond_split (by rw [s12.slot (s + 11) (by omega), upd_same]) (fun h => ?_) (fun h => ?_)
  · exact wp_skip (hyes (by simpa using h) _ (hF.of_sees s12 hVN (fun t ht => by rw [upd_other _ _ (by omega), upd_other _ _ (by omega), upd_other _ _ (by omega), upd_other _ _ (by omega), upd_other _ _ (by omega), upd_other _ _ (by omega), upd_other _ _ (by omega), upd_other _ _ (by omega), upd_other _ _ (by omega), upd_other _ _ (by omega), upd_other _ _ (by omega), upd_other _ _ (by omega)])))
  · exact wp_exit (hno (by simpa using h) _ (hF.of_sees s12 hVN (fun t ht => by rw [upd_other _ _ (by omega), upd_other _ _ (by omega), upd_other _ _ (by omega), upd_other _ _ (by omega), upd_other _ _ (by omega), upd_other _ _ (by omega), upd_other _ _ (by omega), upd_other _ _ (by omega), upd_other _ _ (by omega), upd_other _ _ (by omega), upd_other _ _ (by omega), upd_other _ _ (by omega)])))
theorem chkz {Q : Exit → Act → World → Prop} {a : Act} {w : World} {N V : Nat} {L : List (Nat × Value)} (hF : Fr N V a L) (hVN : V ≤ N) {s z id : Nat} {t0 t1 : TypeId} {p0 p1 : String} {e0 e1 : Array Edge} (hsV : V ≤ s) (hsN : s + 2 ≤ N) {zq : Int} (hz : (z, .int .i64 zq) ∈ L) {r id2 : Nat} {ta : TypeId} {pa : String} {ea : Array Edge} (hr : r < V)
    (hno : ∀ a', Fr N V a' L → Q .normal a' w) (hyes : ∀ a', a'.defers = [] → a'.eval (.tmp r) = .bool false → Q .ret a' w) :
    Code.wp Try.prog ((Code.region id #[⟨some (s), .move (.tmp z), t0, p0, e0, none⟩, ⟨some (s + 1), .binOp .gtr 3 (.tmp (s)) (.const (.int .i64 1048576)) 3, t1, p1, e1, none⟩] false).seq (Code.cond (.tmp (s + 1)) ((Code.region id2 #[⟨some r, .assign (.const (.bool false)), ta, pa, ea, none⟩] false).seq Code.ret) Code.skip)) Q a w := by
  refine wp_seq (wp_region_list ?_)
  have s0 := Sees.self hF.defers hF.size
  have k_z := hF.known _ hz
  refine op_move s0 (by have := k_z.1; omega) fun a1 s1 => ?_
  refine op_gtr s1 (by omega) (by have hlt := k_z.1; rw [upd_same]; exact k_z.2) fun a2 s2 => ?_
  refine wpList_nil ?_
  refine wp_cond_split (by rw [s2.slot (s + 1) (by omega), upd_same]) (fun _ => ?_) (fun _ => ?_)
  · refine wp_seq (wp_region_list ?_)
    refine op_const s2 fun b1 u1 => ?_
    exact wpList_nil (wp_ret (hyes _ u1.defers (by rw [u1.slot r (by omega), upd_same])))
  · exact wp_skip (hno _ (hF.of_sees s2 hVN (fun t ht => by rw [upd_other _ _ (by omega), upd_other _ _ (by omega)])))
theorem setz {Q : Exit → Act → World → Prop} {a : Act} {w : World} {N V : Nat} {L : List (Nat × Value)} (hF : Fr N V a L) (hVN : V ≤ N) {z id : Nat} {v : Value} {t0 : TypeId} {p0 : String} {e0 : Array Edge} (hz : z < V)
    (hK : ∀ a', (∀ L', (∀ p, p ∈ L' → p = (z, v) ∨ (p ∈ L ∧ p.1 ≠ z)) → Fr N V a' L') → Q .normal a' w) :
    Code.wp Try.prog (Code.region id #[⟨some z, .assign (.const v), t0, p0, e0, none⟩] false) Q a w := by
  refine wp_region_list ?_
  have s0 := Sees.self hF.defers hF.size
  refine op_const s0 fun b1 u1 => ?_
  exact wpList_nil (hK b1 fun L' hL' => hF.assigned u1 hVN hz (fun _ _ => rfl) hL')
theorem inc {Q : Exit → Act → World → Prop} {a : Act} {w : World} {N V : Nat} {L : List (Nat × Value)} (hF : Fr N V a L) (hVN : V ≤ N) {s i id : Nat} {t0 t1 t2 : TypeId} {p0 p1 p2 : String} {e0 e1 e2 : Array Edge} (hsV : V ≤ s) (hsN : s + 2 ≤ N) {k : Nat} (hi : (i, .int .i64 k) ∈ L) (hk : k < 9223372036854775807)
    (hK : ∀ a', (∀ L', (∀ p, p ∈ L' → p = (i, .int .i64 ((k + 1 : Nat) : Int)) ∨ (p ∈ L ∧ p.1 ≠ i)) → Fr N V a' L') → Q .normal a' w) :
    Code.wp Try.prog (Code.region id #[⟨some s, .move (.tmp i), t0, p0, e0, none⟩, ⟨some (s + 1), .binOp .add 3 (.tmp s) (.const (.int .i64 1)) 3, t1, p1, e1, none⟩, ⟨some i, .assign (.tmp (s + 1)), t2, p2, e2, none⟩] false) Q a w := by
  refine wp_region_list ?_
  have s0 := Sees.self hF.defers hF.size
  have k_i := hF.known _ hi
  have k_lt : i < V := k_i.1
  refine op_move s0 (by omega) fun a1 s1 => ?_
  refine op_addC s1 (by omega) (by rw [upd_same]; exact k_i.2) fun a2 s2 => ?_
  refine op_assign s2 (by omega) fun b1 u1 => ?_
  rw [upd_same] at u1
  have e : IntKind.i64.wrap ((k : Int) + 1) = ((k + 1 : Nat) : Int) := by rw [IntKind.wrap_i64]; omega
  rw [e] at u1
  exact wpList_nil (hK b1 fun L' hL' => hF.assigned u1 hVN k_lt (fun t ht => by rw [upd_other _ _ (by omega), upd_other _ _ (by omega)]) hL')
end Go.Proofs.Qxb6627374a
