/-
  The proof of 'Rows.FnEqualReflexiveSymmetricAndSensitiveSaid': the ways joined; the row's step in the guide's template.
-/
import Derived.Test.Qxb6627374aRows
import Derived.Test.Qxb6627374aLaw4b
import Derived.Test.Qxb6627374aLaw4c
import Derived.Test.Qxb6627374aLaw4d
import Derived.Test.Qxb6627374aOpen
import Derived.WalkKit
import Derived.ProofKit
import Derived.OpenShut
import Derived.ShutString
import Derived.ChangeOld
import Derived.Below
namespace Go.Proofs.Qxb6627374a.fnEqualReflexiveSymmetricAndSensitive
open Go.ChangeShapes Go.WideShapes Go.ChangeAt Go.RowKit
open Go.ChangeMaps (open_string shut_string)

theorem own : ownKnob Try.prog.godebug = none := by kernel_rfl
theorem laidOut : laidOutB Try.prog = true := by kernel_rfl

theorem walk (v : Value) (ts : List Term) (t q : Int) (f : Bool) (s : ByteArray) (w : World) (hs : s.size ≤ maxLen) (hv : Terms w 0 w.heap.size v ts) :
    Calls Try.prog 4 #[v, .int .i64 t, .int .i64 q, .bool f, .string s] w fun e w' => e = .returned (.bool true) ∧ Below w.heap.size w w' := by
  unfold maxLen at hs
  obtain ⟨ao, cap, rfl, _⟩ := hv.len
  by_cases ht0 : t < 0
  · exact law4_neg ao cap ts 0 _ t q f s w (Nat.le_refl _) hs hv ht0
  by_cases ht1 : (ts.length : Int) ≤ t
  · exact law4_past ao cap ts 0 _ t q f s w (Nat.le_refl _) hs hv ht1
  obtain ⟨k, rfl⟩ := Int.eq_ofNat_of_zero_le (show 0 ≤ t by omega)
  have hk : k < ts.length := by omega
  cases f with
  | false =>
    by_cases hq : 0 ≤ q ∧ q < (ts[k].1.length : Int)
    · obtain ⟨n, rfl⟩ := Int.eq_ofNat_of_zero_le hq.1
      exact law4_key0 ao cap ts 0 _ k n s w (Nat.le_refl _) hs hv hk (show n < ts[k].1.length by omega)
    · exact law4_add0 ao cap ts 0 _ k q s w (Nat.le_refl _) hs hv hk (show q < 0 ∨ (ts[k].1.length : Int) ≤ q by omega)
  | true =>
    by_cases hq : 0 ≤ q ∧ q < (ts[k].2.length : Int)
    · obtain ⟨n, rfl⟩ := Int.eq_ofNat_of_zero_le hq.1
      exact law4_key1 ao cap ts 0 _ k n s w (Nat.le_refl _) hs hv hk (show n < ts[k].2.length by omega)
    · exact law4_add1 ao cap ts 0 _ k q s w (Nat.le_refl _) hs hv hk (show q < 0 ∨ (ts[k].2.length : Int) ≤ q by omega)

set_option maxRecDepth 100000 in
theorem lifted (os : Os) (started : os.Started) (H : Type) (enc : TypeId × Value → H) :
    ReturnsInHanded {} Try.checked os 4 .any (Rows.fnEqualReflexiveSymmetricAndSensitiveSpec.pre6 enc Try.prog Try.f4 Rows.fnEqualReflexiveSymmetricAndSensitiveRow.domain false) (Rows.fnEqualReflexiveSymmetricAndSensitiveSpec.post enc Try.prog Try.f4 false true false false) := by
  refine returnsInHanded_of_change (C := Try.checked) own started (by kernel_rfl) Try.func4
    (ChangeSpec.witness6 (enc := enc) (C := Try.checked) false ⟨#[], #[.slice none 0 0, .int .i64 0, .int .i64 0, .bool false, .string ⟨#[]⟩], []⟩ 8 (by kernel_rfl) (by kernel_rfl) (by kernel_rfl) (by kernel_rfl)) ?_
  intro W base args ds gs before hval0 hW hcnd _
  have hval : ∀ (j : Nat) t v, Try.f4.params[j]? = some t → args[j]? = some v → Value.okWide Try.prog W .any base t v := hval0
  have hW' := hW
  obtain ⟨p, q, hA0, hV, rfl, hfz, hnd⟩ := hW
  have hA : DataW.TrodAll enc Try.prog W 0 (fun _ => true) true Try.f4.params.toList args.toList ds p := hA0
  rw [Try.params4] at hA hval
  obtain ⟨v0, vs0, d0, ds0, p0, q0, hargs, rfl, rfl, h0, r0⟩ := trodAll_cons hA
  obtain ⟨v1, vs1, d1, ds1, p1, q1, rfl, rfl, rfl, h1, r1⟩ := trodAll_cons r0
  obtain ⟨v2, vs2, d2, ds2, p2, q2, rfl, rfl, rfl, h2, r2⟩ := trodAll_cons r1
  obtain ⟨v3, vs3, d3, ds3, p3, q3, rfl, rfl, rfl, h3, r3⟩ := trodAll_cons r2
  obtain ⟨v4, vs4, d4, ds4, p4, q4, rfl, rfl, rfl, h4, r4⟩ := trodAll_cons r3
  obtain ⟨rfl, rfl, rfl⟩ := trodAll_nil r4
  obtain rfl : args = #[v0, v1, v2, v3, v4] := by cases args; simp_all
  obtain ⟨rfl, rfl⟩ := trodVars_none hV
  obtain ⟨a0, len0, cap0, rfl⟩ := okWide_slice Try.underlying22 (hval 0 22 v0 rfl rfl)
  have k0 := h0
  have lt0 : ∀ x ∈ p0, x.block < W.heap.size := by obtain ⟨m, hm⟩ := k0; exact DataW.trod_lt m _ _ _ hm
  obtain ⟨ts, w0⟩ : ∃ ts, Terms W 0 W.heap.size (.slice a0 len0 cap0) ts := by
    obtain ⟨fuel, hf⟩ := h0
    exact open_terms22 (by simpa [Value.cells] using hf)
  obtain ⟨a1, rfl, rfl, rfl, w1⟩ := open_int Try.underlying3 (hval 1 3 v1 rfl rfl) h1
  obtain ⟨a2, rfl, rfl, rfl, w2⟩ := open_int Try.underlying3 (hval 2 3 v2 rfl rfl) h2
  obtain ⟨a3, rfl, rfl, rfl⟩ := open_bool Try.underlying4 (hval 3 4 v3 rfl rfl) h3
  obtain ⟨a4, rfl, rfl, rfl, w4⟩ := open_string Try.underlying9 (hval 4 9 v4 rfl rfl) h4
  clear hA0 hval0
  refine (walk _ ts a1 a2 a3 a4 W w4 w0).mono fun e W' ⟨he, bel⟩ => ?_
  subst he
  exact ⟨_, rfl, _, _, _, [], _, [], hW', trodAll_mk1 (shut_bool Try.underlying4 _), (trodAll_cons_mk (Below.trod laidOut (by kernel_rfl) (of_decide_eq_true (by kernel_rfl)) k0 bel lt0) (trodAll_cons_mk (shut_int Try.underlying3 w1) (trodAll_cons_mk (shut_int Try.underlying3 w2) (trodAll_cons_mk (shut_bool Try.underlying4 _) (trodAll_cons_mk (shut_string Try.underlying9 w4) trodAll_mk0))))), rfl, bel.frame _, fun h => by cases h⟩

theorem over : Rows.fnEqualReflexiveSymmetricAndSensitiveRow.holds Try.pinned (OpenSpec.ofChange Rows.fnEqualReflexiveSymmetricAndSensitiveSpec) :=
  OpenClaim.holds_of_wide 4 Try.f4 rfl rfl rfl rfl rfl rfl rfl ⟨rfl, rfl, rfl, rfl, rfl⟩ rfl rfl rfl rfl rfl (by kernel_rfl) Try.func4 (by kernel_rfl)
    (of_decide_eq_true (by kernel_rfl)) (by unfold Func.isWrapper; first | (rw [if_pos (by decide +kernel)]; kernel_rfl) | (rw [if_neg (by decide +kernel)]; exact ⟨rfl, rfl⟩))
    (fun os started H enc _ => lifted os started H enc)

/-- ████ THE STATEMENT ████ -/
theorem proved : Rows.FnEqualReflexiveSymmetricAndSensitiveSaid :=
  over
#print axioms proved
end Go.Proofs.Qxb6627374a.fnEqualReflexiveSymmetricAndSensitive
