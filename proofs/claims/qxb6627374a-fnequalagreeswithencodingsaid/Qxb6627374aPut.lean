/-
  'zzPutInt', 'zzPutStr': a buffer of bytes grows by the code of a length and of a string.
-/
import Derived.Test.Qxb6627374aTail
import Derived.Test.Qxb6627374aEncPlain
namespace Go.Proofs.Qxb6627374a
open Go.RowKit
theorem Try.info5 : (Try.prog.info? 5).map (fun i => (i.zero, i.size, i.bytes)) = some (some (.int .u8 0), 1, 1) := by kernel_rfl

/-- The buffer holds these bytes, in a block of its own. -/
def Buf (B : Nat) (w : World) (v : Value) (bs : List Int) : Prop := w.ownsRow B 5 1 v bs.length (bs.map (Value.int .u8))

theorem Buf.lt {B : Nat} {w : World} {v : Value} {bs : List Int} (h : Buf B w v bs) : ∀ k, v.ownBlock = some k → B ≤ k ∧ k < w.heap.size := by
  intro k hk
  rcases h.2 with ⟨rfl, _⟩ | ⟨g, cap, cur, rfl, hb, hg, _⟩
  · cases hk
  · cases hk
    exact ⟨hb, (Array.getElem?_eq_some_iff.1 hg).1⟩

theorem Buf.le {B : Nat} {w : World} {v : Value} {bs : List Int} (h : Buf B w v bs) : ∀ k, v.ownBlock = some k → B ≤ k := fun k hk => (h.lt k hk).1

/-- One byte laid in a new row. -/
theorem one_cell (w : World) (x : Value) (t : TypeId) (j : Nat) (u : Value) (h : ([x] : List Value)[j]? = some u) : (w.alloc (.cells #[x] t)).cell? ((⟨w.heap.size, 0, none⟩ : Addr).add j) = some u := by
  rw [Addr.add_lit, Nat.zero_add, World.cell?_alloc_new]
  simpa using h

theorem Buf.snoc {B : Nat} {w : World} {v : Value} {bs : List Int} {x : Int} (h : w.ownsRow B 5 1 v (bs.length + 1) (bs.map (Value.int .u8) ++ [Value.int .u8 x])) : Buf B w v (bs ++ [x]) := by
  unfold Buf
  rw [List.length_append, List.map_append]
  exact h

set_option maxHeartbeats 1000000 in
theorem putInt_any (v : Value) (B : Nat) (bs : List Int) (N : Nat) (hN : N ≤ 9223372036854775807) (hn : bs.length ≤ 1099511627776) (w : World) (hB : B ≤ w.heap.size) (hown : Buf B w v bs) :
    Calls Try.prog 15 #[v, .int .i64 N] w fun e w' => ∃ v', e = .returned v' ∧ Buf B w' v' (bs ++ le8 N) ∧ Below B w w' := by
  obtain ⟨i0, hi, hz0, hz1, hz2⟩ := info_parts Try.info5
  go_enter Try.func15, Try.ntmps15
  go_wp2
  go_loopw [0, 6] (fun b i wr => ∃ k : Nat, k ≤ 8 ∧ i = .int .i64 k ∧ Buf B wr b (bs ++ (le8 N).take k) ∧ Below B w wr) (fun _ i _ => 8 - (intOf i).toNat)
  case atStart => exact ⟨0, by omega, rfl, by simpa using hown, Below.refl _ _⟩
  case round =>
    obtain ⟨k, hk, rfl, ho, hb⟩ := hrel
    have hsz := hb.size
    have hk1 (h : k < 8) : bs ++ (le8 N).take (k + 1) = (bs ++ (le8 N).take k) ++ [(N : Int) / 2 ^ (8 * k) % 256] := by rw [le8_take N k h, List.append_assoc]
    have hl : (bs ++ (le8 N).take k).length = bs.length + k := by rw [List.length_append, List.length_take, le8_length]; omega
    have hfin (h : ¬ k < 8) : bs ++ le8 N = bs ++ (le8 N).take k := by rw [List.take_of_length_le (by rw [le8_length]; omega)]
    generalize bs ++ (le8 N).take k = cs at ho hl hk1 hfin
    by_cases hlt : k < 8
    · go_wp2_with (at_builtin; refine wpList_append_own _ rfl _ _ 28 rfl B 5 i0 (.int .u8 0) 1 1 Try.underlying28 hi hz0 hz1 hz2 rfl (by decide) _ _ _ rfl (ho.alloc _) ⟨wr.heap.size, 0, none⟩ 1 1 [.int .u8 ((N : Int) / 2 ^ (8 * k) % 256)] rfl rfl (one_cell wr _ 5) (by simp [Value.oneCell']) (by rw [hl]; unfold maxLen; omega) (by rw [hl]; omega) (by rw [World.size_alloc]; omega) ?_)
      intro v1 w1 hown1 hgrow1 _
      go_wp2
      go_roundw
      case rel => exact ⟨k + 1, by omega, by go_num, by rw [hk1 hlt]; exact Buf.snoc (hl ▸ hown1), (hb.alloc (by omega) _).grown hgrow1 (by rw [World.size_alloc]; omega) ho.le⟩
      case measure => simp [intOf]; omega
    · go_wp2
      go_ret
      exact ⟨_, rfl, by rw [hfin hlt]; exact ho, hb⟩

/-- The bytes of a string up to one, and that one. -/
theorem bytesOf_take (s : ByteArray) (k : Nat) (h : k < s.size) : (bytesOf s).take (k + 1) = (bytesOf s).take k ++ [((s[k]'h).toNat : Int)] := by
  rw [List.take_succ_eq_append_getElem (by rw [bytesOf_length]; exact h)]
  simp [bytesOf]
  rfl

set_option maxHeartbeats 1000000 in
theorem putStr_any (v : Value) (B : Nat) (bs : List Int) (s : ByteArray) (hs : s.size ≤ 1099511627776) (hn : bs.length ≤ 1099511627776) (w : World) (hB : B ≤ w.heap.size) (hown : Buf B w v bs) :
    Calls Try.prog 19 #[v, .string s] w fun e w' => ∃ v', e = .returned v' ∧ Buf B w' v' (bs ++ encS s) ∧ Below B w w' := by
  obtain ⟨i0, hi, hz0, hz1, hz2⟩ := info_parts Try.info5
  go_enter Try.func19, Try.ntmps19
  have HC := putInt_any v B bs s.size (by omega) hn w hB hown
  go_wp2_with (go_at_call 15; refine HC.mono ?_; rintro e0 w0 ⟨v0, rfl, ho0, hb0⟩)
  have hl0 : (bs ++ le8 s.size).length = bs.length + 8 := by rw [List.length_append, le8_length]
  have hfin0 : bs ++ encS s = (bs ++ le8 s.size) ++ bytesOf s := by unfold encS; rw [List.append_assoc]
  generalize bs ++ le8 s.size = cs at ho0 hl0 hfin0
  go_loopw [0, 5] (fun b i wr => ∃ k : Nat, k ≤ s.size ∧ i = .int .i64 k ∧ Buf B wr b (cs ++ (bytesOf s).take k) ∧ Below B w wr) (fun _ i _ => s.size - (intOf i).toNat)
  case atStart => exact ⟨0, by omega, rfl, by simpa using ho0, hb0⟩
  case round =>
    obtain ⟨k, hk, rfl, ho, hb⟩ := hrel
    have hsz := hb.size
    have hk1 (h : k < s.size) : cs ++ (bytesOf s).take (k + 1) = (cs ++ (bytesOf s).take k) ++ [((s[k]'h).toNat : Int)] := by rw [bytesOf_take s k h, List.append_assoc]
    have hl : (cs ++ (bytesOf s).take k).length = cs.length + k := by rw [List.length_append, List.length_take, bytesOf_length]; omega
    have hfin (h : ¬ k < s.size) : cs ++ bytesOf s = cs ++ (bytesOf s).take k := by rw [List.take_of_length_le (by rw [bytesOf_length]; omega)]
    generalize cs ++ (bytesOf s).take k = ds at ho hl hk1 hfin
    by_cases hlt : k < s.size
    · go_wp2_with (at_builtin; refine wpList_append_own _ rfl _ _ 28 rfl B 5 i0 (.int .u8 0) 1 1 Try.underlying28 hi hz0 hz1 hz2 rfl (by decide) _ _ _ rfl (ho.alloc _) ⟨wr.heap.size, 0, none⟩ 1 1 [.int .u8 ((s[k]'hlt).toNat : Int)] rfl rfl (one_cell wr _ 5) (by simp [Value.oneCell']) (by rw [hl]; unfold maxLen; omega) (by rw [hl]; omega) (by rw [World.size_alloc]; omega) ?_)
      intro v1 w1 hown1 hgrow1 _
      go_wp2
      go_roundw
      case rel => exact ⟨k + 1, by omega, by go_num, by rw [hk1 hlt]; exact Buf.snoc (by rw [hl, hl0]; exact hown1), (hb.alloc (by omega) _).grown hgrow1 (by rw [World.size_alloc]; omega) ho.le⟩
      case measure => simp [intOf]; omega
    · go_wp2
      go_ret
      exact ⟨_, rfl, by rw [hfin0, hfin hlt]; exact ho, hb⟩
end Go.Proofs.Qxb6627374a
