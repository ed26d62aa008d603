/-
  THE ENCODING, PLAINLY: bytes as integers; no two lists of terms share one. No Go text here.
-/
import Derived.Test.Qxb6627374aData
namespace Go.Proofs.Qxb6627374a

/-- Eight bytes of a length, the least first. -/
def le8 (n : Nat) : List Int := (List.range 8).map fun k => (n : Int) / 2 ^ (8 * k) % 256
def bytesOf (s : ByteArray) : List Int := s.data.toList.map fun c => (c.toNat : Int)
def encS (s : ByteArray) : List Int := le8 s.size ++ bytesOf s
def encR (r : Req) : List Int := encS r.key ++ encS r.op ++ le8 r.vals.length ++ r.vals.flatMap encS
def encRs (rs : List Req) : List Int := le8 rs.length ++ rs.flatMap encR
def encT (t : Term) : List Int := encRs t.1 ++ encRs t.2
def encTs (ts : List Term) : List Int := le8 ts.length ++ ts.flatMap encT

theorem le8_length (n : Nat) : (le8 n).length = 8 := by simp [le8]
theorem le8_take (n k : Nat) (h : k < 8) : (le8 n).take (k + 1) = (le8 n).take k ++ [(n : Int) / 2 ^ (8 * k) % 256] := by
  rw [List.take_succ_eq_append_getElem (by rw [le8_length]; exact h)]
  simp [le8]
theorem le8_inj {n m : Nat} (hn : n < 18446744073709551616) (hm : m < 18446744073709551616) (h : le8 n = le8 m) : n = m := by
  have e (n : Nat) : le8 n = [(n : Int) / 1 % 256, (n : Int) / 256 % 256, (n : Int) / 65536 % 256, (n : Int) / 16777216 % 256, (n : Int) / 4294967296 % 256, (n : Int) / 1099511627776 % 256, (n : Int) / 281474976710656 % 256, (n : Int) / 72057594037927936 % 256] := by rfl
  rw [e n, e m] at h
  simp only [List.cons.injEq, and_true] at h
  obtain ⟨h0, h1, h2, h3, h4, h5, h6, h7⟩ := h
  omega

theorem bytesOf_length (s : ByteArray) : (bytesOf s).length = s.size := by unfold bytesOf; rw [List.length_map]; rfl
theorem bytesOf_inj {a b : ByteArray} (h : bytesOf a = bytesOf b) : a = b := by
  have hd : a.data.toList = b.data.toList := by
    have inj : ∀ xs ys : List UInt8, (xs.map fun c => (c.toNat : Int)) = (ys.map fun c => (c.toNat : Int)) → xs = ys := by
      intro xs
      induction xs with
      | nil => intro ys h; cases ys with
        | nil => rfl
        | cons => cases h
      | cons x xs ih => intro ys h; cases ys with
        | nil => cases h
        | cons y ys =>
          rw [List.map_cons, List.map_cons] at h
          obtain ⟨h1, h2⟩ := List.cons.inj h
          rw [ih ys h2, UInt8.toNat.inj (Int.ofNat.inj h1)]
    exact inj _ _ h
  cases a; cases b
  simp only [ByteArray.mk.injEq]
  exact Array.toList_inj.mp hd

/-- A length the eight bytes hold. -/
abbrev big : Nat := 18446744073709551616

def GoodR (r : Req) : Prop := r.key.size < big ∧ r.op.size < big ∧ r.vals.length < big ∧ ∀ s ∈ r.vals, s.size < big
def GoodT (t : Term) : Prop := t.1.length < big ∧ (∀ r ∈ t.1, GoodR r) ∧ t.2.length < big ∧ ∀ r ∈ t.2, GoodR r
def GoodTs (ts : List Term) : Prop := ts.length < big ∧ ∀ t ∈ ts, GoodT t

theorem le8_pre {n m : Nat} {l l' : List Int} (hn : n < big) (hm : m < big) (h : le8 n ++ l = le8 m ++ l') : n = m ∧ l = l' := by
  have := List.append_inj h (by rw [le8_length, le8_length])
  exact ⟨le8_inj hn hm this.1, this.2⟩

theorem encS_pre {a b : ByteArray} {l l' : List Int} (ha : a.size < big) (hb : b.size < big) (h : encS a ++ l = encS b ++ l') : a = b ∧ l = l' := by
  unfold encS at h
  rw [List.append_assoc, List.append_assoc] at h
  obtain ⟨hz, h⟩ := le8_pre ha hb h
  have := List.append_inj h (by rw [bytesOf_length, bytesOf_length]; exact hz)
  exact ⟨bytesOf_inj this.1, this.2⟩

/-- Equally long lists of codes of which none begins another. -/
theorem flat_pre {α : Type} (f : α → List Int) (G : α → Prop)
    (hf : ∀ a b l l', G a → G b → f a ++ l = f b ++ l' → a = b ∧ l = l') :
    ∀ (xs ys : List α) (l l' : List Int), xs.length = ys.length → (∀ x ∈ xs, G x) → (∀ y ∈ ys, G y) →
      xs.flatMap f ++ l = ys.flatMap f ++ l' → xs = ys ∧ l = l'
  | [], [], l, l', _, _, _, h => ⟨rfl, h⟩
  | [], _ :: _, _, _, hn, _, _, _ => by simp at hn
  | _ :: _, [], _, _, hn, _, _, _ => by simp at hn
  | x :: xs, y :: ys, l, l', hn, hx, hy, h => by
    rw [List.flatMap_cons, List.flatMap_cons, List.append_assoc, List.append_assoc] at h
    obtain ⟨e, h⟩ := hf x y _ _ (hx x (by simp)) (hy y (by simp)) h
    obtain ⟨e', h⟩ := flat_pre f G hf xs ys l l' (by simpa using hn) (fun z hz => hx z (by simp [hz])) (fun z hz => hy z (by simp [hz])) h
    exact ⟨by rw [e, e'], h⟩

theorem encR_pre {a b : Req} {l l' : List Int} (ha : GoodR a) (hb : GoodR b) (h : encR a ++ l = encR b ++ l') : a = b ∧ l = l' := by
  unfold encR at h
  simp only [List.append_assoc] at h
  obtain ⟨e1, h⟩ := encS_pre ha.1 hb.1 h
  obtain ⟨e2, h⟩ := encS_pre ha.2.1 hb.2.1 h
  obtain ⟨e3, h⟩ := le8_pre ha.2.2.1 hb.2.2.1 h
  obtain ⟨e4, h⟩ := flat_pre encS (fun s => s.size < big) (fun _ _ _ _ => encS_pre) _ _ _ _ e3 ha.2.2.2 hb.2.2.2 h
  refine ⟨?_, h⟩
  cases a; cases b
  simp only at e1 e2 e4
  rw [e1, e2, e4]

theorem encRs_pre {a b : List Req} {l l' : List Int} (ha : a.length < big) (hb : b.length < big) (ga : ∀ r ∈ a, GoodR r) (gb : ∀ r ∈ b, GoodR r)
    (h : encRs a ++ l = encRs b ++ l') : a = b ∧ l = l' := by
  unfold encRs at h
  rw [List.append_assoc, List.append_assoc] at h
  obtain ⟨e, h⟩ := le8_pre ha hb h
  exact flat_pre encR GoodR (fun _ _ _ _ => encR_pre) _ _ _ _ e ga gb h

theorem encT_pre {a b : Term} {l l' : List Int} (ha : GoodT a) (hb : GoodT b) (h : encT a ++ l = encT b ++ l') : a = b ∧ l = l' := by
  unfold encT at h
  rw [List.append_assoc, List.append_assoc] at h
  obtain ⟨e1, h⟩ := encRs_pre ha.1 hb.1 ha.2.1 hb.2.1 h
  obtain ⟨e2, h⟩ := encRs_pre ha.2.2.1 hb.2.2.1 ha.2.2.2 hb.2.2.2 h
  exact ⟨Prod.ext e1 e2, h⟩

theorem encTs_inj {a b : List Term} (ha : GoodTs a) (hb : GoodTs b) (h : encTs a = encTs b) : a = b := by
  unfold encTs at h
  obtain ⟨e, h⟩ := le8_pre ha.1 hb.1 h
  have := flat_pre encT GoodT (fun _ _ _ _ => encT_pre) a b [] [] e ha.2 hb.2 (by rw [List.append_nil, List.append_nil]; exact h)
  exact this.1

theorem encTs_iff {a b : List Term} (ha : GoodTs a) (hb : GoodTs b) : encTs a = encTs b ↔ a = b :=
  ⟨encTs_inj ha hb, fun e => by rw [e]⟩
end Go.Proofs.Qxb6627374a
