/-
  Items.
-/
import Derived.Test.Qxb6627392aFmtInv
import Derived.Test.Qxb6627392aFmtErr
import Derived.Deep.RegionHeld3
import Derived.Deep.AppendLies
namespace Go.Proofs.Qxb6627392aFmt
open Go.RowKit

theorem Tryf.info26 : (Tryf.prog.info? 26).map (fun i => (i.zero, i.size, i.bytes)) = some (some (.pointer none), 1, 8) := by kernel_rfl

/-- One value laid in a new row. -/
theorem one_cell (w : World) (x : Value) (t : TypeId) (j : Nat) (u : Value) (h : ([x] : List Value)[j]? = some u) : (w.alloc (.cells #[x] t)).cell? ((⟨w.heap.size, 0, none⟩ : Addr).add j) = some u := by
  rw [Addr.add_lit, Nat.zero_add, World.cell?_alloc_new]
  simpa using h

/-- 'tokens[a:p]'. -/
theorem slice_at (bT n a p : Nat) (hap : a ≤ p) (hlt : p < n) (w : World) :
    (Instr.slice 38 (.slice (some ⟨bT, 0, none⟩) n n) (some (.int .i64 (a : Int))) (some (.int .i64 (p : Int))) none).run Tryf.prog w = .ok (.slice (some ⟨bT, a * 3, none⟩) (p - a) (n - a)) w := by
  have b6 : ¬ n = a := by omega
  have b1 : (0 : Int) ≤ (a : Int) := by omega
  have b2 : (a : Int) ≤ (p : Int) := by omega
  have b3 : (p : Int) ≤ (n : Int) := by omega
  go_simp

/-- The two new blocks: the cursor, and the row of one pointer to it. -/
theorem pushed (X : World) (bT n a p : Nat) :
    X.grownBy ((X.alloc (.cells #[.slice (some ⟨bT, a * 3, none⟩) (p - a) (n - a), .int .i64 0] 45)).alloc (.cells #[.pointer (some ⟨X.heap.size, 0, none⟩)] 26)).drew none ∧
    (∀ j u, [ptr X.heap.size][j]? = some u → (((X.alloc (.cells #[.slice (some ⟨bT, a * 3, none⟩) (p - a) (n - a), .int .i64 0] 45)).alloc (.cells #[.pointer (some ⟨X.heap.size, 0, none⟩)] 26)).drew).cell? ((⟨X.heap.size + 1, 0, none⟩ : Addr).add j) = some u) ∧
    (((X.alloc (.cells #[.slice (some ⟨bT, a * 3, none⟩) (p - a) (n - a), .int .i64 0] 45)).alloc (.cells #[.pointer (some ⟨X.heap.size, 0, none⟩)] 26)).drew).heap.size = X.heap.size + 1 + 1 ∧
    (((X.alloc (.cells #[.slice (some ⟨bT, a * 3, none⟩) (p - a) (n - a), .int .i64 0] 45)).alloc (.cells #[.pointer (some ⟨X.heap.size, 0, none⟩)] 26)).drew).heap[X.heap.size]? = some (curObj bT n a p) := by
  refine ⟨grown_drew (grown_trans (grown_alloc _ _ _) (grown_alloc _ _ _)), ?_, ?_, ?_⟩
  · have h := one_cell (X.alloc (.cells #[.slice (some ⟨bT, a * 3, none⟩) (p - a) (n - a), .int .i64 0] 45)) (ptr X.heap.size) 26
    rw [World.size_alloc] at h
    exact h
  · show (World.alloc _ _).heap.size = _
    rw [World.size_alloc, World.size_alloc]
  · show (World.alloc _ _).heap[X.heap.size]? = _
    rw [Below.heap_alloc _ _ _ (by rw [World.size_alloc]; omega), heap_alloc_new]
    rfl

/-- How far the scan has come. -/
structure Scan (ts : List Tk) (i p : Nat) (s : Nat) (L : Int) : Prop where
  lev : L = lev ts i (p - i)
  pos : 0 ≤ L
  start : s = from_ ts i (p - i)
  none : ∀ e, e < p - i → closeB ts i e = false

theorem Scan.plain {ts : List Tk} {i p s : Nat} {L : Int} {t : Tk} (h : Scan ts i p s L) (hip : i ≤ p) (ht : ts[p]? = some t) (h0 : symB t [40] = false) (h1 : symB t [41] = false) (h2 : symB t [44] = false ∨ L ≠ 0) :
    Scan ts i (p + 1) s L ∧ pieces ts i (p + 1 - i) = pieces ts i (p - i) := by
  have e : i + (p - i) = p := by omega
  have hc : cutB ts i (p - i) = false := by
    unfold cutB
    rw [e, atB_of ht, ← h.lev]
    rcases h2 with h2 | h2
    · rw [h2]; rfl
    · rw [decide_eq_false h2, Bool.and_false]
  obtain ⟨a, b, c, d⟩ := step_plain (ts := ts) (i := i) (d := p - i) (by rw [e, atB_of ht]; exact h0) (by rw [e, atB_of ht]; exact h1) hc
  have e2 : p + 1 - i = p - i + 1 := by omega
  rw [e2]
  refine ⟨⟨by rw [e2, a]; exact h.lev, h.pos, by rw [e2, b]; exact h.start, fun x hx => ?_⟩, c⟩
  by_cases hx' : x = p - i
  · rw [hx']; exact d
  · exact h.none x (by omega)
theorem Scan.opened {ts : List Tk} {i p s : Nat} {L : Int} {t : Tk} (h : Scan ts i p s L) (hip : i ≤ p) (ht : ts[p]? = some t) (h0 : symB t [40] = true) (h1 : symB t [41] = false) (h2 : symB t [44] = false) :
    Scan ts i (p + 1) s (L + 1) ∧ pieces ts i (p + 1 - i) = pieces ts i (p - i) := by
  have e : i + (p - i) = p := by omega
  obtain ⟨a, b, c, d⟩ := step_open (ts := ts) (i := i) (d := p - i) (by rw [e, atB_of ht]; exact h0) (by rw [e, atB_of ht]; exact h1) (by rw [e, atB_of ht]; exact h2)
  have e2 : p + 1 - i = p - i + 1 := by omega
  rw [e2]
  refine ⟨⟨by rw [e2, a, h.lev], by have := h.pos; omega, by rw [e2, b]; exact h.start, fun x hx => ?_⟩, c⟩
  by_cases hx' : x = p - i
  · rw [hx']; exact d
  · exact h.none x (by omega)
theorem Scan.shut {ts : List Tk} {i p s : Nat} {L : Int} {t : Tk} (h : Scan ts i p s L) (hip : i ≤ p) (ht : ts[p]? = some t) (h0 : symB t [40] = false) (h1 : symB t [41] = true) (h2 : symB t [44] = false) (hL : 0 < L) :
    Scan ts i (p + 1) s (L - 1) ∧ pieces ts i (p + 1 - i) = pieces ts i (p - i) := by
  have e : i + (p - i) = p := by omega
  obtain ⟨a, b, c, d⟩ := step_shut (ts := ts) (i := i) (d := p - i) (by rw [e, atB_of ht]; exact h0) (by rw [e, atB_of ht]; exact h1) (by rw [e, atB_of ht]; exact h2) (by rw [← h.lev]; exact hL)
  have e2 : p + 1 - i = p - i + 1 := by omega
  rw [e2]
  refine ⟨⟨by rw [e2, a, h.lev], by omega, by rw [e2, b]; exact h.start, fun x hx => ?_⟩, c⟩
  by_cases hx' : x = p - i
  · rw [hx']; exact d
  · exact h.none x (by omega)
theorem Scan.cut {ts : List Tk} {i p s : Nat} {L : Int} {t : Tk} (h : Scan ts i p s L) (hip : i ≤ p) (ht : ts[p]? = some t) (h0 : symB t [40] = false) (h1 : symB t [41] = false) (h2 : symB t [44] = true) (hL : L = 0) :
    Scan ts i (p + 1) (p + 1) L ∧ pieces ts i (p + 1 - i) = pieces ts i (p - i) ++ [(s, p)] := by
  have e : i + (p - i) = p := by omega
  obtain ⟨a, b, c, d⟩ := step_cut (ts := ts) (i := i) (d := p - i) (by rw [e, atB_of ht]; exact h0) (by rw [e, atB_of ht]; exact h1) (by rw [e, atB_of ht]; exact h2) (by rw [← h.lev]; exact hL)
  have e2 : p + 1 - i = p - i + 1 := by omega
  rw [e2]
  refine ⟨⟨by rw [e2, a]; exact h.lev, h.pos, by rw [e2, b, e], fun x hx => ?_⟩, by rw [c, e, ← h.start]⟩
  by_cases hx' : x = p - i
  · rw [hx']; exact d
  · exact h.none x (by omega)

def RelItems (w : World) (c base bT n i : Nat) (ts : List Tk) (v s l : Value) (wr : World) : Prop :=
  ∃ (p a : Nat) (L : Int) (qs : List Nat), i ≤ p ∧ p ≤ n ∧ a ≤ p ∧ s = .int .i64 a ∧ l = .int .i64 L ∧ Hid (Scan ts i p a L) ∧ Hid (Held w c base bT n v (pieces ts i (p - i)) qs wr) ∧ CurAt wr c (.slice (some ⟨bT, 0, none⟩) n n) p

/-- What Items answers. -/
def ItemsPost (w : World) (c bT n i : Nat) (ts : List Tk) (e : Ending) (w' : World) : Prop :=
  (∃ t v, e = .returned (.tuple #[.slice none 0 0, .iface t v]) ∧ w.grownBy w' (some c) ∧ CurAt w' c (.slice (some ⟨bT, 0, none⟩) n n) n ∧ ∀ d, d < n - i → closeB ts i d = false) ∨
  (∃ d g cap, e = .returned (.tuple #[.slice (some ⟨g, 0, none⟩) ((pieces ts i d).length + 1) cap, .nilIface]) ∧ w.grownBy w' (some c) ∧ CurAt w' c (.slice (some ⟨bT, 0, none⟩) n n) (i + d + 1 : Nat) ∧
    i + d < n ∧ closeB ts i d = true ∧ (∀ e, e < d → closeB ts i e = false) ∧ Got w' g bT n (pieces ts i d ++ [(from_ ts i d, i + d)]))

set_option maxHeartbeats 4000000 in
theorem items_any (c bT n i : Nat) (ts : List Tk) (hn : n ≤ 4096) (HN : Hid (n = ts.length)) (hi : i ≤ n) (w : World) (hbc : bT < c) (hc : CurAt w c (.slice (some ⟨bT, 0, none⟩) n n) i) (ho : Hid (Own w bT ts)) :
    Calls Tryf.prog 6 #[.pointer (some ⟨c, 0, none⟩)] w fun e w' => ItemsPost w c bT n i ts e w' := by
  obtain ⟨i0, hi0, hz0, hz1, hz2⟩ := info_parts Tryf.info26
  have HC : Hid (CurAt w c (.slice (some ⟨bT, 0, none⟩) n n) i) := hc
  have c1 := hc.place
  clear hc
  go_enter Tryf.func6, Tryf.ntmps6
  go_wp2_with fail
  clear c1
  obtain ⟨base, hbase⟩ : ∃ base, base = w.heap.size := ⟨_, rfl⟩
  have HS0 : Hid (Held w c base bT n (.slice none 0 0) [] [] w) := by rw [hbase]; exact Held.start w c bT n HC.out.lt
  clear hbase
  go_loopw [4, 5, 6] (fun v s l wr => RelItems w c base bT n i ts v s l wr) (fun _ _ _ wr => n - placeOf c wr)
  case atStart =>
    refine ⟨i, i, 0, [], Nat.le_refl _, hi, Nat.le_refl _, rfl, rfl, ⟨?_, Int.le_refl _, ?_, ?_⟩, ?_, HC.out⟩
    · rw [Nat.sub_self]; rfl
    · rw [Nat.sub_self]; rfl
    · intro e he; omega
    · rw [Nat.sub_self]; exact HS0.out
  case round =>
    obtain ⟨p, a, L, qs, hip, hpn, hap, rfl, rfl, HSc, HH, hcu⟩ := hrel
    have hb := lev_bounds ts i (p - i)
    rw [← HSc.out.lev] at hb
    have hL0 := HSc.out.pos
    have HU : Hid (CurAt wr c (.slice (some ⟨bT, 0, none⟩) n n) p) := hcu
    have HPl : Hid (placeOf c wr = p) := placeOf_at hcu
    clear hcu
    go_wp2_with fail
    refine (done_any c p n n _ wr hn hpn HU.out.toks HU.out.place).mono ?_
    rintro e1 w1 ⟨rfl, k1, hw1⟩
    have HG1 : Hid (wr.grownBy w1 none) := by show World.grownBy _ _ _; rw [hw1]; exact grown_drewN _ _ _
    clear hw1
    by_cases hlt : p < n
    · have hd : decide (p = n) = false := by simp; omega
      rw [hd]
      clear hd
      have hk1 : p < ts.length := by rw [← HN.out]; exact hlt
      obtain ⟨t, ht⟩ : ∃ t, t = ts[p] := ⟨_, rfl⟩
      have HA : Hid (ts[p]? = some t) := by show _ = _; rw [ht]; exact List.getElem?_eq_getElem hk1
      have HU1 : Hid (CurAt w1 c (.slice (some ⟨bT, 0, none⟩) n n) p) := HU.out.grown HG1.out (by simp)
      have HO1 : Hid (TkAt w1 bT (0 + p * 3) t) := by show TkAt _ _ _ _; rw [ht]; exact ((ho.out p hk1).grown HH.out.grew (fun e => by cases e; omega)).grown HG1.out (by simp)
      clear ht hk1
      go_wp2_with fail
      refine (next_any c p n n bT 0 t w1 hn hlt HU1.out HO1.out).mono ?_
      rintro e2 w2 ⟨rfl, g2, u2⟩
      have HU2 : Hid (CurAt w2 c (.slice (some ⟨bT, 0, none⟩) n n) (p + 1 : Nat)) := u2
      have HH2 : Hid (Held w c base bT n u4 (pieces ts i (p - i)) qs w2) := HH.out.step (grown_trans (grown_any HG1.out) g2)
      clear g2 u2 HU1 HO1 HU HG1 HH
      obtain ⟨X, hX⟩ : ∃ X, X = w2.alloc (.cells #[.string t.kind, .string t.text, .int .i64 t.line] 42) := ⟨_, rfl⟩
      have HHX : Hid (Held w c base bT n u4 (pieces ts i (p - i)) qs X) := by show Held _ _ _ _ _ _ _ _ _; rw [hX]; exact HH2.out.step (grown_alloc _ _ _)
      have HUX : Hid (CurAt X c (.slice (some ⟨bT, 0, none⟩) n n) (p + 1 : Nat)) := by show CurAt _ _ _ _; rw [hX]; exact HU2.out.grown (grown_alloc _ _ none) (by simp)
      have HX : Hid (X = w2.alloc (.cells #[.string t.kind, .string t.text, .int .i64 t.line] 42)) := hX
      have HRn : Hid (∀ k, u4.ownBlock = some k → k < w2.heap.size) := fun k hk => (HH2.out.own.lt k hk).2
      clear hX HH2 HU2
      by_cases hk : (t.kind.toList == [115, 121, 109, 98, 111, 108]) = true
      · have HT : ∀ s, symB t s = (t.text.toList == s) := symB_text hk
        by_cases x40 : (t.text.toList == [40]) = true
        · have HSn := HSc.out.opened hip HA.out (by rw [HT]; exact x40) (by rw [HT]; exact text_other x40 (by decide)) (by rw [HT]; exact text_other x40 (by decide))
          have HSN : Hid (Scan ts i (p + 1) a (L + 1) ∧ pieces ts i (p + 1 - i) = pieces ts i (p - i)) := HSn
          clear HSn HT
          unfold Tk.val
          go_wp2_with fail
          rw [← HX.out]
          go_roundw
          case rel => exact ⟨p + 1, a, L + 1, qs, by omega, by omega, by omega, rfl, by go_num, HSN.out.1, by rw [HSN.out.2]; exact HHX.out, HUX.out⟩
          case measure => rw [placeOf_at HUX.out, HPl.out]; omega
        · have x40 : (t.text.toList == [40]) = false := by simpa using x40
          by_cases x41 : (t.text.toList == [41]) = true
          · have x44 : (t.text.toList == [44]) = false := text_other x41 (by decide)
            by_cases hL : 0 < L
            · have HSN : Hid (Scan ts i (p + 1) a (L - 1) ∧ pieces ts i (p + 1 - i) = pieces ts i (p - i)) := HSc.out.shut hip HA.out (by rw [HT]; exact x40) (by rw [HT]; exact x41) (by rw [HT]; exact x44) hL
              clear HT
              unfold Tk.val
              go_wp2_with fail
              rw [← HX.out]
              go_roundw
              case rel => exact ⟨p + 1, a, L - 1, qs, by omega, by omega, by omega, rfl, by go_num, HSN.out.1, by rw [HSN.out.2]; exact HHX.out, HUX.out⟩
              case measure => rw [placeOf_at HUX.out, HPl.out]; omega
            · obtain rfl : L = 0 := by omega
              have HCl : Hid (closeB ts i (p - i) = true) := by
                show _ = _
                unfold closeB
                rw [show i + (p - i) = p by omega, atB_of HA.out, HT, x41, ← HSc.out.lev]; rfl
              clear HT
              unfold Tk.val
              go_wp2_with fail
              have r1 : X.cell? ⟨w2.heap.size, 1, none⟩ = some (.string t.text) := by rw [HX.out, World.cell?_alloc_new]; rfl
              obtain ⟨R, hR⟩ : ∃ R, R = w2.heap.size := ⟨_, rfl⟩
              rw [← HX.out]
              rw [← hR] at r1 HRn ⊢
              clear hR HX
              obtain ⟨y0, y1⟩ : X.cell? ⟨c, 0, none⟩ = some (.slice (some ⟨bT, 0, none⟩) n n) ∧ X.cell? ⟨c, 1, none⟩ = some (.int .i64 (p + 1)) := ⟨HUX.out.toks, HUX.out.place⟩
              have hcX : c < X.heap.size := HUX.out.lt
              obtain ⟨m, HM⟩ : ∃ m, Hid (m = (pieces ts i (p - i)).length) := ⟨_, rfl⟩
              have hown : X.ownsRow base 26 1 u4 m (qs.map ptr) := by rw [HM.out]; exact HHX.out.own
              have hbX : base ≤ X.heap.size := by rw [HHX.out.from0]; exact HHX.out.grew.size
              have hm : m ≤ 4096 := by have := pieces_length ts i (p - i); rw [← HM.out] at this; omega
              have HF : ∀ W W5 : World, X.grownBy W none → W.grownBy W5 u4.ownBlock → W5.cell? ⟨c, 0, none⟩ = some (.slice (some ⟨bT, 0, none⟩) n n) ∧ W5.cell? ⟨c, 1, none⟩ = some (.int .i64 (p + 1)) := fun W W5 g1 g2 => by
                have hne : some c ≠ u4.ownBlock := fun e => by have := (hown.lt c e.symm).1; have := HHX.out.lt; omega
                exact ⟨g2.cell (g1.cell y0 (by simp)) hne, g2.cell (g1.cell y1 (by simp)) hne⟩
              have b1 : (0 : Int) ≤ (a : Int) := by omega
              have b2 : (a : Int) ≤ (p : Int) := by omega
              have b3 : (p : Int) ≤ (n : Int) := by omega
              have b4 : (0 : Int) ≤ (p : Int) := by omega
              have b5 : ¬ n - a = 0 := by omega
              have b6 : ¬ a = n := by omega
              have b7 : IntKind.i64.wrap ((p : Int) + 1 - 1) = (p : Int) := by rw [IntKind.wrap_i64]; omega
              have b8 : IntKind.i64.wrap (p : Int) = (p : Int) := by rw [IntKind.wrap_i64]; omega
              have hsl := slice_at bT n a p hap hlt
              have HY := pushed X bT n a p
              have hownY := owns_grown hown HY.1 (fun k e => by cases e)
              go_region_held3 (fun w' => w'.cell? ⟨c, 0, none⟩ = some (.slice (some ⟨bT, 0, none⟩) n n) ∧ w'.cell? ⟨c, 1, none⟩ = some (.int .i64 (p + 1)))
                (first | exact ⟨y0, y1⟩ | exact ⟨((grown_drew (grown_refl X none)).cell y0 (by simp)), ((grown_drew (grown_refl X none)).cell y1 (by simp))⟩ | exact HF _ _ (grown_trans (grown_drew (grown_refl X none)) (grown_alloc _ _ _)) (grown_refl _ _) | exact HF _ _ (grown_trans (grown_trans (grown_drew (grown_refl X none)) (grown_alloc _ _ _)) (grown_alloc _ _ _)) (grown_refl _ _) | exact HF _ _ (grown_drew (grown_alloc _ _ _)) (grown_refl _ _) | exact HF _ _ HY.1 (grown_refl _ _) | exact HF _ _ HY.1 hgrow)
                (first
                  | (go_at_call 11; refine (newCursor_any _ _ _ _).mono ?_; rintro e3 w3 ⟨rfl, rfl⟩)
                  | (refine step_append_lies _ (by rfl) (.tmp 46) (.tmp 59) 28 (by rfl) base 26 i0 (.pointer none) 1 8 Tryf.underlying28 hi0 hz0 hz1 hz2 rfl (by decide) u4 m (qs.map ptr) (by rfl) hownY ⟨X.heap.size + 1, 0, none⟩ 1 1 [ptr X.heap.size] (by rfl) rfl HY.2.1 (by simp [Value.oneCell']) (by decide) (by unfold maxLen; omega) (by omega) (by rw [HY.2.2.1]; omega) (X.heap.size + 1 + 1) HY.2.2.1 ?_; intro g cap w5 hown5 hgrow hat hlt5)
                  | fail)
              have HH5 : Hid (Held w c base bT n (.slice (some ⟨g, 0, none⟩) (m + 1) cap) (pieces ts i (p - i) ++ [(a, p)]) (qs ++ [X.heap.size]) w5) := HHX.out.push HY.1 (Nat.le_refl _) HY.2.2.2 (by rw [← HM.out]; exact hown5) hgrow
              have hneC : some c ≠ u4.ownBlock := fun e => by have := (hown.lt c e.symm).1; have := HHX.out.lt; omega
              have hneR : some R ≠ u4.ownBlock := fun e => by have := HRn.out R e.symm; omega
              have HU5 : Hid (CurAt w5 c (.slice (some ⟨bT, 0, none⟩) n n) (p + 1 : Nat)) := (HUX.out.grown HY.1 (by simp)).grown hgrow hneC
              have r5 : w5.cell? ⟨R, 1, none⟩ = some (.string t.text) := hgrow.cell (HY.1.cell r1 (by simp)) hneR
              have z1 : w5.cell? ⟨c, 1, none⟩ = some (.int .i64 (p + 1)) := HU5.out.place
              clear HF HY hownY hown5 hgrow hat hlt5 hneC hneR r1 y0 y1 hown HRn hsl b1 b2 b3 b4 b5 b6 b7 b8 HHX HUX
              go_wp2_with fail
              go_ret2
              refine .inr ⟨p - i, g, cap, by rw [← HM.out]; rfl, HH5.out.grew, ?_, by omega, HCl.out, HSc.out.none, ?_⟩
              · rw [show i + (p - i) + 1 = p + 1 by omega]; exact HU5.out
              · rw [show i + (p - i) = p by omega, ← HSc.out.start]; exact HH5.out.got
          · have x41 : (t.text.toList == [41]) = false := by simpa using x41
            by_cases x44 : (t.text.toList == [44]) = true
            · by_cases hL : 0 < L
              · have HSN : Hid (Scan ts i (p + 1) a L ∧ pieces ts i (p + 1 - i) = pieces ts i (p - i)) := HSc.out.plain hip HA.out (by rw [HT]; exact x40) (by rw [HT]; exact x41) (.inr (by omega))
                have hne : (L == 0) = false := by simp; omega
                clear HT
                unfold Tk.val
                go_wp2_with fail
                rw [← HX.out]
                go_roundw
                case rel => exact ⟨p + 1, a, L, qs, by omega, by omega, by omega, rfl, rfl, HSN.out.1, by rw [HSN.out.2]; exact HHX.out, HUX.out⟩
                case measure => rw [placeOf_at HUX.out, HPl.out]; omega
              · obtain rfl : L = 0 := by omega
                have HSN : Hid (Scan ts i (p + 1) (p + 1) 0 ∧ pieces ts i (p + 1 - i) = pieces ts i (p - i) ++ [(a, p)]) := HSc.out.cut hip HA.out (by rw [HT]; exact x40) (by rw [HT]; exact x41) (by rw [HT]; exact x44) rfl
                clear HT
                unfold Tk.val
                go_wp2_with fail
                have r1 : X.cell? ⟨w2.heap.size, 1, none⟩ = some (.string t.text) := by rw [HX.out, World.cell?_alloc_new]; rfl
                obtain ⟨R, hR⟩ : ∃ R, R = w2.heap.size := ⟨_, rfl⟩
                rw [← HX.out]
                rw [← hR] at r1 HRn ⊢
                clear hR HX
                obtain ⟨y0, y1⟩ : X.cell? ⟨c, 0, none⟩ = some (.slice (some ⟨bT, 0, none⟩) n n) ∧ X.cell? ⟨c, 1, none⟩ = some (.int .i64 (p + 1)) := ⟨HUX.out.toks, HUX.out.place⟩
                have hcX : c < X.heap.size := HUX.out.lt
                obtain ⟨m, HM⟩ : ∃ m, Hid (m = (pieces ts i (p - i)).length) := ⟨_, rfl⟩
                have hown : X.ownsRow base 26 1 u4 m (qs.map ptr) := by rw [HM.out]; exact HHX.out.own
                have hbX : base ≤ X.heap.size := by rw [HHX.out.from0]; exact HHX.out.grew.size
                have hm : m ≤ 4096 := by have := pieces_length ts i (p - i); rw [← HM.out] at this; omega
                have HF : ∀ W W5 : World, X.grownBy W none → W.grownBy W5 u4.ownBlock → W5.cell? ⟨c, 0, none⟩ = some (.slice (some ⟨bT, 0, none⟩) n n) ∧ W5.cell? ⟨c, 1, none⟩ = some (.int .i64 (p + 1)) := fun W W5 g1 g2 => by
                  have hne : some c ≠ u4.ownBlock := fun e => by have := (hown.lt c e.symm).1; have := HHX.out.lt; omega
                  exact ⟨g2.cell (g1.cell y0 (by simp)) hne, g2.cell (g1.cell y1 (by simp)) hne⟩
                have b1 : (0 : Int) ≤ (a : Int) := by omega
                have b2 : (a : Int) ≤ (p : Int) := by omega
                have b3 : (p : Int) ≤ (n : Int) := by omega
                have b4 : (0 : Int) ≤ (p : Int) := by omega
                have b5 : ¬ n - a = 0 := by omega
                have b6 : ¬ a = n := by omega
                have b7 : IntKind.i64.wrap ((p : Int) + 1 - 1) = (p : Int) := by rw [IntKind.wrap_i64]; omega
                have b8 : IntKind.i64.wrap (p : Int) = (p : Int) := by rw [IntKind.wrap_i64]; omega
                have hsl := slice_at bT n a p hap hlt
                have HY := pushed X bT n a p
                have hownY := owns_grown hown HY.1 (fun k e => by cases e)
                go_region_held3 (fun w' => w'.cell? ⟨c, 0, none⟩ = some (.slice (some ⟨bT, 0, none⟩) n n) ∧ w'.cell? ⟨c, 1, none⟩ = some (.int .i64 (p + 1)))
                  (first | exact ⟨y0, y1⟩ | exact ⟨((grown_drew (grown_refl X none)).cell y0 (by simp)), ((grown_drew (grown_refl X none)).cell y1 (by simp))⟩ | exact HF _ _ (grown_trans (grown_drew (grown_refl X none)) (grown_alloc _ _ _)) (grown_refl _ _) | exact HF _ _ (grown_trans (grown_trans (grown_drew (grown_refl X none)) (grown_alloc _ _ _)) (grown_alloc _ _ _)) (grown_refl _ _) | exact HF _ _ (grown_drew (grown_alloc _ _ _)) (grown_refl _ _) | exact HF _ _ HY.1 (grown_refl _ _) | exact HF _ _ HY.1 hgrow)
                  (first
                    | (go_at_call 11; refine (newCursor_any _ _ _ _).mono ?_; rintro e3 w3 ⟨rfl, rfl⟩)
                    | (refine step_append_lies _ (by rfl) (.tmp 46) (.tmp 59) 28 (by rfl) base 26 i0 (.pointer none) 1 8 Tryf.underlying28 hi0 hz0 hz1 hz2 rfl (by decide) u4 m (qs.map ptr) (by rfl) hownY ⟨X.heap.size + 1, 0, none⟩ 1 1 [ptr X.heap.size] (by rfl) rfl HY.2.1 (by simp [Value.oneCell']) (by decide) (by unfold maxLen; omega) (by omega) (by rw [HY.2.2.1]; omega) (X.heap.size + 1 + 1) HY.2.2.1 ?_; intro g cap w5 hown5 hgrow hat hlt5)
                    | fail)
                have HH5 : Hid (Held w c base bT n (.slice (some ⟨g, 0, none⟩) (m + 1) cap) (pieces ts i (p - i) ++ [(a, p)]) (qs ++ [X.heap.size]) w5) := HHX.out.push HY.1 (Nat.le_refl _) HY.2.2.2 (by rw [← HM.out]; exact hown5) hgrow
                have hneC : some c ≠ u4.ownBlock := fun e => by have := (hown.lt c e.symm).1; have := HHX.out.lt; omega
                have hneR : some R ≠ u4.ownBlock := fun e => by have := HRn.out R e.symm; omega
                have HU5 : Hid (CurAt w5 c (.slice (some ⟨bT, 0, none⟩) n n) (p + 1 : Nat)) := (HUX.out.grown HY.1 (by simp)).grown hgrow hneC
                have r5 : w5.cell? ⟨R, 1, none⟩ = some (.string t.text) := hgrow.cell (HY.1.cell r1 (by simp)) hneR
                have z1 : w5.cell? ⟨c, 1, none⟩ = some (.int .i64 (p + 1)) := HU5.out.place
                clear HF HY hownY hown5 hgrow hat hlt5 hneC hneR r1 y0 y1 hown HRn hsl b1 b2 b3 b4 b5 b6 b7 b8 HHX HUX
                go_wp2_with fail
                go_roundw
                case rel => exact ⟨p + 1, p + 1, 0, qs ++ [X.heap.size], by omega, by omega, by omega, by go_num, rfl, HSN.out.1, by rw [HSN.out.2]; exact HH5.out, HU5.out⟩
                case measure => rw [placeOf_at HU5.out, HPl.out]; omega
            · have x44 : (t.text.toList == [44]) = false := by simpa using x44
              have HSN : Hid (Scan ts i (p + 1) a L ∧ pieces ts i (p + 1 - i) = pieces ts i (p - i)) := HSc.out.plain hip HA.out (by rw [HT]; exact x40) (by rw [HT]; exact x41) (.inl (by rw [HT]; exact x44))
              clear HT
              unfold Tk.val
              go_wp2_with fail
              rw [← HX.out]
              go_roundw
              case rel => exact ⟨p + 1, a, L, qs, by omega, by omega, by omega, rfl, rfl, HSN.out.1, by rw [HSN.out.2]; exact HHX.out, HUX.out⟩
              case measure => rw [placeOf_at HUX.out, HPl.out]; omega
      · have hk : (t.kind.toList == [115, 121, 109, 98, 111, 108]) = false := by simpa using hk
        have HSN : Hid (Scan ts i (p + 1) a L ∧ pieces ts i (p + 1 - i) = pieces ts i (p - i)) := HSc.out.plain hip HA.out (symB_kind hk _) (symB_kind hk _) (.inl (symB_kind hk _))
        unfold Tk.val
        go_wp2_with fail
        rw [← HX.out]
        go_roundw
        case rel => exact ⟨p + 1, a, L, qs, by omega, by omega, by omega, rfl, rfl, HSN.out.1, by rw [HSN.out.2]; exact HHX.out, HUX.out⟩
        case measure => rw [placeOf_at HUX.out, HPl.out]; omega
    · have hpn' : p = n := by omega
      have hd : decide (p = n) = true := by simp; exact hpn'
      have HU1 : Hid (CurAt w1 c (.slice (some ⟨bT, 0, none⟩) n n) p) := HU.out.grown HG1.out (by simp)
      have HH1 : Hid (w.grownBy w1 (some c)) := grown_trans HH.out.grew (grown_any HG1.out)
      have HS1 : Hid (∀ d, d < n - i → closeB ts i d = false) := by show ∀ _, _; rw [← hpn']; exact HSc.out.none
      rw [hd]
      clear hd HG1 HH HU HSc
      go_wp2_with fail
      refine (errorf_any w1).mono ?_
      rintro e2 w2 ⟨x, y, rfl, g2⟩
      have HG2 : Hid (w1.grownBy w2 none) := g2
      clear g2
      go_wp2_with fail
      go_ret2
      refine .inl ⟨x, y, rfl, grown_trans HH1.out (grown_any HG2.out), ?_, HS1.out⟩
      have hx := HU1.out.grown HG2.out (by simp)
      rw [hpn'] at hx
      exact hx
end Go.Proofs.Qxb6627392aFmt
