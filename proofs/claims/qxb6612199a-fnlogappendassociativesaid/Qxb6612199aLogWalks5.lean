/-
  The walk of sameLog; Append in one form; the arguments' readers.
-/
import Derived.Test.Qxb6612199aLogWalks4
import Derived.Deep.QuietTactic
import Derived.BigQuiet
namespace Go.Proofs.Qxb6612199a.LogP
open Go.RowKit
set_option linter.unusedVariables false

/-- A boxed struct of three cells at the call's first new block. -/
structure BX (w wr : World) (b : Nat) (x0 x1 x2 : Value) : Prop where
  bel : Below w.heap.size w wr
  sz : b < wr.heap.size
  lo : w.heap.size ≤ b
  b0 : wr.cell? ⟨b, 0, none⟩ = some x0
  b1 : wr.cell? ⟨b, 1, none⟩ = some x1
  b2 : wr.cell? ⟨b, 2, none⟩ = some x2
theorem BX.step {w wr wr' : World} {b : Nat} {x0 x1 x2 : Value} (h : BX w wr b x0 x1 x2) (hb : Below wr.heap.size wr wr') : BX w wr' b x0 x1 x2 :=
  ⟨h.bel.trans (hb.mono h.bel.size), Nat.lt_of_lt_of_le h.sz hb.size, h.lo, keepS hb h.sz h.b0, keepS hb h.sz h.b1, keepS hb h.sz h.b2⟩
theorem below_drewN {B : Nat} {a w : World} (h : Below B a w) (n : Nat) : Below B a (w.drewN n) := ⟨h.os, h.tape, h.output, h.size, h.block⟩

set_option maxHeartbeats 1000000 in
theorem sameLog_any (B : Int) (g1 n c1 g2 m c2 h1 c3 h2 c4 : Nat) (f : Nat → E) (p : Nat → Int) (w : World) (hn : n ≤ 2097152) (hm : m ≤ 2097152)
    (e1 : EvAt w g1 0 n f) (e2 : CaAt w g2 0 m p) (e3 : EvAt w h1 0 n f) (e4 : PrAt w h2 0 m p) (l1 : g1 < w.heap.size) (l2 : g2 < w.heap.size) (l3 : h1 < w.heap.size) (l4 : h2 < w.heap.size) :
    Calls Try.prog 11 #[.agg #[.int .i64 B, .slice (some ⟨g1, 0, none⟩) n c1, .slice (some ⟨g2, 0, none⟩) m c2], .int .i64 B, .slice (some ⟨h1, 0, none⟩) n c3, .slice (some ⟨h2, 0, none⟩) m c4] w fun e w' => e = .returned (.bool true) ∧ Below w.heap.size w w' := by
  go_enter Try.func11, Try.ntmps11
  go_wp2
  go_loopw [9] (fun i wr => ∃ k : Nat, k ≤ n ∧ i = .int .i64 k ∧ BX w wr w.heap.size (.int .i64 B) (.slice (some ⟨g1, 0, none⟩) n c1) (.slice (some ⟨g2, 0, none⟩) m c2)) (fun i _ => n - (intOf i).toNat)
  case atStart => exact ⟨0, Nat.zero_le _, rfl, bel1 (Below.refl _ _) (Nat.le_refl _) _, by simp, Nat.le_refl _, by go_simp, by go_simp, by go_simp⟩
  case round =>
    obtain ⟨k, hk, rfl, T⟩ := hrel
    have tb0 := T.b0
    have tb1 := T.b1
    have tb2 := T.b2
    have tz := T.sz
    by_cases hlt : k < n
    · obtain ⟨v0, v1, v2⟩ := e1.below l1 T.bel k hlt
      obtain ⟨u0, u1, u2⟩ := e3.below l3 T.bel k hlt
      simp only [Nat.zero_add] at v0 v1 v2 u0 u1 u2
      have i0 : (0 : Int) ≤ (k : Int) := by omega
      have i1 : (k : Int) < (n : Int) := by omega
      have hl3 : h1 < wr.heap.size := Nat.lt_of_lt_of_le l3 T.bel.size
      have hl1 : g1 < wr.heap.size := Nat.lt_of_lt_of_le l1 T.bel.size
      clear e1 e2 e3 e4
      go_wp2
      go_quiet (fail)
      go_wp2
      go_roundw
      case rel => exact ⟨k + 1, by omega, by go_num, T.step (below_drewN (bel1 (Below.refl _ _) (Nat.le_refl _) _) _)⟩
      case measure => simp [intOf]; omega
    · clear e1 e3
      go_wp2
      obtain ⟨wo, hwo⟩ : ∃ wo : World, wo = wr := ⟨_, rfl⟩
      rw [← hwo] at T tb0 tb1 tb2 tz ⊢
      clear hwo
      go_loopw [11] (fun i wr => ∃ j : Nat, j ≤ m ∧ i = .int .i64 j ∧ BX w wr w.heap.size (.int .i64 B) (.slice (some ⟨g1, 0, none⟩) n c1) (.slice (some ⟨g2, 0, none⟩) m c2)) (fun i _ => m - (intOf i).toNat)
      case atStart => exact ⟨0, Nat.zero_le _, rfl, T⟩
      case round =>
        obtain ⟨j, hj, rfl, T2⟩ := hrel
        clear tb0 tb1 tb2 tz
        have tb0 := T2.b0
        have tb1 := T2.b1
        have tb2 := T2.b2
        have tz := T2.sz
        by_cases hlt2 : j < m
        · obtain ⟨v0, v1⟩ := e2.below l2 T2.bel j hlt2
          have u0 := e4.below l4 T2.bel j hlt2
          simp only [Nat.zero_add] at v0 v1 u0
          have i0 : (0 : Int) ≤ (j : Int) := by omega
          have i1 : (j : Int) < (m : Int) := by omega
          clear e2 e4
          go_wp2
          go_quiet (fail)
          go_wp2
          go_roundw
          case rel => exact ⟨j + 1, by omega, by go_num, T2.step (below_drewN (Below.refl _ _) _)⟩
          case measure => simp [intOf]; omega
        · go_wp2
          go_ret
          exact ⟨rfl, T2.bel⟩

/-- Two sequences, one behind the other. -/
def cat {α : Type} (n : Nat) (f g : Nat → α) (k : Nat) : α := if k < n then f k else g (k - n)
theorem cat_lt {α : Type} {n : Nat} {f g : Nat → α} {k : Nat} (h : k < n) : cat n f g k = f k := if_pos h
theorem cat_ge {α : Type} {n : Nat} {f g : Nat → α} (k : Nat) : cat n f g (n + k) = g k := by
  unfold cat; rw [if_neg (by omega), Nat.add_sub_cancel_left]
theorem row_catE (n m : Nat) (f g : Nat → E) : rowOf (evc f) n ++ rowOf (evc g) m = rowOf (evc (cat n f g)) (n + m) := by
  rw [rowOf_add]
  congr 1
  · exact rowOf_congr n fun k hk => by simp only [evc, cat_lt hk]
  · exact rowOf_congr m fun k hk => by simp only [evc, cat_ge]
theorem row_catC (n m : Nat) (f g : Nat → Int) : rowOf (cac f) n ++ rowOf (cac g) m = rowOf (cac (cat n f g)) (n + m) := by
  rw [rowOf_add]
  congr 1
  · exact rowOf_congr n fun k hk => by simp only [cac, cat_lt hk]
  · exact rowOf_congr m fun k hk => by simp only [cac, cat_ge]
theorem row_catP (n m : Nat) (f g : Nat → Int) : rowOf (prc f) n ++ rowOf (prc g) m = rowOf (prc (cat n f g)) (n + m) := by
  rw [rowOf_add]
  congr 1
  · exact rowOf_congr n fun k hk => by simp only [prc, cat_lt hk]
  · exact rowOf_congr m fun k hk => by simp only [prc, cat_ge]

/-- Append, both ways in one form: d: how many of the tail's events l has already; q: how many of its carried entries go with those. -/
theorem append_all (H : Nat) (B1 B2 : Int) (g1 n1 c1 g2 m1 k1 h1 n2 c2 h2 m2 k2 : Nat) (w : World) (hn1 : n1 ≤ 1048576) (hn2 : n2 ≤ 1048576)
   (hB1 : 0 ≤ B1) (hB1' : B1 ≤ 1099511627776) (hB2 : 0 ≤ B2) (hB2' : B2 ≤ 1099511627776) (d q : Nat) (hd : B1 + n1 = B2 + d) (f2 : Nat → E) (hq : q = cnt f2 (min d n2)) (hm2 : m2 = cnt f2 n2) (hnc : n2 ≤ c2) (hmc : m2 ≤ k2) (f1 : Nat → E) (p1 p2 : Nat → Int) (hm1 : m1 ≤ 1048576) (hn1c : n1 ≤ c1) (hm1c : m1 ≤ k1) (hc1b : c1 ≤ 8388608) (hk1b : k1 ≤ 8388608)
    (ho1 : w.ownsRow 0 43 3 (.slice (some ⟨g1, 0, none⟩) n1 c1) n1 (rowOf (evc f1) n1)) (ho2 : w.ownsRow 0 46 2 (.slice (some ⟨g2, 0, none⟩) m1 k1) m1 (rowOf (cac p1) m1))
    (ht1 : w.ownsRow 0 43 3 (.slice (some ⟨h1, 0, none⟩) n2 c2) n2 (rowOf (evc f2) n2)) (ht2 : w.ownsRow 0 46 2 (.slice (some ⟨h2, 0, none⟩) m2 k2) m2 (rowOf (cac p2) m2))
    (hH : H ≤ w.heap.size) (hfr1 : c1 = n1 ∨ H ≤ g1) (hfr2 : k1 = m1 ∨ H ≤ g2) :
    Calls Try.prog 10 #[.agg #[.int .i64 B1, .slice (some ⟨g1, 0, none⟩) n1 c1, .slice (some ⟨g2, 0, none⟩) m1 k1], .agg #[.int .i64 B2, .slice (some ⟨h1, 0, none⟩) n2 c2, .slice (some ⟨h2, 0, none⟩) m2 k2]] w fun e w' =>
      ∃ g1' c1' g2' c2', e = .returned (.agg #[.int .i64 B1, .slice (some ⟨g1', 0, none⟩) (n1 + (n2 - d)) c1', .slice (some ⟨g2', 0, none⟩) (m1 + (m2 - q)) c2']) ∧
        w'.ownsRow 0 43 3 (.slice (some ⟨g1', 0, none⟩) (n1 + (n2 - d)) c1') (n1 + (n2 - d)) (rowOf (evc (cat n1 f1 (fun k => f2 (d + k)))) (n1 + (n2 - d))) ∧ n1 + (n2 - d) ≤ c1' ∧ c1' ≤ 2 * c1 + n1 + n2 + 8 ∧ (c1' = n1 + (n2 - d) ∨ H ≤ g1') ∧
        w'.ownsRow 0 46 2 (.slice (some ⟨g2', 0, none⟩) (m1 + (m2 - q)) c2') (m1 + (m2 - q)) (rowOf (cac (cat m1 p1 (fun k => p2 (q + k)))) (m1 + (m2 - q))) ∧ m1 + (m2 - q) ≤ c2' ∧ c2' ≤ 2 * k1 + m1 + m2 + 8 ∧ (c2' = m1 + (m2 - q) ∨ H ≤ g2') ∧ Below H w w' ∧ (∀ b, b < w.heap.size → b ≠ g1 → b ≠ g2 → w'.heap[b]? = w.heap[b]?) := by
  have cap_ge : ∀ {W : World} {e s g n c : Nat} {xs : List Value}, W.ownsRow 0 e s (.slice (some ⟨g, 0, none⟩) n c) n xs → n ≤ c := fun h => by
    rcases h.2 with ⟨h0, _⟩ | ⟨_, _, _, hv, _, _, hle, _⟩
    · cases h0
    · cases hv; exact hle
  have hcl := cnt_le f2 n2
  by_cases hdn : d < n2
  · have hq' : q = cnt f2 d := by rw [hq, Nat.min_eq_left (by omega)]
    have hcm : q + cnt (fun k => f2 (d + k)) (n2 - d) = m2 := by
      have := cnt_add f2 d (n2 - d)
      rw [show d + (n2 - d) = n2 by omega] at this
      omega
    refine (append_more H B1 B2 g1 n1 c1 g2 m1 k1 h1 n2 c2 h2 m2 k2 w hn1 hn2 hB1 hB1' hB2 hB2' d q hd hdn f2 hcm (by omega) hnc hmc f1 p1 p2 hm1 hn1c hm1c hc1b hk1b ho1 ho2 ht1 ht2 hH hfr1 hfr2).mono ?_
    rintro e w' ⟨g1', c1', g2', c2', rfl, o1, b1, x1, o2, b2, x2, hB, hK⟩
    refine ⟨g1', c1', g2', c2', rfl, ?_, cap_ge o1, by omega, x1, ?_, cap_ge o2, by omega, x2, hB, hK⟩
    · rw [← row_catE]; exact o1
    · rw [← row_catC]; exact o2
  · have hq' : q = m2 := by rw [hq, Nat.min_eq_right (by omega), hm2]
    have z1 : n2 - d = 0 := by omega
    have z2 : m2 - q = 0 := by omega
    rw [z1, z2]
    refine (append_same B1 B2 g1 n1 c1 g2 m1 k1 h1 n2 c2 h2 m2 k2 w hn1 hn2 hB1 hB1' hB2 hB2' (by omega)).mono ?_
    rintro e w' ⟨rfl, hB⟩
    have hg1 : g1 < w.heap.size := (ho1.lt g1 rfl).2
    have hg2 : g2 < w.heap.size := (ho2.lt g2 rfl).2
    refine ⟨g1, c1, g2, k1, rfl, ?_, hn1c, by omega, hfr1, ?_, hm1c, by omega, hfr2, hB.mono hH, fun b hb _ _ => hB.block b hb⟩
    · rw [← row_catE]; simpa [rowOf] using ownsRow_below ho1 hB hg1
    · rw [← row_catC]; simpa [rowOf] using ownsRow_below ho2 hB hg2

theorem EvIn.below {w w' : World} {a : Option Addr} {n : Nat} {f : Nat → E} (h : EvIn w a n f) (hb : Below w.heap.size w w') : EvIn w' a n f := fun k hk => by
  obtain ⟨b, off, e, hl, hE⟩ := h k hk
  exact ⟨b, off, e, Nat.lt_of_lt_of_le hl hb.size, hE.below hl hb⟩
theorem PrIn.below {w w' : World} {a : Option Addr} {n : Nat} {p : Nat → Int} (h : PrIn w a n p) (hb : Below w.heap.size w w') : PrIn w' a n p := fun k hk => by
  obtain ⟨b, off, e, hl, hE⟩ := h k hk
  exact ⟨b, off, e, Nat.lt_of_lt_of_le hl hb.size, hE.below hl hb⟩
theorem EvIn.cells {w : World} {a : Option Addr} {n : Nat} {f : Nat → E} (h : EvIn w a n f) : ∀ ad, a = some ad → ∀ j u, (rowOf (evc f) n)[j]? = some u → w.cell? (ad.add j) = some u := by
  intro ad ha j u hu
  by_cases hn : n = 0
  · subst hn; simp [rowOf] at hu
  · obtain ⟨b, off, e, _, hE⟩ := h 0 (by omega)
    rw [ha] at e; cases e
    exact hE.cells j u hu
theorem PrIn.cells {w : World} {a : Option Addr} {n : Nat} {p : Nat → Int} (h : PrIn w a n p) : ∀ ad, a = some ad → ∀ j u, (rowOf (prc p) n)[j]? = some u → w.cell? (ad.add j) = some u := by
  intro ad ha j u hu
  by_cases hn : n = 0
  · subst hn; simp [rowOf] at hu
  · obtain ⟨b, off, e, _, hE⟩ := h 0 (by omega)
    rw [ha] at e; cases e
    exact hE.cells j u hu

set_option maxHeartbeats 400000 in
theorem sentCount_zero (a : Option Addr) (c : Nat) (f : Nat → E) (w : World) :
    Calls Try.prog 8 #[.slice a 0 c] w fun e w' => e = .returned (.int .i64 (cnt f 0)) ∧ w' = w := by
  go_enter Try.func8, Try.ntmps8
  go_wp2
  go_loop [3, 4] (fun c i => i = .int .i64 0 ∧ c = .int .i64 0) (fun _ _ => 0)
  case atStart => exact ⟨rfl, rfl⟩
  case round =>
    obtain ⟨rfl, rfl⟩ := hrel
    go_wp2
    go_ret
    exact ⟨rfl, rfl⟩
theorem sentCount_in (a : Option Addr) (n c : Nat) (f : Nat → E) (w : World) (hn : n ≤ 1048576) (h : EvIn w a n f) :
    Calls Try.prog 8 #[.slice a n c] w fun e w' => e = .returned (.int .i64 (cnt f n)) ∧ w' = w := by
  by_cases h0 : n = 0
  · subst h0; exact sentCount_zero a c f w
  · obtain ⟨b, off, rfl, _, hE⟩ := h 0 (by omega)
    exact sentCount_at b off n c f w hn hE

theorem logBytes_bel (B : Int) (a1 a2 : Option Addr) (n c1 m c2 : Nat) (w : World) (hn : n ≤ 1048576) (hm : m ≤ 1048576) :
    Calls Try.prog 7 #[.agg #[.int .i64 B, .slice a1 n c1, .slice a2 m c2]] w fun e w' => e = .returned (.int .i64 (24 + 24 * n + 4 * m)) ∧ Below w.heap.size w w' :=
  (logBytes_any B a1 a2 n c1 m c2 w hn hm).mono fun e w' ⟨he, hw⟩ => ⟨he, by rw [hw]; exact bel1 (Below.refl _ _) (Nat.le_refl _) _⟩

end Go.Proofs.Qxb6612199a.LogP
