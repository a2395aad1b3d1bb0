/-
  The walk of FnLogAppendExact.
-/
import Derived.Test.Qxb6612199aLogWalks5
import Derived.Deep.DeepCutAuto
import Derived.Deep.AppendLies
namespace Go.Proofs.Qxb6612199a.LogP
open Go.RowKit
set_option linter.unusedVariables false
attribute [local go_sem ↓] Go.wp_at_zero Go.wp_at_succ

theorem info36 : (Try.prog.info? 36).map (fun i => (i.zero, i.size, i.bytes)) = some (some (.agg #[.int .u8 0, .int .i64 0, .int .i64 0]), 3, 24) := by kernel_rfl
theorem info37 : (Try.prog.info? 37).map (fun i => (i.zero, i.size, i.bytes)) = some (some (.int .u32 0), 1, 4) := by kernel_rfl

/-- Two boxed structs at the call's first two blocks. -/
def S2 (w w' : World) (x0 x1 x2 y0 y1 y2 : Value) : Prop :=
  (Below w.heap.size w w' ∧ w.heap.size + 2 ≤ w'.heap.size) ∧ w'.cell? ⟨w.heap.size, 0, none⟩ = some x0 ∧ w'.cell? ⟨w.heap.size, 1, none⟩ = some x1 ∧ w'.cell? ⟨w.heap.size, 2, none⟩ = some x2 ∧
    w'.cell? ⟨w.heap.size + 1, 0, none⟩ = some y0 ∧ w'.cell? ⟨w.heap.size + 1, 1, none⟩ = some y1 ∧ w'.cell? ⟨w.heap.size + 1, 2, none⟩ = some y2
theorem S2.stepB {w W W' : World} {B : Nat} {x0 x1 x2 y0 y1 y2 : Value} (h : S2 w W x0 x1 x2 y0 y1 y2) (hb : Below B W W') (hB : w.heap.size + 2 ≤ B) : S2 w W' x0 x1 x2 y0 y1 y2 := by
  obtain ⟨⟨hb0, hz⟩, h0, h1, h2, h3, h4, h5⟩ := h
  exact ⟨⟨hb0.trans (hb.mono (by omega)), Nat.le_trans hz hb.size⟩, keepS hb (by simp; omega) h0, keepS hb (by simp; omega) h1, keepS hb (by simp; omega) h2, keepS hb (by simp; omega) h3, keepS hb (by simp; omega) h4, keepS hb (by simp; omega) h5⟩
theorem S2.step {w W W' : World} {x0 x1 x2 y0 y1 y2 : Value} (h : S2 w W x0 x1 x2 y0 y1 y2) (hb : Below W.heap.size W W') : S2 w W' x0 x1 x2 y0 y1 y2 := h.stepB hb h.1.2
theorem S2.drew {w W : World} {x0 x1 x2 y0 y1 y2 : Value} (h : S2 w W x0 x1 x2 y0 y1 y2) : S2 w W.drew x0 x1 x2 y0 y1 y2 := ⟨⟨h.1.1.drew, h.1.2⟩, h.2⟩
theorem S2.drewN {w W : World} {x0 x1 x2 y0 y1 y2 : Value} (h : S2 w W x0 x1 x2 y0 y1 y2) (n : Nat) : S2 w (W.drewN n) x0 x1 x2 y0 y1 y2 := ⟨⟨below_drewN h.1.1 n, h.1.2⟩, h.2⟩
theorem S2.bel {w W : World} {x0 x1 x2 y0 y1 y2 : Value} (h : S2 w W x0 x1 x2 y0 y1 y2) : Below w.heap.size w W := h.1.1
theorem S2.start (w : World) (x0 x1 x2 y0 y1 y2 : Value) (t : TypeId) : S2 w ((w.alloc (.cells #[x0, x1, x2] t)).alloc (.cells #[y0, y1, y2] t)) x0 x1 x2 y0 y1 y2 :=
  ⟨⟨bel2 (Below.refl _ _) (Nat.le_refl _) _ _, by simp⟩, by go_simp, by go_simp, by go_simp, by go_simp, by go_simp, by go_simp⟩

theorem bytes_bel (B : Int) (a1 a2 : Option Addr) (n c1 m c2 : Nat) (B' : Int) (a1' a2' : Option Addr) (n' c1' m' c2' : Nat) (w : World) (hn : n ≤ 9223372036854775807) (hm : m ≤ 9223372036854775807) (hn' : n' ≤ 9223372036854775807) (hm' : m' ≤ 9223372036854775807) :
    Calls Try.prog 6 #[.agg #[.int .i64 B, .slice a1 n c1, .slice a2 m c2], .agg #[.int .i64 B', .slice a1' n' c1', .slice a2' m' c2']] w fun e w' =>
      ∃ t : Bool, e = .returned (.bool t) ∧ (t = true → n + m + n' + m' ≤ 1048576) ∧ Below w.heap.size w w' :=
  (bytes_any B a1 a2 n c1 m c2 B' a1' a2' n' c1' m' c2' w hn hm hn' hm').mono fun e w' ⟨t, he, ht, hw⟩ => ⟨t, he, ht, by rw [hw]; exact bel2 (Below.refl _ _) (Nat.le_refl _) _ _⟩

/-- A new variable of type clock.Log, as yet zero. -/
def C6 (W : World) (b : Nat) : Prop := b < W.heap.size ∧ (∃ cur, W.heap[b]? = some (.cells cur 32 (0, 0))) ∧ W.cell? ⟨b, 0, none⟩ = some (.int .i64 0) ∧ W.cell? ⟨b, 1, none⟩ = some (.slice none 0 0) ∧ W.cell? ⟨b, 2, none⟩ = some (.slice none 0 0) ∧
  W.frozen? ⟨b, 0, none⟩ = false ∧ W.frozen? ⟨b, 1, none⟩ = false ∧ W.frozen? ⟨b, 2, none⟩ = false
theorem C6.step {W w' : World} {b : Nat} (h : C6 W b) (hb : Below W.heap.size W w') : C6 w' b := by
  obtain ⟨h0, ⟨cur, hc⟩, h1, h2, h3, h4, h5, h6⟩ := h
  exact ⟨Nat.lt_of_lt_of_le h0 hb.size, ⟨cur, by rw [hb.block b h0]; exact hc⟩, keepS hb h0 h1, keepS hb h0 h2, keepS hb h0 h3, keepF hb h0 h4, keepF hb h0 h5, keepF hb h0 h6⟩
theorem C6.new (W : World) : C6 (W.alloc (.cells #[.int .i64 0, .slice none 0 0, .slice none 0 0] 32)) W.heap.size :=
  ⟨by simp, ⟨_, heap_alloc_new W _⟩, by go_simp, by go_simp, by go_simp, by go_simp, by go_simp, by go_simp⟩
theorem ne_32 {w : World} {e s g b n c : Nat} {xs : List Value} (he : e ≠ 32) (h : w.ownsRow 0 e s (.slice (some ⟨g, 0, none⟩) n c) n xs) (hb : ∃ cur, w.heap[b]? = some (.cells cur 32 (0, 0))) : g ≠ b := by
  rintro rfl
  obtain ⟨cur', hb⟩ := hb
  rcases h.2 with ⟨h0, _⟩ | ⟨_, _, cur, hv, _, hg, _⟩
  · cases h0
  · cases hv
    rw [hg] at hb
    injection hb with hb
    injection hb with _ hb _
    exact he hb

/-- A variable of type clock.Log at block gv that holds a log, its rows readable. -/
def LogV (wc : World) (gv : Nat) (B : Int) (N : Nat) (F : Nat → E) (M : Nat) (P : Nat → Int) : Prop :=
  gv < wc.heap.size ∧ ∃ g1 e1 g2 e2, wc.cell? ⟨gv, 0, none⟩ = some (.int .i64 B) ∧ wc.cell? ⟨gv, 1, none⟩ = some (.slice (some ⟨g1, 0, none⟩) N e1) ∧ wc.cell? ⟨gv, 2, none⟩ = some (.slice (some ⟨g2, 0, none⟩) M e2)
    ∧ EvAt wc g1 0 N F ∧ CaAt wc g2 0 M P ∧ g1 < wc.heap.size ∧ g2 < wc.heap.size
theorem LogV.alloc {w : World} {B : Int} {N M g1 g2 e1 e2 : Nat} {F : Nat → E} {P : Nat → Int} (o1 : w.ownsRow 0 43 3 (.slice (some ⟨g1, 0, none⟩) N e1) N (rowOf (evc F) N)) (o2 : w.ownsRow 0 46 2 (.slice (some ⟨g2, 0, none⟩) M e2) M (rowOf (cac P) M)) :
    LogV (w.alloc (.cells #[.int .i64 B, .slice (some ⟨g1, 0, none⟩) N e1, .slice (some ⟨g2, 0, none⟩) M e2] 32)) w.heap.size B N F M P := by
  have l1 := (o1.lt g1 rfl).2
  have l2 := (o2.lt g2 rfl).2
  exact ⟨by simp, g1, e1, g2, e2, by go_simp, by go_simp, by go_simp, EvAt.of_owns (o1.alloc _), CaAt.of_owns (o2.alloc _), by simp; omega, by simp; omega⟩
theorem LogV.store {w : World} {b : Nat} {B : Int} {N M g1 g2 e1 e2 : Nat} {F : Nat → E} {P : Nat → Int} (hC : C6 w b) (o1 : w.ownsRow 0 43 3 (.slice (some ⟨g1, 0, none⟩) N e1) N (rowOf (evc F) N)) (o2 : w.ownsRow 0 46 2 (.slice (some ⟨g2, 0, none⟩) M e2) M (rowOf (cac P) M)) :
    LogV (((w.setCell ⟨b, 0, none⟩ (.int .i64 B)).setCell ⟨b, 1, none⟩ (.slice (some ⟨g1, 0, none⟩) N e1)).setCell ⟨b, 2, none⟩ (.slice (some ⟨g2, 0, none⟩) M e2)) b B N F M P := by
  obtain ⟨h0, hx, h1, h2, h3, _⟩ := hC
  have hst := st3 w b (.int .i64 B) (.slice (some ⟨g1, 0, none⟩) N e1) (.slice (some ⟨g2, 0, none⟩) M e2) _ _ _ h1 h2 h3
  simp only [] at hst
  obtain ⟨x0, x1, x2, hg, hb⟩ := hst
  have n1 := ne_32 (by decide) o1 hx
  have n2 := ne_32 (by decide) o2 hx
  have o1' := o1.kept hg (Or.inr (fun e => n1 (Option.some.inj e)))
  have o2' := o2.kept hg (Or.inr (fun e => n2 (Option.some.inj e)))
  exact ⟨Nat.lt_of_lt_of_le h0 hg.size, g1, e1, g2, e2, x0, x1, x2, EvAt.of_owns o1', CaAt.of_owns o2', (o1'.lt g1 rfl).2, (o2'.lt g2 rfl).2⟩
theorem LogV.step {w w' : World} {gv : Nat} {B : Int} {N M : Nat} {F : Nat → E} {P : Nat → Int} (h : LogV w gv B N F M P) (hb : Below w.heap.size w w') : LogV w' gv B N F M P := by
  obtain ⟨h0, g1, e1, g2, e2, x0, x1, x2, hE, hC, l1, l2⟩ := h
  exact ⟨Nat.lt_of_lt_of_le h0 hb.size, g1, e1, g2, e2, keepS hb h0 x0, keepS hb h0 x1, keepS hb h0 x2, hE.below l1 hb, hC.below l2 hb, Nat.lt_of_lt_of_le l1 hb.size, Nat.lt_of_lt_of_le l2 hb.size⟩
theorem grown_bel {B : Nat} {a w w' : World} {row : Option Nat} (h : Below B a w) (hg : w.grownBy w' row) (hB : B ≤ w.heap.size) (hr : ∀ k, row = some k → B ≤ k) : Below B a w' := h.grown hg hB hr

/-- What wantEv and wantPri hold behind k of the tail's events. -/
def evRow (f1 f2 : Nat → E) (n1 d k : Nat) : List Value := rowOf (evc f1) n1 ++ rowOf (evc (fun j => f2 (d + j))) (k - d)
def prRow (p1 p2 : Nat → Int) (m1 q c : Nat) : List Value := rowOf (prc p1) m1 ++ rowOf (prc (fun j => p2 (q + j))) (c - q)
theorem evRow_zero (f1 f2 : Nat → E) (n1 d : Nat) : evRow f1 f2 n1 d 0 = rowOf (evc f1) n1 := by simp [evRow, rowOf]
theorem prRow_zero (p1 p2 : Nat → Int) (m1 q : Nat) : prRow p1 p2 m1 q 0 = rowOf (prc p1) m1 := by simp [prRow, rowOf]
theorem evRow_past (f1 f2 : Nat → E) (n1 d k : Nat) (h : d ≤ k) : evRow f1 f2 n1 d (k + 1) = evRow f1 f2 n1 d k ++ [.int .u8 (f2 k).kd, .int .i64 (f2 k).nd, .int .i64 (f2 k).st] := by
  unfold evRow
  rw [show k + 1 - d = (k - d) + 1 by omega, rowOf, ← List.append_assoc]
  simp only [evc, show d + (k - d) = k by omega]
theorem evRow_not (f1 f2 : Nat → E) (n1 d k : Nat) (h : k < d) : evRow f1 f2 n1 d (k + 1) = evRow f1 f2 n1 d k := by
  unfold evRow
  rw [show k + 1 - d = k - d by omega]
theorem prRow_past (p1 p2 : Nat → Int) (m1 q c : Nat) (h : q ≤ c) : prRow p1 p2 m1 q (c + 1) = prRow p1 p2 m1 q c ++ [.int .u32 (p2 c)] := by
  unfold prRow
  rw [show c + 1 - q = (c - q) + 1 by omega, rowOf, ← List.append_assoc]
  simp only [prc, show q + (c - q) = c by omega]
theorem prRow_not (p1 p2 : Nat → Int) (m1 q c c' : Nat) (h : c ≤ q) (h' : c' ≤ q) : prRow p1 p2 m1 q c' = prRow p1 p2 m1 q c := by
  unfold prRow
  rw [show c' - q = 0 by omega, show c - q = 0 by omega]

theorem EvAt.of_owns36 {w : World} {base g n cap : Nat} {f : Nat → E} (h : w.ownsRow base 36 3 (.slice (some ⟨g, 0, none⟩) n cap) n (rowOf (evc f) n)) : EvAt w g 0 n f := fun k hk => by
  refine ⟨?_, ?_, ?_⟩
  · rw [Nat.zero_add, h.cellAt _ (by omega)]; exact rowOf_get (evc f) 3 (evc_length f) n k 0 hk (by omega)
  · rw [Nat.zero_add, h.cellAt _ (by omega)]; exact rowOf_get (evc f) 3 (evc_length f) n k 1 hk (by omega)
  · rw [Nat.zero_add, h.cellAt _ (by omega)]; exact rowOf_get (evc f) 3 (evc_length f) n k 2 hk (by omega)
theorem PrAt.of_owns {w : World} {base g n cap : Nat} {p : Nat → Int} (h : w.ownsRow base 37 1 (.slice (some ⟨g, 0, none⟩) n cap) n (rowOf (prc p) n)) : PrAt w g 0 n p := fun k hk => by
  have := rowOf_get (prc p) 1 (prc_length p) n k 0 hk (by omega)
  rw [Nat.mul_one, Nat.add_zero] at this
  rw [Nat.zero_add, h.cellAt _ (by omega), this]; rfl

set_option maxRecDepth 20000 in
set_option maxHeartbeats 4000000 in
theorem exact_any (B1 B2 : Int) (a1 a2 b1 b2 : Option Addr) (n1 c1 m1 k1 n2 c2 m2 k2 : Nat) (f1 f2 : Nat → E) (p1 p2 : Nat → Int) (w : World)
    (hn1 : n1 ≤ 9223372036854775807) (hm1 : m1 ≤ 9223372036854775807) (hn2 : n2 ≤ 9223372036854775807) (hm2 : m2 ≤ 9223372036854775807)
    (E1 : EvIn w a1 n1 f1) (P1 : PrIn w a2 m1 p1) (E2 : EvIn w b1 n2 f2) (P2 : PrIn w b2 m2 p2) (N1 : a1 = none → n1 = 0 ∧ c1 = 0) (N2 : a2 = none → m1 = 0 ∧ k1 = 0) :
    Calls Try.prog 3 #[.agg #[.int .i64 B1, .slice a1 n1 c1, .slice a2 m1 k1], .agg #[.int .i64 B2, .slice b1 n2 c2, .slice b2 m2 k2]] w fun e w' => e = .returned (.bool true) ∧ Below w.heap.size w w' := by
  go_enter Try.func3, Try.ntmps3
  go_wp2_with (go_at_call 6; refine (bytes_bel B1 a1 a2 n1 c1 m1 k1 B2 b1 b2 n2 c2 m2 k2 _ hn1 hm1 hn2 hm2).mono ?_; rintro e w1 ⟨t, rfl, ht, hb1⟩; cases t)
  · go_ret
    exact ⟨rfl, (bel2 (Below.refl _ _) (Nat.le_refl _) _ _).trans (hb1.mono (by simp; omega))⟩
  · have hS := (S2.start w _ _ _ _ _ _ _).step hb1
    clear hb1
    have hsum : n1 + m1 + n2 + m2 ≤ 1048576 := by simpa using ht
    clear ht
    have hwr : IntKind.i64.wrap (24 + 24 * (n1 : Int) + 4 * (m1 : Int) + (24 + 24 * (n2 : Int) + 4 * (m2 : Int))) = 24 + 24 * (n1 : Int) + 4 * (m1 : Int) + (24 + 24 * (n2 : Int) + 4 * (m2 : Int)) := by rw [IntKind.wrap_i64]; omega
    go_region_held3 (fun w' => (Below w.heap.size w w' ∧ w.heap.size + 2 ≤ w'.heap.size) ∧ w'.cell? ⟨w.heap.size, 0, none⟩ = some (.int .i64 B1) ∧ w'.cell? ⟨w.heap.size, 1, none⟩ = some (.slice a1 n1 c1) ∧ w'.cell? ⟨w.heap.size, 2, none⟩ = some (.slice a2 m1 k1) ∧ w'.cell? ⟨w.heap.size + 1, 0, none⟩ = some (.int .i64 B2) ∧ w'.cell? ⟨w.heap.size + 1, 1, none⟩ = some (.slice b1 n2 c2) ∧ w'.cell? ⟨w.heap.size + 1, 2, none⟩ = some (.slice b2 m2 k2))
      (first | exact hS.drew | exact S2.step (by assumption) hbB | exact S2.step (by assumption) hbA)
      ((first | (go_at_call_of 7 (Value.agg #[.int .i64 B1, .slice a1 n1 c1, .slice a2 m1 k1]); refine (logBytes_bel B1 a1 a2 n1 c1 m1 k1 _ (by omega) (by omega)).mono ?_; rintro e w2 ⟨rfl, hbA⟩) | (go_at_call 7; refine (logBytes_bel B2 b1 b2 n2 c2 m2 k2 _ (by omega) (by omega)).mono ?_; rintro e w3 ⟨rfl, hbB⟩)))
    have hS3 : S2 w w3 _ _ _ _ _ _ := ‹_›
    obtain ⟨⟨hB3, hz3⟩, s0, s1, s2, s3, s4, s5⟩ := id hS3
    clear hbA hbB hS
    go_wp2
    · go_ret; exact ⟨rfl, hB3⟩
    · go_ret; exact ⟨rfl, hB3⟩
    · go_ret; exact ⟨rfl, hB3⟩
    rotate_left
    · go_ret; exact ⟨rfl, hB3⟩
    · go_ret; exact ⟨rfl, hB3⟩
    · go_ret; exact ⟨rfl, hB3⟩
    have hle : B2 ≤ B1 + n1 := by assumption
    have hbs : 24 + 24 * (n1 : Int) + 4 * (m1 : Int) + (24 + 24 * (n2 : Int) + 4 * (m2 : Int)) ≤ 1048576 := by assumption
    have hB1a : 0 ≤ B1 := by assumption
    have hB1b : B1 ≤ 1099511627776 := by assumption
    have hB2a : 0 ≤ B2 := by assumption
    have hB2b : B2 ≤ 1099511627776 := by omega
    go_quiet ((go_at_call 8; exact Calls.quiet_of_same (sentCount_in b1 n2 c2 f2 _ (by omega) (E2.below (by first | exact hB3 | exact below_drewN hB3 _ | exact hB3.drew)))))
    go_wp2
    · go_ret; exact ⟨rfl, below_drewN hB3 _⟩
    have hm0 : ((m2 : Int) != (cnt f2 n2 : Int)) = false := by assumption
    have HM : Hid (m2 = cnt f2 n2) := by
      have : (m2 : Int) = (cnt f2 n2 : Int) := by simpa using hm0
      exact Int.ofNat_inj.1 this
    obtain ⟨d, hd⟩ : ∃ d : Nat, B1 + n1 = B2 + d := ⟨(B1 + n1 - B2).toNat, by omega⟩
    have HD : Hid (B1 + n1 = B2 + d) := hd
    obtain ⟨q, hq⟩ : ∃ q, q = cnt f2 (min d n2) := ⟨_, rfl⟩
    have HQ : Hid (q = cnt f2 (min d n2)) := hq
    have hS4 := hS3.drewN nq
    clear hd hq hm0
    go_cut [6] (fun v6 wc => S2 w wc (.int .i64 B1) (.slice a1 n1 c1) (.slice a2 m1 k1) (.int .i64 B2) (.slice b1 n2 c2) (.slice b2 m2 k2) ∧ ∃ gv, v6 = .pointer (some ⟨gv, 0, none⟩) ∧ LogV wc gv B1 (n1 + (n2 - d)) (cat n1 f1 (fun k => f2 (d + k))) (m1 + (m2 - q)) (cat m1 p1 (fun k => p2 (q + k))))
    case first =>
      go_region_held3 (fun w' => (Below w.heap.size w w' ∧ w.heap.size + 2 ≤ w'.heap.size) ∧ w'.cell? ⟨w.heap.size, 0, none⟩ = some (.int .i64 B1) ∧ w'.cell? ⟨w.heap.size, 1, none⟩ = some (.slice a1 n1 c1) ∧ w'.cell? ⟨w.heap.size, 2, none⟩ = some (.slice a2 m1 k1) ∧ w'.cell? ⟨w.heap.size + 1, 0, none⟩ = some (.int .i64 B2) ∧ w'.cell? ⟨w.heap.size + 1, 1, none⟩ = some (.slice b1 n2 c2) ∧ w'.cell? ⟨w.heap.size + 1, 2, none⟩ = some (.slice b2 m2 k2))
        (first | exact hS4.drew | exact S2.step (by assumption) hbR | exact S2.step (by assumption) hbQ | exact S2.step (by assumption) hbP | exact S2.step (by assumption) (bel1 (Below.refl _ _) (Nat.le_refl _) _) | exact S2.step hS6 (bel1 (Below.refl _ _) (Nat.le_refl _) _) | exact S2.stepB hS6 ((((Below.refl (w.heap.size + 2) _).setCell (by simp <;> omega) _).setCell (by simp <;> omega) _).setCell (by simp <;> omega) _) (Nat.le_refl _))
        ((first
          | (go_at_call_of 9 (Value.agg #[.int .i64 B1, .slice a1 n1 c1, .slice a2 m1 k1]); refine (toLog_any B1 a1 a2 n1 c1 m1 k1 f1 p1 _ (by omega) (by omega) (E1.below (S2.bel (by assumption))) (P1.below (S2.bel (by assumption)))).mono ?_; rintro e w4 ⟨g1, g2, rfl, o1, o2, hbP⟩; (try (have G0 := (C6.new _).step hbP; have G : C6 w4 w3.heap.size := G0)); have z4 := (S2.step (by assumption) hbP).1.2)
          | (go_at_call 9; refine (toLog_any B2 b1 b2 n2 c2 m2 k2 f2 p2 _ (by omega) (by omega) (E2.below (S2.bel (by assumption))) (P2.below (S2.bel (by assumption)))).mono ?_; rintro e w5 ⟨h1, h2, rfl, o3, o4, hbQ⟩; (first | have G := (C6.new _).step hbQ | have G := C6.step G hbQ | skip); have z5 := (S2.step (by assumption) hbQ).1.2; have o1' := ownsRow_below (by first | exact o1 | exact o1.alloc _) hbQ (by have := (o1.lt g1 rfl).2; (try simp) <;> omega); have o2' := ownsRow_below (by first | exact o2 | exact o2.alloc _) hbQ (by have := (o2.lt g2 rfl).2; (try simp) <;> omega))
          | (go_at_call 10; refine (append_all _ B1 B2 g1 n1 n1 g2 m1 m1 h1 n2 n2 h2 m2 m2 _ (by omega) (by omega) hB1a hB1b hB2a hB2b d q HD.out f2 HQ.out HM.out (Nat.le_refl _) (Nat.le_refl _) f1 p1 p2 (by omega) (Nat.le_refl _) (Nat.le_refl _) (by omega) (by omega) (by first | exact o1' | exact o1'.alloc _) (by first | exact o2' | exact o2'.alloc _) (by first | exact o3 | exact o3.alloc _) (by first | exact o4 | exact o4.alloc _) (Nat.le_refl _) (Or.inl rfl) (Or.inl rfl)).mono ?_; rintro e w6 ⟨g1', c1', g2', c2', rfl, oE, _, _, _, oC, _, _, _, hbR⟩; (first | have G := (C6.new _).step hbR | have G := C6.step G hbR | skip); have hS6 := S2.step (by assumption) hbR; (try have GG := G); (try obtain ⟨gz0, _, gx0, gx1, gx2, gy0, gy1, gy2⟩ := G))))
      all_goals
        go_wp2_with fail
        have hSf : S2 w _ _ _ _ _ _ _ := ‹_›
        go_meet
        case rel => first | exact ⟨hSf, _, rfl, LogV.alloc oE oC⟩ | exact ⟨hSf, _, rfl, LogV.store GG oE oC⟩
    case rest =>
      obtain ⟨hSc, gv, rfl, hL⟩ := hcut
      obtain ⟨i36, hi, hx0, hx1, hx2⟩ := info_parts info36
      obtain ⟨i37, hj, hy0, hy1, hy2⟩ := info_parts info37
      obtain ⟨⟨hBc, hzc⟩, t0, t1, t2, t3, t4, t5⟩ := id hSc
      clear s0 s1 s2 s3 s4 s5 hS3 hS4
      go_wp2_with (at_make; refine wpList_make_own _ rfl _ _ 22 rfl 0 36 i36 _ 3 Try.underlying22 hi hx0 hx1 _ _ _ (n1 + n2) rfl rfl (by omega) (by rw [hx2]; omega) (by simp only [maxLen]; omega) (Nat.zero_le _) ?_)
      intro w7 ow7 gr7
      have hW7 : Below wc.heap.size wc w7 := grown_bel (Below.refl _ _) gr7 (Nat.le_refl _) (by simp)
      obtain ⟨⟨hB7, _⟩, x0, x1, x2, x3, x4, x5⟩ := hSc.step hW7
      clear gr7
      go_wp2_with (at_builtin; refine wpList_append_fits_any _ rfl _ _ 22 rfl 0 36 i36 3 Try.underlying22 hi hx1 wc.heap.size 0 (n1 + n2) [] rfl ow7 a1 n1 c1 (rowOf (evc f1) n1) rfl (rowOf_length _ 3 (evc_length _) _) N1 (E1.below hB7).cells (ev_one _ _) (by omega) ?_)
      intro w8 ow8 gr8
      have hW8 : Below wc.heap.size wc w8 := grown_bel hW7 gr8 hW7.size (by simp)
      obtain ⟨⟨hB8, _⟩, y0, y1, y2, y3, y4, y5⟩ := hSc.step hW8
      clear gr8 ow7 x0 x1 x2 x3 x4 x5 hB7 t0 t1 t2 t3 t4 t5
      go_wp2_with (at_make; refine wpList_make_own _ rfl _ _ 23 rfl 0 37 i37 _ 1 Try.underlying23 hj hy0 hy1 _ _ _ (m1 + m2) rfl rfl (by omega) (by rw [hy2]; omega) (by simp only [maxLen]; omega) (Nat.zero_le _) ?_)
      intro w9 ow9 gr9
      have hge : wc.heap.size < w8.heap.size := (ow8.lt wc.heap.size rfl).2
      have hW9 : Below wc.heap.size wc w9 := grown_bel hW8 gr9 hW8.size (by simp)
      have ow8' := ow8.kept gr9 (Or.inr (by simp [Value.ownBlock]))
      obtain ⟨⟨hB9, _⟩, x0, x1, x2, x3, x4, x5⟩ := hSc.step hW9
      clear gr9 y0 y1 y2 y3 y4 y5
      go_wp2_with (at_builtin; refine wpList_append_fits_any _ rfl _ _ 23 rfl 0 37 i37 1 Try.underlying23 hj hy1 w8.heap.size 0 (m1 + m2) [] rfl ow9 a2 m1 k1 (rowOf (prc p1) m1) rfl (rowOf_length _ 1 (prc_length _) _) N2 (P1.below hB9).cells (pr_one _ _) (by omega) ?_)
      intro w10 ow10 gr10
      have hW10 : Below wc.heap.size wc w10 := grown_bel hW9 gr10 hW9.size (by simp; omega)
      have owE := ow8'.kept gr10 (Or.inr (by simp [Value.ownBlock]; omega))
      obtain ⟨⟨hB10, _⟩, y0, y1, y2, y3, y4, y5⟩ := hSc.step hW10
      clear gr10 ow8 ow8' ow9 x0 x1 x2 x3 x4 x5
      go_wp2
      obtain ⟨ge, hge0⟩ : ∃ ge, ge = wc.heap.size := ⟨_, rfl⟩
      obtain ⟨gp, hgp0⟩ : ∃ gp, gp = w8.heap.size := ⟨_, rfl⟩
      rw [← hge0] at owE ⊢
      rw [← hgp0] at ow10 ⊢
      have hgg : ge < gp := by omega
      have hgc : wc.heap.size ≤ ge := by omega
      rw [← prRow_zero p1 p2 m1 q] at ow10
      rw [← evRow_zero f1 f2 n1 d] at owE
      have hqd : d ≤ n2 → q = cnt f2 d := fun h => by rw [HQ.out, Nat.min_eq_left h]
      have hqm : ∀ k, k ≤ n2 → k ≤ d → cnt f2 k ≤ q := fun k hk hd => by rw [HQ.out]; exact cnt_mono f2 _ _ (by omega)
      have HqD : Hid (d ≤ n2 → q = cnt f2 d) := hqd
      have HqM : Hid (∀ k, k ≤ n2 → k ≤ d → cnt f2 k ≤ q) := hqm
      clear hqd hqm hge0 hgp0 hge hW7 hW8 hW9 hB8 hB9 y0 y1 y2 y3 y4 y5
      go_loopw [7, 8, 9, 10] (fun v7 v8 v9 v10 wr => ∃ k : Nat, k ≤ n2 ∧ v10 = .int .i64 k ∧ v9 = .int .i64 (cnt f2 k) ∧ v7 = .slice (some ⟨ge, 0, none⟩) (n1 + (k - d)) (n1 + n2) ∧ v8 = .slice (some ⟨gp, 0, none⟩) (m1 + (cnt f2 k - q)) (m1 + m2)
          ∧ wr.ownsRow 0 36 3 (.slice (some ⟨ge, 0, none⟩) (n1 + (k - d)) (n1 + n2)) (n1 + (k - d)) (evRow f1 f2 n1 d k) ∧ wr.ownsRow 0 37 1 (.slice (some ⟨gp, 0, none⟩) (m1 + (cnt f2 k - q)) (m1 + m2)) (m1 + (cnt f2 k - q)) (prRow p1 p2 m1 q (cnt f2 k)) ∧ Below wc.heap.size wc wr) (fun _ _ _ i _ => n2 - (intOf i).toNat)
      case atStart =>
        refine ⟨0, Nat.zero_le _, rfl, rfl, ?_, ?_, ?_, ?_, hW10⟩
        · simp
        · simp [cnt]
        · simpa using owE
        · simpa [cnt] using ow10
      case round =>
        obtain ⟨k, hk, rfl, rfl, rfl, rfl, oE, oP, hW⟩ := hrel
        clear owE ow10 hW10 hB10
        obtain ⟨⟨hBr, hzr⟩, y0, y1, y2, y3, y4, y5⟩ := hSc.step hW
        have hck := cnt_le f2 k
        have hza : w.heap.size < wr.heap.size := by omega
        have hzb : w.heap.size + 1 < wr.heap.size := by omega
        by_cases hlt : k < n2
        · obtain ⟨b, off, rfl, hbl, hE⟩ := E2 k hlt
          obtain ⟨v0, v1, v2⟩ := hE.below hbl hBr k hlt
          have hbr : b < wr.heap.size := Nat.lt_of_lt_of_le hbl hBr.size
          by_cases hp : d ≤ k
          · have hpast : B1 + n1 ≤ B2 + k := by have := HD.out; omega
            by_cases hs : ((f2 k).kd == 0) = true
            · have hcn := cnt_hit f2 k hs
              have hq1 : q ≤ cnt f2 k := by rw [HqD.out (by omega)]; exact cnt_mono f2 _ _ hp
              have hmk : cnt f2 k < m2 := by have := cnt_mono f2 (k + 1) n2 (by omega); have := HM.out; omega
              have H1 : Hid (evRow f1 f2 n1 d (k + 1) = evRow f1 f2 n1 d k ++ [.int .u8 (f2 k).kd, .int .i64 (f2 k).nd, .int .i64 (f2 k).st]) := evRow_past f1 f2 n1 d k hp
              have H2 : Hid (prRow p1 p2 m1 q (cnt f2 k + 1) = prRow p1 p2 m1 q (cnt f2 k) ++ [.int .u32 (p2 (cnt f2 k))]) := prRow_past p1 p2 m1 q (cnt f2 k) hq1
              have H3 : Hid (cnt f2 (k + 1) = cnt f2 k + 1) := hcn
              obtain ⟨b', off', rfl, hbl', hP⟩ := P2 (cnt f2 k) hmk
              clear hcn
              go_wp2_with (at_builtin; refine wpList_append_fits _ rfl _ _ 22 rfl 0 36 i36 3 Try.underlying22 hi hx1 ge (n1 + (k - d)) (n1 + n2) (evRow f1 f2 n1 d k) rfl ((oE.alloc _).alloc _) ⟨wr.heap.size + 1, 0, none⟩ 1 1 [.int .u8 (f2 k).kd, .int .i64 (f2 k).nd, .int .i64 (f2 k).st] rfl rfl ?c1 ?c2 (by omega) ?_)
              case c1 => have := World.news_of_block (heap_alloc_new (wr.alloc (.cells #[.int .u8 (f2 k).kd, .int .i64 (f2 k).nd, .int .i64 (f2 k).st] 36)) (.cells #[.int .u8 (f2 k).kd, .int .i64 (f2 k).nd, .int .i64 (f2 k).st] 36)); simpa using this
              case c2 => intro u hu; simp at hu; rcases hu with rfl | rfl | rfl <;> rfl
              intro w11 oE1 gr1
              have hW11 : Below wc.heap.size wc w11 := grown_bel (bel2 hW (Nat.le_trans hW.size (Nat.le_refl _)) _ _) gr1 (by have := hW.size; simp; omega) (by intro k' hk'; have := Option.some.inj hk'; omega)
              have hgw : ge < wr.heap.size := (oE.lt ge rfl).2
              have hgw2 : gp < wr.heap.size := (oP.lt gp rfl).2
              have kc : w11.cell? ⟨wr.heap.size, 0, none⟩ = some (.int .u8 (f2 k).kd) := gr1.cell (by go_simp) (fun e => by have := Option.some.inj e; simp only [] at this; omega)
              have oP1 := ((oP.alloc (.cells #[.int .u8 (f2 k).kd, .int .i64 (f2 k).nd, .int .i64 (f2 k).st] 36)).alloc (.cells #[.int .u8 (f2 k).kd, .int .i64 (f2 k).nd, .int .i64 (f2 k).st] 36)).kept gr1 (Or.inr (fun e => by have := Option.some.inj e; simp only [] at this; omega))
              clear y0 y1 y2 y3 y4 y5 gr1 v0 v1 v2
              obtain ⟨⟨hB11, hz11⟩, y0, y1, y2, y3, y4, y5⟩ := hSc.step hW11
              have pc := hP.below hbl' hB11 _ hmk
              have hlb' : b' < w11.heap.size := Nat.lt_of_lt_of_le hbl' hB11.size
              go_wp2_with (at_builtin; refine wpList_append_fits _ rfl _ _ 23 rfl 0 37 i37 1 Try.underlying23 hj hy1 gp (m1 + (cnt f2 k - q)) (m1 + m2) (prRow p1 p2 m1 q (cnt f2 k)) rfl (oP1.alloc _) ⟨w11.heap.size, 0, none⟩ 1 1 [.int .u32 (p2 (cnt f2 k))] rfl rfl ?c3 ?c4 (by omega) ?_)
              case c3 => exact World.news_of_block (heap_alloc_new w11 (.cells #[.int .u32 (p2 (cnt f2 k))] 37))
              case c4 => intro u hu; simp at hu; subst hu; rfl
              intro w12 oP2 gr2
              have hW12 : Below wc.heap.size wc w12 := grown_bel (bel1 hW11 hW11.size _) gr2 (by have := hW11.size; simp; omega) (by intro k' hk'; have := Option.some.inj hk'; omega)
              have oE2 := (oE1.alloc (.cells #[.int .u32 (p2 (cnt f2 k))] 37)).kept gr2 (Or.inr (fun e => by have := Option.some.inj e; simp only [] at this; omega))
              clear gr2
              go_wp2
              go_roundw
              case rel =>
                refine ⟨k + 1, by omega, by go_num, by rw [H3.out]; go_num, ?_, ?_, ?_, ?_, hW12⟩
                · rw [show n1 + (k + 1 - d) = n1 + (k - d) + 1 by omega]
                · rw [H3.out, show m1 + (cnt f2 k + 1 - q) = m1 + (cnt f2 k - q) + 1 by omega]
                · rw [show n1 + (k + 1 - d) = n1 + (k - d) + 1 by omega, H1.out]; exact oE2
                · rw [H3.out, show m1 + (cnt f2 k + 1 - q) = m1 + (cnt f2 k - q) + 1 by omega, H2.out]; exact oP2
              case measure => simp [intOf]; omega
            · have hs' : ((f2 k).kd == 0) = false := by simpa using hs
              have hcn := cnt_miss f2 k hs'
              have H1 : Hid (evRow f1 f2 n1 d (k + 1) = evRow f1 f2 n1 d k ++ [.int .u8 (f2 k).kd, .int .i64 (f2 k).nd, .int .i64 (f2 k).st]) := evRow_past f1 f2 n1 d k hp
              have H3 : Hid (cnt f2 (k + 1) = cnt f2 k) := hcn
              clear hcn hs
              go_wp2_with (at_builtin; refine wpList_append_fits _ rfl _ _ 22 rfl 0 36 i36 3 Try.underlying22 hi hx1 ge (n1 + (k - d)) (n1 + n2) (evRow f1 f2 n1 d k) rfl ((oE.alloc _).alloc _) ⟨wr.heap.size + 1, 0, none⟩ 1 1 [.int .u8 (f2 k).kd, .int .i64 (f2 k).nd, .int .i64 (f2 k).st] rfl rfl ?c5 ?c6 (by omega) ?_)
              case c5 => have := World.news_of_block (heap_alloc_new (wr.alloc (.cells #[.int .u8 (f2 k).kd, .int .i64 (f2 k).nd, .int .i64 (f2 k).st] 36)) (.cells #[.int .u8 (f2 k).kd, .int .i64 (f2 k).nd, .int .i64 (f2 k).st] 36)); simpa using this
              case c6 => intro u hu; simp at hu; rcases hu with rfl | rfl | rfl <;> rfl
              intro w11 oE1 gr1
              have hW11 : Below wc.heap.size wc w11 := grown_bel (bel2 hW (Nat.le_trans hW.size (Nat.le_refl _)) _ _) gr1 (by have := hW.size; simp; omega) (by intro k' hk'; have := Option.some.inj hk'; omega)
              have hgw : ge < wr.heap.size := (oE.lt ge rfl).2
              have hgw2 : gp < wr.heap.size := (oP.lt gp rfl).2
              have kc : w11.cell? ⟨wr.heap.size, 0, none⟩ = some (.int .u8 (f2 k).kd) := gr1.cell (by go_simp) (fun e => by have := Option.some.inj e; simp only [] at this; omega)
              have oP1 := ((oP.alloc (.cells #[.int .u8 (f2 k).kd, .int .i64 (f2 k).nd, .int .i64 (f2 k).st] 36)).alloc (.cells #[.int .u8 (f2 k).kd, .int .i64 (f2 k).nd, .int .i64 (f2 k).st] 36)).kept gr1 (Or.inr (fun e => by have := Option.some.inj e; simp only [] at this; omega))
              clear y0 y1 y2 y3 y4 y5 gr1 v0 v1 v2
              obtain ⟨⟨hB11, hz11⟩, y0, y1, y2, y3, y4, y5⟩ := hSc.step hW11
              go_wp2
              go_roundw
              case rel =>
                refine ⟨k + 1, by omega, by go_num, by rw [H3.out], ?_, ?_, ?_, ?_, hW11⟩
                · rw [show n1 + (k + 1 - d) = n1 + (k - d) + 1 by omega]
                · rw [H3.out]
                · rw [show n1 + (k + 1 - d) = n1 + (k - d) + 1 by omega, H1.out]; exact oE1
                · rw [H3.out]; exact oP1
              case measure => simp [intOf]; omega
          · have hpast : B2 + k < B1 + n1 := by have := HD.out; omega
            by_cases hs : ((f2 k).kd == 0) = true
            · have hcn := cnt_hit f2 k hs
              have hq1 := HqM.out (k + 1) (by omega) (by omega)
              have hq2 := HqM.out k (by omega) (by omega)
              have R1 := evRow_not f1 f2 n1 d k (by omega)
              have R2 := prRow_not p1 p2 m1 q (cnt f2 k) (cnt f2 (k + 1)) hq2 hq1
              have H1 : Hid (evRow f1 f2 n1 d (k + 1) = evRow f1 f2 n1 d k) := R1
              have H2 : Hid (prRow p1 p2 m1 q (cnt f2 (k + 1)) = prRow p1 p2 m1 q (cnt f2 k)) := R2
              have H3 : Hid (cnt f2 (k + 1) = cnt f2 k + 1) := hcn
              clear R1 R2 hcn
              go_wp2
              go_roundw
              case rel =>
                refine ⟨k + 1, by omega, by go_num, by rw [H3.out]; go_num, ?_, ?_, ?_, ?_, hW.alloc (by have := hW.size; omega) _⟩
                · rw [show k + 1 - d = k - d by omega]
                · rw [show cnt f2 (k + 1) - q = cnt f2 k - q by omega]
                · rw [show k + 1 - d = k - d by omega, H1.out]; exact oE.alloc _
                · rw [show cnt f2 (k + 1) - q = cnt f2 k - q by omega, H2.out]; exact oP.alloc _
              case measure => simp [intOf]; omega
            · have hs' : ((f2 k).kd == 0) = false := by simpa using hs
              have hcn := cnt_miss f2 k hs'
              have H1 : Hid (evRow f1 f2 n1 d (k + 1) = evRow f1 f2 n1 d k) := evRow_not f1 f2 n1 d k (by omega)
              have H3 : Hid (cnt f2 (k + 1) = cnt f2 k) := hcn
              clear hcn hs
              go_wp2
              go_roundw
              case rel =>
                refine ⟨k + 1, by omega, by go_num, by rw [H3.out], ?_, ?_, ?_, ?_, hW.alloc (by have := hW.size; omega) _⟩
                · rw [show k + 1 - d = k - d by omega]
                · rw [H3.out]
                · rw [show k + 1 - d = k - d by omega, H1.out]; exact oE.alloc _
                · rw [H3.out]; exact oP.alloc _
              case measure => simp [intOf]; omega
        · have hkn : k = n2 := by omega
          have hmm := HM.out
          subst hkn
          subst hmm
          have LV := hL.step hW
          obtain ⟨hgv, g1, e1, g2, e2, q0, q1, q2, hEv, hCa, l1, l2⟩ := LV
          have hlE : ge < wr.heap.size := (oE.lt ge rfl).2
          have hlP : gp < wr.heap.size := (oP.lt gp rfl).2
          have hEw : EvAt wr ge 0 (n1 + (k - d)) (cat n1 f1 (fun j => f2 (d + j))) := by
            unfold evRow at oE
            rw [row_catE] at oE
            exact EvAt.of_owns36 oE
          have hPw : PrAt wr gp 0 (m1 + (cnt f2 k - q)) (cat m1 p1 (fun j => p2 (q + j))) := by
            unfold prRow at oP
            rw [row_catP] at oP
            exact PrAt.of_owns oP
          clear oE oP hL
          go_wp2_with (go_at_call 11; refine (sameLog_any B1 g1 (n1 + (k - d)) e1 g2 (m1 + (cnt f2 k - q)) e2 ge (n1 + k) gp (m1 + cnt f2 k) _ _ _ (by omega) (by omega) hEv hCa hEw hPw l1 l2 hlE hlP).mono ?_; rintro e w' ⟨rfl, hbf⟩)
          go_ret
          exact ⟨rfl, hBr.trans (hbf.mono hBr.size)⟩
end Go.Proofs.Qxb6612199a.LogP
