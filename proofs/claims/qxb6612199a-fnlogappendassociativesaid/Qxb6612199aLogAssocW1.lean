/-
  Walks and words for FnLogAppendAssociative.
-/
import Derived.Test.Qxb6612199aLogWalks5
import Derived.Deep.QuietTactic
import Derived.BigQuiet
import Derived.Deep.DeepCutAuto
namespace Go.Proofs.Qxb6612199a.LogP
open Go.RowKit
set_option linter.unusedVariables false

/-- Two boxed structs of three cells at the call's first two blocks. -/
def S2 (w w' : World) (x0 x1 x2 y0 y1 y2 : Value) : Prop :=
  (Below w.heap.size w w' ∧ w.heap.size + 2 ≤ w'.heap.size) ∧ w'.cell? ⟨w.heap.size, 0, none⟩ = some x0 ∧ w'.cell? ⟨w.heap.size, 1, none⟩ = some x1 ∧ w'.cell? ⟨w.heap.size, 2, none⟩ = some x2 ∧
    w'.cell? ⟨w.heap.size + 1, 0, none⟩ = some y0 ∧ w'.cell? ⟨w.heap.size + 1, 1, none⟩ = some y1 ∧ w'.cell? ⟨w.heap.size + 1, 2, none⟩ = some y2
theorem S2.step {w W W' : World} {x0 x1 x2 y0 y1 y2 : Value} (h : S2 w W x0 x1 x2 y0 y1 y2) (hb : Below W.heap.size W W') : S2 w W' x0 x1 x2 y0 y1 y2 := by
  obtain ⟨⟨hb0, hz⟩, h0, h1, h2, h3, h4, h5⟩ := h
  exact ⟨⟨hb0.trans (hb.mono (by omega)), Nat.le_trans hz hb.size⟩, keepS hb (by simp; omega) h0, keepS hb (by simp; omega) h1, keepS hb (by simp; omega) h2, keepS hb (by simp; omega) h3, keepS hb (by simp; omega) h4, keepS hb (by simp; omega) h5⟩
theorem S2.start (w : World) (x0 x1 x2 y0 y1 y2 : Value) (t : TypeId) : S2 w ((w.alloc (.cells #[x0, x1, x2] t)).alloc (.cells #[y0, y1, y2] t)) x0 x1 x2 y0 y1 y2 :=
  ⟨⟨bel2 (Below.refl _ _) (Nat.le_refl _) _ _, by simp⟩, by go_simp, by go_simp, by go_simp, by go_simp, by go_simp, by go_simp⟩

set_option maxHeartbeats 1000000 in
theorem sameLogs_any (B : Int) (g1 n c1 g2 m c2 h1 c3 h2 c4 : Nat) (f : Nat → E) (p : Nat → Int) (w : World) (hn : n ≤ 4194304) (hm : m ≤ 4194304)
    (e1 : EvAt w g1 0 n f) (e2 : CaAt w g2 0 m p) (e3 : EvAt w h1 0 n f) (e4 : CaAt w h2 0 m p) (l1 : g1 < w.heap.size) (l2 : g2 < w.heap.size) (l3 : h1 < w.heap.size) (l4 : h2 < w.heap.size) :
    Calls Try.prog 14 #[.agg #[.int .i64 B, .slice (some ⟨g1, 0, none⟩) n c1, .slice (some ⟨g2, 0, none⟩) m c2], .agg #[.int .i64 B, .slice (some ⟨h1, 0, none⟩) n c3, .slice (some ⟨h2, 0, none⟩) m c4]] w fun e w' => e = .returned (.bool true) ∧ Below w.heap.size w w' := by
  go_enter Try.func14, Try.ntmps14
  go_wp2
  go_loopw [5] (fun i wr => ∃ k : Nat, k ≤ n ∧ i = .int .i64 k ∧ S2 w wr (.int .i64 B) (.slice (some ⟨g1, 0, none⟩) n c1) (.slice (some ⟨g2, 0, none⟩) m c2) (.int .i64 B) (.slice (some ⟨h1, 0, none⟩) n c3) (.slice (some ⟨h2, 0, none⟩) m c4)) (fun i _ => n - (intOf i).toNat)
  case atStart => exact ⟨0, Nat.zero_le _, rfl, S2.start w _ _ _ _ _ _ _⟩
  case round =>
    obtain ⟨k, hk, rfl, T⟩ := hrel
    obtain ⟨⟨hB, hz⟩, s0, s1, s2, s3, s4, s5⟩ := id T
    by_cases hlt : k < n
    · obtain ⟨v0, v1, v2⟩ := e1.below l1 hB k hlt
      obtain ⟨u0, u1, u2⟩ := e3.below l3 hB k hlt
      simp only [Nat.zero_add] at v0 v1 v2 u0 u1 u2
      have i0 : (0 : Int) ≤ (k : Int) := by omega
      have i1 : (k : Int) < (n : Int) := by omega
      clear e1 e2 e3 e4
      go_wp2
      go_quiet (fail)
      go_wp2
      go_roundw
      case rel => exact ⟨k + 1, by omega, by go_num, T.step (below_drewN (Below.refl _ _) _)⟩
      case measure => simp [intOf]; omega
    · clear e1 e3
      go_wp2
      obtain ⟨wo, hwo⟩ : ∃ wo : World, wo = wr := ⟨_, rfl⟩
      rw [← hwo] at T s0 s1 s2 s3 s4 s5 hB hz ⊢
      clear hwo
      go_loopw [6] (fun i wr => ∃ j : Nat, j ≤ m ∧ i = .int .i64 j ∧ S2 w wr (.int .i64 B) (.slice (some ⟨g1, 0, none⟩) n c1) (.slice (some ⟨g2, 0, none⟩) m c2) (.int .i64 B) (.slice (some ⟨h1, 0, none⟩) n c3) (.slice (some ⟨h2, 0, none⟩) m c4)) (fun i _ => m - (intOf i).toNat)
      case atStart => exact ⟨0, Nat.zero_le _, rfl, T⟩
      case round =>
        obtain ⟨j, hj, rfl, T2⟩ := hrel
        clear s0 s1 s2 s3 s4 s5 hz hB
        obtain ⟨⟨hB, hz⟩, s0, s1, s2, s3, s4, s5⟩ := id T2
        by_cases hlt2 : j < m
        · obtain ⟨v0, v1⟩ := e2.below l2 hB j hlt2
          obtain ⟨u0, u1⟩ := e4.below l4 hB j hlt2
          simp only [Nat.zero_add] at v0 v1 u0 u1
          have i0 : (0 : Int) ≤ (j : Int) := by omega
          have i1 : (j : Int) < (m : Int) := by omega
          clear e2 e4
          go_wp2
          go_quiet (fail)
          go_wp2
          go_roundw
          case rel => exact ⟨j + 1, by omega, by go_num, T2.step (below_drewN (Below.refl _ _) _)⟩
          case measure => simp [intOf]; omega
        · go_wp2
          go_ret
          exact ⟨rfl, hB⟩

set_option maxHeartbeats 400000 in
theorem max_any (a b : Int) (w : World) : Calls Try.prog 13 #[.int .i64 a, .int .i64 b] w fun e w' => e = .returned (.int .i64 (max a b)) ∧ w' = w := by
  by_cases h : b < a
  · go_enter Try.func13, Try.ntmps13
    go_wp2
    go_ret
    exact ⟨by rw [Int.max_eq_left (by omega)]; rfl, rfl⟩
  · go_enter Try.func13, Try.ntmps13
    go_wp2
    go_ret
    exact ⟨by rw [Int.max_eq_right (by omega)]; rfl, rfl⟩

set_option maxHeartbeats 2000000 in
theorem bytes3_any (B : Int) (a1 a2 : Option Addr) (n c1 m c2 : Nat) (B' : Int) (a1' a2' : Option Addr) (n' c1' m' c2' : Nat) (B'' : Int) (a1'' a2'' : Option Addr) (n'' c1'' m'' c2'' : Nat) (w : World) (hn : n ≤ 9223372036854775807) (hm : m ≤ 9223372036854775807) (hn' : n' ≤ 9223372036854775807) (hm' : m' ≤ 9223372036854775807) (hn'' : n'' ≤ 9223372036854775807) (hm'' : m'' ≤ 9223372036854775807) :
    Calls Try.prog 12 #[.agg #[.int .i64 B, .slice a1 n c1, .slice a2 m c2], .agg #[.int .i64 B', .slice a1' n' c1', .slice a2' m' c2'], .agg #[.int .i64 B'', .slice a1'' n'' c1'', .slice a2'' m'' c2'']] w fun e w' =>
      ∃ t : Bool, e = .returned (.bool t) ∧ (t = true → n + m + n' + m' + n'' + m'' ≤ 1048576) ∧ Below w.heap.size w w' := by
  go_enter Try.func12, Try.ntmps12
  go_wp2
  all_goals go_ret
  all_goals first | exact ⟨false, rfl, (fun h => by cases h), bel3 (Below.refl _ _) (Nat.le_refl _) _ _ _⟩ | exact ⟨true, rfl, (fun _ => by omega), bel3 (Below.refl _ _) (Nat.le_refl _) _ _ _⟩

/-- A new variable of type clock.Log, as yet zero. -/
def C6 (W : World) (b : Nat) : Prop := b < W.heap.size ∧ (∃ cur, W.heap[b]? = some (.cells cur 32 (0, 0))) ∧ W.cell? ⟨b, 0, none⟩ = some (.int .i64 0) ∧ W.cell? ⟨b, 1, none⟩ = some (.slice none 0 0) ∧ W.cell? ⟨b, 2, none⟩ = some (.slice none 0 0) ∧
  W.frozen? ⟨b, 0, none⟩ = false ∧ W.frozen? ⟨b, 1, none⟩ = false ∧ W.frozen? ⟨b, 2, none⟩ = false
theorem C6.step {W w' : World} {b : Nat} (h : C6 W b) (hb : Below W.heap.size W w') : C6 w' b := by
  obtain ⟨h0, ⟨cur, hc⟩, h1, h2, h3, h4, h5, h6⟩ := h
  exact ⟨Nat.lt_of_lt_of_le h0 hb.size, ⟨cur, by rw [hb.block b h0]; exact hc⟩, keepS hb h0 h1, keepS hb h0 h2, keepS hb h0 h3, keepF hb h0 h4, keepF hb h0 h5, keepF hb h0 h6⟩
theorem C6.new (W : World) : C6 (W.alloc (.cells #[.int .i64 0, .slice none 0 0, .slice none 0 0] 32)) W.heap.size :=
  ⟨by simp, ⟨_, heap_alloc_new W _⟩, by go_simp, by go_simp, by go_simp, by go_simp, by go_simp, by go_simp⟩
theorem ne_32 {w : World} {e s g b n c : Nat} {xs : List Value} (he : e ≠ 32) (h : w.ownsRow 0 e s (.slice (some ⟨g, 0, none⟩) n c) n xs) (hb : ∃ cur, w.heap[b]? = some (.cells cur 32 (0, 0))) : g ≠ b := by
  rintro rfl
  obtain ⟨cur', hb⟩ := hb
  rcases h.2 with ⟨h0, _⟩ | ⟨_, _, cur, hv, _, hg, _⟩
  · cases h0
  · cases hv
    rw [hg] at hb
    injection hb with hb
    injection hb with _ hb _
    exact he hb

/-- A variable of type clock.Log at block gv that holds a log, its rows readable. -/
def LogV (wc : World) (gv : Nat) (B : Int) (N : Nat) (F : Nat → E) (M : Nat) (P : Nat → Int) : Prop :=
  gv < wc.heap.size ∧ ∃ g1 e1 g2 e2, wc.cell? ⟨gv, 0, none⟩ = some (.int .i64 B) ∧ wc.cell? ⟨gv, 1, none⟩ = some (.slice (some ⟨g1, 0, none⟩) N e1) ∧ wc.cell? ⟨gv, 2, none⟩ = some (.slice (some ⟨g2, 0, none⟩) M e2)
    ∧ EvAt wc g1 0 N F ∧ CaAt wc g2 0 M P ∧ g1 < wc.heap.size ∧ g2 < wc.heap.size
theorem LogV.alloc {w : World} {B : Int} {N M g1 g2 e1 e2 : Nat} {F : Nat → E} {P : Nat → Int} (o1 : w.ownsRow 0 43 3 (.slice (some ⟨g1, 0, none⟩) N e1) N (rowOf (evc F) N)) (o2 : w.ownsRow 0 46 2 (.slice (some ⟨g2, 0, none⟩) M e2) M (rowOf (cac P) M)) :
    LogV (w.alloc (.cells #[.int .i64 B, .slice (some ⟨g1, 0, none⟩) N e1, .slice (some ⟨g2, 0, none⟩) M e2] 32)) w.heap.size B N F M P := by
  have l1 := (o1.lt g1 rfl).2
  have l2 := (o2.lt g2 rfl).2
  exact ⟨by simp, g1, e1, g2, e2, by go_simp, by go_simp, by go_simp, EvAt.of_owns (o1.alloc _), CaAt.of_owns (o2.alloc _), by simp; omega, by simp; omega⟩
theorem LogV.store {w : World} {b : Nat} {B : Int} {N M g1 g2 e1 e2 : Nat} {F : Nat → E} {P : Nat → Int} (hC : C6 w b) (o1 : w.ownsRow 0 43 3 (.slice (some ⟨g1, 0, none⟩) N e1) N (rowOf (evc F) N)) (o2 : w.ownsRow 0 46 2 (.slice (some ⟨g2, 0, none⟩) M e2) M (rowOf (cac P) M)) :
    LogV (((w.setCell ⟨b, 0, none⟩ (.int .i64 B)).setCell ⟨b, 1, none⟩ (.slice (some ⟨g1, 0, none⟩) N e1)).setCell ⟨b, 2, none⟩ (.slice (some ⟨g2, 0, none⟩) M e2)) b B N F M P := by
  obtain ⟨h0, hx, h1, h2, h3, _⟩ := hC
  have hst := st3 w b (.int .i64 B) (.slice (some ⟨g1, 0, none⟩) N e1) (.slice (some ⟨g2, 0, none⟩) M e2) _ _ _ h1 h2 h3
  simp only [] at hst
  obtain ⟨x0, x1, x2, hg, hb⟩ := hst
  have n1 := ne_32 (by decide) o1 hx
  have n2 := ne_32 (by decide) o2 hx
  have o1' := o1.kept hg (Or.inr (fun e => n1 (Option.some.inj e)))
  have o2' := o2.kept hg (Or.inr (fun e => n2 (Option.some.inj e)))
  exact ⟨Nat.lt_of_lt_of_le h0 hg.size, g1, e1, g2, e2, x0, x1, x2, EvAt.of_owns o1', CaAt.of_owns o2', (o1'.lt g1 rfl).2, (o2'.lt g2 rfl).2⟩
theorem LogV.step {w w' : World} {gv : Nat} {B : Int} {N M : Nat} {F : Nat → E} {P : Nat → Int} (h : LogV w gv B N F M P) (hb : Below w.heap.size w w') : LogV w' gv B N F M P := by
  obtain ⟨h0, g1, e1, g2, e2, x0, x1, x2, hE, hC, l1, l2⟩ := h
  exact ⟨Nat.lt_of_lt_of_le h0 hb.size, g1, e1, g2, e2, keepS hb h0 x0, keepS hb h0 x1, keepS hb h0 x2, hE.below l1 hb, hC.below l2 hb, Nat.lt_of_lt_of_le l1 hb.size, Nat.lt_of_lt_of_le l2 hb.size⟩

theorem C6.keepK {W w' : World} {b : Nat} (h : C6 W b) (hs : W.heap.size ≤ w'.heap.size) (hk : w'.heap[b]? = W.heap[b]?) : C6 w' b := by
  obtain ⟨h0, ⟨cur, hc⟩, h1, h2, h3, h4, h5, h6⟩ := h
  exact ⟨Nat.lt_of_lt_of_le h0 hs, ⟨cur, by rw [hk]; exact hc⟩, (World.cell?_of_block hk).trans h1, (World.cell?_of_block hk).trans h2, (World.cell?_of_block hk).trans h3, (World.frozen?_of_block hk).trans h4, (World.frozen?_of_block hk).trans h5, (World.frozen?_of_block hk).trans h6⟩
theorem LogV.congr {w : World} {gv : Nat} {B : Int} {N M N' M' : Nat} {F F' : Nat → E} {P P' : Nat → Int} (h : LogV w gv B N F M P) (hN : N = N') (hM : M = M') (hF : ∀ k, F k = F' k) (hP : ∀ k, P k = P' k) : LogV w gv B N' F' M' P' := by
  have e1 : F = F' := funext hF
  have e2 : P = P' := funext hP
  subst hN hM e1 e2
  exact h

/-- Three boxed structs at the call's first three blocks. -/
def S3 (w w' : World) (x0 x1 x2 y0 y1 y2 z0 z1 z2 : Value) : Prop :=
  (Below w.heap.size w w' ∧ w.heap.size + 3 ≤ w'.heap.size) ∧ w'.cell? ⟨w.heap.size, 0, none⟩ = some x0 ∧ w'.cell? ⟨w.heap.size, 1, none⟩ = some x1 ∧ w'.cell? ⟨w.heap.size, 2, none⟩ = some x2 ∧
    w'.cell? ⟨w.heap.size + 1, 0, none⟩ = some y0 ∧ w'.cell? ⟨w.heap.size + 1, 1, none⟩ = some y1 ∧ w'.cell? ⟨w.heap.size + 1, 2, none⟩ = some y2 ∧
    w'.cell? ⟨w.heap.size + 1 + 1, 0, none⟩ = some z0 ∧ w'.cell? ⟨w.heap.size + 1 + 1, 1, none⟩ = some z1 ∧ w'.cell? ⟨w.heap.size + 1 + 1, 2, none⟩ = some z2
theorem S3.step {w W W' : World} {x0 x1 x2 y0 y1 y2 z0 z1 z2 : Value} (h : S3 w W x0 x1 x2 y0 y1 y2 z0 z1 z2) (hb : Below W.heap.size W W') : S3 w W' x0 x1 x2 y0 y1 y2 z0 z1 z2 := by
  obtain ⟨⟨hb0, hz⟩, h0, h1, h2, h3, h4, h5, h6, h7, h8⟩ := h
  exact ⟨⟨hb0.trans (hb.mono (by omega)), Nat.le_trans hz hb.size⟩, keepS hb (by simp; omega) h0, keepS hb (by simp; omega) h1, keepS hb (by simp; omega) h2, keepS hb (by simp; omega) h3, keepS hb (by simp; omega) h4, keepS hb (by simp; omega) h5, keepS hb (by simp; omega) h6, keepS hb (by simp; omega) h7, keepS hb (by simp; omega) h8⟩
theorem S3.drew {w W : World} {x0 x1 x2 y0 y1 y2 z0 z1 z2 : Value} (h : S3 w W x0 x1 x2 y0 y1 y2 z0 z1 z2) : S3 w W.drew x0 x1 x2 y0 y1 y2 z0 z1 z2 := ⟨⟨h.1.1.drew, h.1.2⟩, h.2⟩
theorem S3.drewN {w W : World} {x0 x1 x2 y0 y1 y2 z0 z1 z2 : Value} (h : S3 w W x0 x1 x2 y0 y1 y2 z0 z1 z2) (n : Nat) : S3 w (W.drewN n) x0 x1 x2 y0 y1 y2 z0 z1 z2 := ⟨⟨below_drewN h.1.1 n, h.1.2⟩, h.2⟩
theorem S3.bel {w W : World} {x0 x1 x2 y0 y1 y2 z0 z1 z2 : Value} (h : S3 w W x0 x1 x2 y0 y1 y2 z0 z1 z2) : Below w.heap.size w W := h.1.1
theorem S3.start (w : World) (x0 x1 x2 y0 y1 y2 z0 z1 z2 : Value) (t : TypeId) : S3 w (((w.alloc (.cells #[x0, x1, x2] t)).alloc (.cells #[y0, y1, y2] t)).alloc (.cells #[z0, z1, z2] t)) x0 x1 x2 y0 y1 y2 z0 z1 z2 :=
  ⟨⟨bel3 (Below.refl _ _) (Nat.le_refl _) _ _ _, by simp⟩, by go_simp, by go_simp, by go_simp, by go_simp, by go_simp, by go_simp, by go_simp, by go_simp, by go_simp⟩

/-- A variable of type clock.Log that holds a log whose two rows have no spare room. -/
def LogF (W : World) (v g1 g2 : Nat) (B : Int) (n : Nat) (f : Nat → E) (m : Nat) (p : Nat → Int) : Prop :=
  v < W.heap.size ∧ W.cell? ⟨v, 0, none⟩ = some (.int .i64 B) ∧ W.cell? ⟨v, 1, none⟩ = some (.slice (some ⟨g1, 0, none⟩) n n) ∧ W.cell? ⟨v, 2, none⟩ = some (.slice (some ⟨g2, 0, none⟩) m m) ∧
    W.ownsRow 0 43 3 (.slice (some ⟨g1, 0, none⟩) n n) n (rowOf (evc f) n) ∧ W.ownsRow 0 46 2 (.slice (some ⟨g2, 0, none⟩) m m) m (rowOf (cac p) m)
theorem LogF.step {W W' : World} {v g1 g2 : Nat} {B : Int} {n : Nat} {f : Nat → E} {m : Nat} {p : Nat → Int} (h : LogF W v g1 g2 B n f m p) (hb : Below W.heap.size W W') : LogF W' v g1 g2 B n f m p := by
  obtain ⟨h0, h1, h2, h3, o1, o2⟩ := h
  exact ⟨Nat.lt_of_lt_of_le h0 hb.size, keepS hb h0 h1, keepS hb h0 h2, keepS hb h0 h3, ownsRow_below o1 hb (o1.lt g1 rfl).2, ownsRow_below o2 hb (o2.lt g2 rfl).2⟩
theorem LogF.new {W : World} {g1 g2 : Nat} {B : Int} {n : Nat} {f : Nat → E} {m : Nat} {p : Nat → Int} (o1 : W.ownsRow 0 43 3 (.slice (some ⟨g1, 0, none⟩) n n) n (rowOf (evc f) n)) (o2 : W.ownsRow 0 46 2 (.slice (some ⟨g2, 0, none⟩) m m) m (rowOf (cac p) m)) :
    LogF (W.alloc (.cells #[.int .i64 B, .slice (some ⟨g1, 0, none⟩) n n, .slice (some ⟨g2, 0, none⟩) m m] 32)) W.heap.size g1 g2 B n f m p :=
  ⟨by simp, by go_simp, by go_simp, by go_simp, o1.alloc _, o2.alloc _⟩

end Go.Proofs.Qxb6612199a.LogP
