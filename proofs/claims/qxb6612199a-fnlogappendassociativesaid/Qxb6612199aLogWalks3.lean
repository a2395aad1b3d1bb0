/-
  The walk of Log.Append.
-/
import Derived.Test.Qxb6612199aLogWalks2
import Derived.Deep.DrawnRows
import Derived.Deep.DeepCutAuto
namespace Go.Proofs.Qxb6612199a.LogP
open Go.RowKit
set_option linter.unusedVariables false
attribute [local go_sem ↓] Go.wp_at_zero Go.wp_at_succ
theorem keepS {B : Nat} {w w' : World} (h : Below B w w') {a : Addr} {v : Value} (hlt : a.block < B) (hc : w.cell? a = some v) : w'.cell? a = some v := (h.cell hlt).trans hc
theorem keepF {B : Nat} {w w' : World} (h : Below B w w') {a : Addr} {v : Bool} (hlt : a.block < B) (hc : w.frozen? a = v) : w'.frozen? a = v := (h.frozen hlt).trans hc
theorem undrew {B : Nat} {w w' : World} (h : Below B w.drew w') : Below B w w' := ⟨h.os, h.tape, h.output, h.size, h.block⟩
/-- Three stores into one block. -/
theorem st3 (w : World) (b : Nat) (x y z : Value) (u0 u1 u2 : Value) (h0 : w.cell? ⟨b, 0, none⟩ = some u0) (h1 : w.cell? ⟨b, 1, none⟩ = some u1) (h2 : w.cell? ⟨b, 2, none⟩ = some u2) :
    let w' := ((w.setCell ⟨b, 0, none⟩ x).setCell ⟨b, 1, none⟩ y).setCell ⟨b, 2, none⟩ z
    w'.cell? ⟨b, 0, none⟩ = some x ∧ w'.cell? ⟨b, 1, none⟩ = some y ∧ w'.cell? ⟨b, 2, none⟩ = some z ∧ w.grownBy w' (some b) ∧ Below b w w' := by
  refine ⟨by go_simp, by go_simp, by go_simp, ?_, ?_⟩
  · exact ⟨rfl, rfl, rfl, by simp [World.setCell], fun k hk hne => by
      have hne' : k ≠ b := fun e => hne (by rw [e])
      rw [Below.heap_setCell _ _ _ _ hne', Below.heap_setCell _ _ _ _ hne', Below.heap_setCell _ _ _ _ hne']⟩
  · exact (((Below.refl b w).setCell (p := ⟨b, 0, none⟩) (Nat.le_refl b) x).setCell (p := ⟨b, 1, none⟩) (Nat.le_refl b) y).setCell (p := ⟨b, 2, none⟩) (Nat.le_refl b) z
theorem st3_cell {w : World} {b : Nat} {x y z : Value} {a : Addr} {v : Value} (hne : a.block ≠ b) (hc : w.cell? a = some v) : (((w.setCell ⟨b, 0, none⟩ x).setCell ⟨b, 1, none⟩ y).setCell ⟨b, 2, none⟩ z).cell? a = some v := by
  have h : ∀ (w : World) (o : Nat) (u : Value), (w.setCell ⟨b, o, none⟩ u).cell? a = w.cell? a := fun w o u => World.cell?_of_block (by rw [Below.heap_setCell _ _ _ _ hne])
  rw [h, h, h]; exact hc
theorem ne_types {w : World} {g g' n c n' c' : Nat} {xs ys : List Value} (h : w.ownsRow 0 43 3 (.slice (some ⟨g, 0, none⟩) n c) n xs) (h' : w.ownsRow 0 46 2 (.slice (some ⟨g', 0, none⟩) n' c') n' ys) : g ≠ g' := by
  rintro rfl
  rcases h.2 with ⟨h0, _⟩ | ⟨_, _, cur, hv, _, hg, _⟩
  · cases h0
  · rcases h'.2 with ⟨h0, _⟩ | ⟨_, _, cur', hv', _, hg', _⟩
    · cases h0
    · cases hv; cases hv'
      rw [hg] at hg'
      cases hg'
theorem ownsRow_below {w w' : World} {B e s g n c : Nat} {xs : List Value} (h : w.ownsRow 0 e s (.slice (some ⟨g, 0, none⟩) n c) n xs) (hb : Below B w w') (hg : g < B) : w'.ownsRow 0 e s (.slice (some ⟨g, 0, none⟩) n c) n xs := by
  refine ⟨h.1, ?_⟩
  rcases h.2 with h0 | ⟨g', cap, cur, hv, hb0, hgg, rest⟩
  · exact Or.inl h0
  · refine Or.inr ⟨g', cap, cur, hv, hb0, ?_, rest⟩
    cases hv
    rw [hb.block g hg]; exact hgg
theorem grown_cell {w w' : World} {row : Option Nat} {g H : Nat} (h : w.grownBy w' row) (hr : ∀ k, row = some k → k = g ∧ H ≤ g) {a : Addr} {v : Value} (hne : a.block ≠ g) (hc : w.cell? a = some v) : w'.cell? a = some v :=
  h.cell hc (fun e => hne (hr _ e.symm).1)
theorem grown_frozen {w w' : World} {row : Option Nat} {g H : Nat} (h : w.grownBy w' row) (hr : ∀ k, row = some k → k = g ∧ H ≤ g) {a : Addr} {v : Bool} (hne : a.block ≠ g) (hlt : a.block < w.heap.size) (hc : w.frozen? a = v) : w'.frozen? a = v :=
  (World.frozen?_of_block (h.block a.block hlt (fun e => hne (hr _ e.symm).1))).trans hc
theorem grown_owns {w w' : World} {row : Option Nat} {g H : Nat} (h : w.grownBy w' row) (hr : ∀ k, row = some k → k = g ∧ H ≤ g) {e s g' n c : Nat} {xs : List Value} (hne : g' ≠ g) (ho : w.ownsRow 0 e s (.slice (some ⟨g', 0, none⟩) n c) n xs) : w'.ownsRow 0 e s (.slice (some ⟨g', 0, none⟩) n c) n xs :=
  ho.kept h (Or.inr (fun e => hne (hr g' (by rw [← e]; rfl)).1))
theorem grown_below {w w' : World} {row : Option Nat} {g H : Nat} (h : w.grownBy w' row) (hr : ∀ k, row = some k → k = g ∧ H ≤ g) (hH : H ≤ w.heap.size) : Below H w w' :=
  (Below.refl _ _).grown h hH (fun k e => by have := hr k e; omega)
theorem tail_cells {w : World} {h2 m2 k2 q : Nat} {p : Nat → Int} (h : CaAt w h2 0 m2 p) (hmk : m2 ≤ k2) : ∀ j u, (rowOf (cac (fun k => p (q + k))) (m2 - q))[j]? = some u → w.cell? ((tailAt h2 k2 q 2).add j) = some u := by
  unfold tailAt
  split
  · rename_i e
    have : m2 - q = 0 := by omega
    rw [this]; intro j u hu; simp [rowOf] at hu
  · have := (h.drop q).cells
    rw [Nat.zero_add] at this
    exact this
theorem tail_block (h2 k2 q s : Nat) : (tailAt h2 k2 q s).block = h2 := by unfold tailAt; split <;> rfl
theorem add_block (a : Addr) (j : Nat) : (a.add j).block = a.block := by unfold Addr.add; split <;> rfl
theorem len_bel (B : Int) (a1 a2 : Option Addr) (n c1 m c2 : Nat) (w : World) (hn : n ≤ 1048576) (hB0 : 0 ≤ B) (hB : B ≤ 1099511627776) :
    Calls Try.prog 20 #[.agg #[.int .i64 B, .slice a1 n c1, .slice a2 m c2]] w fun e w' => e = .returned (.int .i64 (B + n)) ∧ Below w.heap.size w w' :=
  (len_any B a1 a2 n c1 m c2 w hn hB0 hB).mono fun e w' ⟨he, hw⟩ => ⟨he, by rw [hw]; exact bel1 (Below.refl _ _) (Nat.le_refl _) _⟩
set_option maxHeartbeats 400000 in
theorem append_same (B1 B2 : Int) (g1 n1 c1 g2 m1 k1 h1 n2 c2 h2 m2 k2 : Nat) (w : World) (hn1 : n1 ≤ 1048576) (hn2 : n2 ≤ 1048576)
   (hB1 : 0 ≤ B1) (hB1' : B1 ≤ 1099511627776) (hB2 : 0 ≤ B2) (hB2' : B2 ≤ 1099511627776) (hle : B2 + n2 ≤ B1 + n1) :
    Calls Try.prog 10 #[.agg #[.int .i64 B1, .slice (some ⟨g1, 0, none⟩) n1 c1, .slice (some ⟨g2, 0, none⟩) m1 k1], .agg #[.int .i64 B2, .slice (some ⟨h1, 0, none⟩) n2 c2, .slice (some ⟨h2, 0, none⟩) m2 k2]] w fun e w' =>
      e = .returned (.agg #[.int .i64 B1, .slice (some ⟨g1, 0, none⟩) n1 c1, .slice (some ⟨g2, 0, none⟩) m1 k1]) ∧ Below w.heap.size w w' := by
  go_enter Try.func10, Try.ntmps10
  go_wp2
  go_region_held3 (fun w' => w.heap.size + 3 ≤ w'.heap.size ∧ w'.cell? ⟨w.heap.size, 0, none⟩ = some (.int .i64 B1) ∧ w'.cell? ⟨w.heap.size, 1, none⟩ = some (.slice (some ⟨g1, 0, none⟩) n1 c1) ∧ w'.cell? ⟨w.heap.size, 2, none⟩ = some (.slice (some ⟨g2, 0, none⟩) m1 k1)
      ∧ w'.cell? ⟨w.heap.size + 1, 0, none⟩ = some (.int .i64 B2) ∧ w'.cell? ⟨w.heap.size + 1, 1, none⟩ = some (.slice (some ⟨h1, 0, none⟩) n2 c2) ∧ w'.cell? ⟨w.heap.size + 1, 2, none⟩ = some (.slice (some ⟨h2, 0, none⟩) m2 k2))
    (first | go_keep | (go_split_ands; have hz := hbB.size; refine ⟨by (try simp at hz) <;> omega, ?_, ?_, ?_, ?_, ?_, ?_⟩ <;> (refine keepS hbB (by (try simp) <;> omega) ?_; first | assumption | simp_all)) | (go_split_ands; have hz := hbA.size; refine ⟨by (try simp at hz) <;> omega, ?_, ?_, ?_, ?_, ?_, ?_⟩ <;> (refine keepS hbA (by (try simp) <;> omega) ?_; first | assumption | simp_all)))
    ((first | (go_at_call_of 20 (Value.agg #[.int .i64 B2, .slice (some ⟨h1, 0, none⟩) n2 c2, .slice (some ⟨h2, 0, none⟩) m2 k2]); refine (len_bel B2 _ _ n2 c2 m2 k2 _ hn2 hB2 hB2').mono ?_; rintro e w1 ⟨rfl, hbA⟩) | (go_at_call 20; refine (len_bel B1 _ _ n1 c1 m1 k1 _ hn1 hB1 hB1').mono ?_; rintro e w2 ⟨rfl, hbB⟩)))
  have hb := hbA.trans (hbB.mono hbA.size)
  obtain ⟨hc1, hf1⟩ := bcell hb
  have hz := hb.size
  simp at hz hc1 hf1
  clear hbA hbB
  go_wp2
  refine bodyPost_ret (v := .agg #[.int .i64 B1, .slice (some ⟨g1, 0, none⟩) n1 c1, .slice (some ⟨g2, 0, none⟩) m1 k1]) (by simp [results, Try.results10, go_sem, hc1]) rfl ⟨rfl, ?_⟩
  exact ((((bel3 (Below.refl _ _) (Nat.le_refl _) _ _ _).drew.trans (hb.mono (by simp; omega))).setCell (by simp; omega) _).setCell (by simp; omega) _).setCell (by simp; omega) _
set_option maxHeartbeats 4000000 in
theorem append_more (H : Nat) (B1 B2 : Int) (g1 n1 c1 g2 m1 k1 h1 n2 c2 h2 m2 k2 : Nat) (w : World) (hn1 : n1 ≤ 1048576) (hn2 : n2 ≤ 1048576)
   (hB1 : 0 ≤ B1) (hB1' : B1 ≤ 1099511627776) (hB2 : 0 ≤ B2) (hB2' : B2 ≤ 1099511627776) (d q : Nat) (hd : B1 + n1 = B2 + d) (hdn : d < n2) (f2 : Nat → E) (hcm : q + cnt (fun k => f2 (d + k)) (n2 - d) = m2) (hm2 : m2 ≤ 1048576) (hnc : n2 ≤ c2) (hmc : m2 ≤ k2) (f1 : Nat → E) (p1 p2 : Nat → Int) (hm1 : m1 ≤ 1048576) (hn1c : n1 ≤ c1) (hm1c : m1 ≤ k1) (hc1b : c1 ≤ 8388608) (hk1b : k1 ≤ 8388608)
    (ho1 : w.ownsRow 0 43 3 (.slice (some ⟨g1, 0, none⟩) n1 c1) n1 (rowOf (evc f1) n1)) (ho2 : w.ownsRow 0 46 2 (.slice (some ⟨g2, 0, none⟩) m1 k1) m1 (rowOf (cac p1) m1))
    (ht1 : w.ownsRow 0 43 3 (.slice (some ⟨h1, 0, none⟩) n2 c2) n2 (rowOf (evc f2) n2)) (ht2 : w.ownsRow 0 46 2 (.slice (some ⟨h2, 0, none⟩) m2 k2) m2 (rowOf (cac p2) m2))
    (hH : H ≤ w.heap.size) (hfr1 : c1 = n1 ∨ H ≤ g1) (hfr2 : k1 = m1 ∨ H ≤ g2) :
    Calls Try.prog 10 #[.agg #[.int .i64 B1, .slice (some ⟨g1, 0, none⟩) n1 c1, .slice (some ⟨g2, 0, none⟩) m1 k1], .agg #[.int .i64 B2, .slice (some ⟨h1, 0, none⟩) n2 c2, .slice (some ⟨h2, 0, none⟩) m2 k2]] w fun e w' =>
      ∃ g1' c1' g2' c2', e = .returned (.agg #[.int .i64 B1, .slice (some ⟨g1', 0, none⟩) (n1 + (n2 - d)) c1', .slice (some ⟨g2', 0, none⟩) (m1 + (m2 - q)) c2']) ∧
        w'.ownsRow 0 43 3 (.slice (some ⟨g1', 0, none⟩) (n1 + (n2 - d)) c1') (n1 + (n2 - d)) (rowOf (evc f1) n1 ++ rowOf (evc (fun k => f2 (d + k))) (n2 - d)) ∧ c1' ≤ 2 * c1 + n1 + (n2 - d) + 8 ∧ (c1' = n1 + (n2 - d) ∨ H ≤ g1') ∧
        w'.ownsRow 0 46 2 (.slice (some ⟨g2', 0, none⟩) (m1 + (m2 - q)) c2') (m1 + (m2 - q)) (rowOf (cac p1) m1 ++ rowOf (cac (fun k => p2 (q + k))) (m2 - q)) ∧ c2' ≤ 2 * k1 + m1 + (m2 - q) + 8 ∧ (c2' = m1 + (m2 - q) ∨ H ≤ g2') ∧ Below H w w' ∧ (∀ b, b < w.heap.size → b ≠ g1 → b ≠ g2 → w'.heap[b]? = w.heap[b]?) := by
  have hgt : B1 + n1 < B2 + n2 := by omega
  have hev2 := EvAt.of_owns ht1
  have hca2 := CaAt.of_owns ht2
  have hev2' := hev2
  have hh1 : h1 < w.heap.size := (ht1.lt h1 rfl).2
  have hh2 : h2 < w.heap.size := (ht2.lt h2 rfl).2
  have hg1 : g1 < w.heap.size := (ho1.lt g1 rfl).2
  have hg2 : g2 < w.heap.size := (ho2.lt g2 rfl).2
  have n12 : g1 ≠ g2 := ne_types ho1 ho2
  have n1h : g1 ≠ h2 := ne_types ho1 ht2
  have HD : Hid (B1 + n1 = B2 + d) := hd
  have HC : Hid (q + cnt (fun k => f2 (d + k)) (n2 - d) = m2) := hcm
  clear hd hcm
  go_enter Try.func10, Try.ntmps10
  go_wp2
  go_region_held3 (fun w' => w.heap.size + 3 ≤ w'.heap.size ∧ w'.cell? ⟨w.heap.size, 0, none⟩ = some (.int .i64 B1) ∧ w'.cell? ⟨w.heap.size, 1, none⟩ = some (.slice (some ⟨g1, 0, none⟩) n1 c1) ∧ w'.cell? ⟨w.heap.size, 2, none⟩ = some (.slice (some ⟨g2, 0, none⟩) m1 k1)
      ∧ w'.cell? ⟨w.heap.size + 1, 0, none⟩ = some (.int .i64 B2) ∧ w'.cell? ⟨w.heap.size + 1, 1, none⟩ = some (.slice (some ⟨h1, 0, none⟩) n2 c2) ∧ w'.cell? ⟨w.heap.size + 1, 2, none⟩ = some (.slice (some ⟨h2, 0, none⟩) m2 k2))
    (first | go_keep | (go_split_ands; have hz := hbB.size; refine ⟨by (try simp at hz) <;> omega, ?_, ?_, ?_, ?_, ?_, ?_⟩ <;> (refine keepS hbB (by (try simp) <;> omega) ?_; first | assumption | simp_all)) | (go_split_ands; have hz := hbA.size; refine ⟨by (try simp at hz) <;> omega, ?_, ?_, ?_, ?_, ?_, ?_⟩ <;> (refine keepS hbA (by (try simp) <;> omega) ?_; first | assumption | simp_all)))
    ((first | (go_at_call_of 20 (Value.agg #[.int .i64 B2, .slice (some ⟨h1, 0, none⟩) n2 c2, .slice (some ⟨h2, 0, none⟩) m2 k2]); refine (len_bel B2 _ _ n2 c2 m2 k2 _ hn2 hB2 hB2').mono ?_; rintro e w1 ⟨rfl, hbA⟩) | (go_at_call 20; refine (len_bel B1 _ _ n1 c1 m1 k1 _ hn1 hB1 hB1').mono ?_; rintro e w2 ⟨rfl, hbB⟩)))
  have hb := hbA.trans (hbB.mono hbA.size)
  obtain ⟨hc1, hf1⟩ := bcell hb
  have hz := hb.size
  simp at hz hc1 hf1
  clear hbA hbB
  have fz : ∀ j, w2.frozen? ⟨w.heap.size + 1, j, none⟩ = false := fun j => by rw [hf1 _ _ (by omega)]; go_simp
  have s0 : w2.cell? ⟨w.heap.size, 0, none⟩ = some (.int .i64 B1) := by rw [hc1 _ _ (by omega)]; go_simp
  have s1 : w2.cell? ⟨w.heap.size, 1, none⟩ = some (.slice (some ⟨g1, 0, none⟩) n1 c1) := by rw [hc1 _ _ (by omega)]; go_simp
  have s2 : w2.cell? ⟨w.heap.size, 2, none⟩ = some (.slice (some ⟨g2, 0, none⟩) m1 k1) := by rw [hc1 _ _ (by omega)]; go_simp
  have s3 : w2.cell? ⟨w.heap.size + 1, 0, none⟩ = some (.int .i64 B2) := by rw [hc1 _ _ (by omega)]; go_simp
  have s4 : w2.cell? ⟨w.heap.size + 1, 1, none⟩ = some (.slice (some ⟨h1, 0, none⟩) n2 c2) := by rw [hc1 _ _ (by omega)]; go_simp
  have s5 : w2.cell? ⟨w.heap.size + 1, 2, none⟩ = some (.slice (some ⟨h2, 0, none⟩) m2 k2) := by rw [hc1 _ _ (by omega)]; go_simp
  have hev := (hev2.below hh1 (bel3 (Below.refl _ _) (Nat.le_refl _) _ _ _).drew).below (by simp; omega) hb
  have rz : ∀ j, w2.frozen? ⟨w.heap.size + 1 + 1, j, none⟩ = false := fun j => by rw [hf1 _ _ (by omega)]; go_simp
  have r0 : w2.cell? ⟨w.heap.size + 1 + 1, 0, none⟩ = some (.int .i64 0) := by rw [hc1 _ _ (by omega)]; go_simp
  have r1 : w2.cell? ⟨w.heap.size + 1 + 1, 1, none⟩ = some (.slice none 0 0) := by rw [hc1 _ _ (by omega)]; go_simp
  have r2 : w2.cell? ⟨w.heap.size + 1 + 1, 2, none⟩ = some (.slice none 0 0) := by rw [hc1 _ _ (by omega)]; go_simp
  have hb0 : Below w.heap.size w w2 := (bel3 (Below.refl _ _) (Nat.le_refl _) _ _ _).drew.trans (hb.mono (by simp; omega))
  clear hc1 hf1 hb hev2
  go_wp2
  go_cut [] (fun wc => Below w.heap.size w wc ∧ w.heap.size + 3 ≤ wc.heap.size ∧ wc.cell? ⟨w.heap.size, 0, none⟩ = some (.int .i64 B1) ∧ wc.cell? ⟨w.heap.size, 1, none⟩ = some (.slice (some ⟨g1, 0, none⟩) n1 c1) ∧ wc.cell? ⟨w.heap.size, 2, none⟩ = some (.slice (some ⟨g2, 0, none⟩) m1 k1)
      ∧ wc.cell? ⟨w.heap.size + 1, 1, none⟩ = some (.slice (some ⟨h1, d * 3, none⟩) (n2 - d) (c2 - d)) ∧ wc.cell? ⟨w.heap.size + 1, 2, none⟩ = some (.slice (some (tailAt h2 k2 q 2)) (m2 - q) (k2 - q))
      ∧ wc.cell? ⟨w.heap.size + 1 + 1, 0, none⟩ = some (.int .i64 0) ∧ wc.cell? ⟨w.heap.size + 1 + 1, 1, none⟩ = some (.slice none 0 0) ∧ wc.cell? ⟨w.heap.size + 1 + 1, 2, none⟩ = some (.slice none 0 0)
      ∧ wc.frozen? ⟨w.heap.size + 1 + 1, 0, none⟩ = false ∧ wc.frozen? ⟨w.heap.size + 1 + 1, 1, none⟩ = false ∧ wc.frozen? ⟨w.heap.size + 1 + 1, 2, none⟩ = false)
  case first =>
    go_region_with (first
      | (go_at_call 20; refine (len_bel B1 _ _ n1 c1 m1 k1 _ hn1 hB1 hB1').mono ?_; rintro e w3 ⟨rfl, hbC'⟩; have hbC := undrew hbC'; have t0 := keepS hbC (by (try simp) <;> omega) s0; have t1 := keepS hbC (by (try simp) <;> omega) s1; have t2 := keepS hbC (by (try simp) <;> omega) s2; have t3 := keepS hbC (by (try simp) <;> omega) s3; have t4 := keepS hbC (by (try simp) <;> omega) s4; have t5 := keepS hbC (by (try simp) <;> omega) s5)
      | (go_at_call 21; refine (suffix_any B2 h1 h2 n2 c2 m2 k2 d q _ f2 _ hn2 hm2 hnc hmc hB2 hB2' HD.out hdn (by have := hbC.size; omega) (hev.below (by (try simp) <;> omega) hbC) HC.out).mono ?_; rintro e w4 ⟨rfl, hbD⟩; have hb3 : Below (w.heap.size + 3) w2 w4 := (hbC.mono (by (try simp) <;> omega)).trans (hbD.mono (by have := hbC.size; omega)); have u3 := keepS hb3 (by (try simp) <;> omega) s3; have u4 := keepS hb3 (by (try simp) <;> omega) s4; have u5 := keepS hb3 (by (try simp) <;> omega) s5; have v3 := keepF hb3 (by (try simp) <;> omega) (fz 0); have v4 := keepF hb3 (by (try simp) <;> omega) (fz 1); have v5 := keepF hb3 (by (try simp) <;> omega) (fz 2)))
    all_goals
      go_wp2_with fail
      have hst := st3 w4 (w.heap.size + 1) (.int .i64 (B1 + n1)) (.slice (some ⟨h1, d * 3, none⟩) (n2 - d) (c2 - d)) (.slice (some (tailAt h2 k2 q 2)) (m2 - q) (k2 - q)) _ _ _ u3 u4 u5
      simp only [] at hst
      obtain ⟨x3, x4, x5, hg5, hb5⟩ := hst
      have hr5 : ∀ k, some (w.heap.size + 1) = some k → k = w.heap.size + 1 ∧ 0 ≤ w.heap.size + 1 := fun k e => ⟨(Option.some.inj e).symm, Nat.zero_le _⟩
      have y0 := grown_cell hg5 hr5 (by simp) (keepS hb3 (by (try simp) <;> omega) s0)
      have y1 := grown_cell hg5 hr5 (by simp) (keepS hb3 (by (try simp) <;> omega) s1)
      have y2 := grown_cell hg5 hr5 (by simp) (keepS hb3 (by (try simp) <;> omega) s2)
      have q0 := grown_cell hg5 hr5 (by simp) (keepS hb3 (by (try simp) <;> omega) r0)
      have q1 := grown_cell hg5 hr5 (by simp) (keepS hb3 (by (try simp) <;> omega) r1)
      have q2 := grown_cell hg5 hr5 (by simp) (keepS hb3 (by (try simp) <;> omega) r2)
      have hz5 := Nat.le_trans (Nat.le_trans hz hb3.size) hb5.size
      have hz4 : w.heap.size + 3 ≤ w4.heap.size := Nat.le_trans hz hb3.size
      have qf0 := grown_frozen hg5 hr5 (by simp) (by (try simp) <;> omega) (keepF hb3 (by (try simp) <;> omega) (rz 0))
      have qf1 := grown_frozen hg5 hr5 (by simp) (by (try simp) <;> omega) (keepF hb3 (by (try simp) <;> omega) (rz 1))
      have qf2 := grown_frozen hg5 hr5 (by simp) (by (try simp) <;> omega) (keepF hb3 (by (try simp) <;> omega) (rz 2))
      have hB5 := (hb0.trans (hb3.mono (by omega))).trans (hb5.mono (by omega))
      go_meet
      case rel => exact ⟨hB5, hz5, y0, y1, y2, x4, x5, q0, q1, q2, qf0, qf1, qf2⟩
  case rest =>
    obtain ⟨hB5, hz5, y0, y1, y2, x4, x5, q0, q1, q2, qf0, qf1, qf2⟩ := hcut
    have o1 := (ownsRow_below ho1 hB5 hg1).drew
    have o2 := (ownsRow_below ho2 hB5 hg2).drew
    have nE := ((hev2'.drop d).below hh1 hB5).cells
    have nC := tail_cells (q := q) (hca2.below hh2 hB5) hmc
    rw [Nat.zero_add] at nE
    clear s0 s1 s2 s3 s4 s5 fz rz r0 r1 r2 hev hb0
    go_wp2
    go_region_held3 (fun w' => w'.cell? ⟨w.heap.size, 0, none⟩ = some (.int .i64 B1) ∧ w'.cell? ⟨w.heap.size, 1, none⟩ = some (.slice (some ⟨g1, 0, none⟩) n1 c1) ∧ w'.cell? ⟨w.heap.size, 2, none⟩ = some (.slice (some ⟨g2, 0, none⟩) m1 k1)
        ∧ w'.cell? ⟨w.heap.size + 1, 1, none⟩ = some (.slice (some ⟨h1, d * 3, none⟩) (n2 - d) (c2 - d)) ∧ w'.cell? ⟨w.heap.size + 1, 2, none⟩ = some (.slice (some (tailAt h2 k2 q 2)) (m2 - q) (k2 - q)))
      (first | exact ⟨y0, y1, y2, x4, x5⟩ | (go_split_ands; refine ⟨?_, ?_, ?_, ?_, ?_⟩ <;> (refine grown_cell hgrC hrC (by (try simp) <;> omega) ?_; assumption)) | (go_split_ands; refine ⟨?_, ?_, ?_, ?_, ?_⟩ <;> (refine grown_cell hgrE hrE (by (try simp) <;> omega) ?_; assumption)) | (go_split_ands; refine ⟨?_, ?_, ?_, ?_, ?_⟩ <;> (refine st3_cell (by (try simp) <;> omega) ?_; assumption)))
      ((first
        | (go_at_call 22; refine (growE H g1 n1 c1 (n2 - d) (c2 - d) ⟨h1, d * 3, none⟩ _ _ _ hn1 (by omega) hc1b hn1c o1 (ev_one _ _) (rowOf_length _ 3 (evc_length _) _) nE (ev_one _ _) (by show h1 < _; (try simp) <;> omega) hfr1 (by (try simp) <;> omega)).mono ?_; rintro e w6 ⟨g1', c1', rowE, rfl, hoE, hcE, hfE, hgE, hgrE, hrE⟩)
        | (go_at_call 23; refine (growC H g2 m1 k1 (m2 - q) (k2 - q) (tailAt h2 k2 q 2) _ _ _ hm1 (by omega) hk1b hm1c (grown_owns hgrE hrE (Ne.symm n12) o2) (ca_one _ _) (rowOf_length _ 2 (cac_length _) _) (fun j u hu => grown_cell hgrE hrE (by rw [add_block, tail_block]; exact Ne.symm n1h) (nC j u hu)) (ca_one _ _) (by rw [tail_block]; have := hgrE.size; (try simp at this) <;> omega) hfr2 (by have := hgrE.size; (try simp at this) <;> omega)).mono ?_; rintro e w7 ⟨g2', c2', rowC, rfl, hoC, hcC, hfC, hgC, hgrC, hrC⟩; have hz6 : w.heap.size + 3 ≤ w6.heap.size := Nat.le_trans hz5 hgrE.size; have z0 := grown_cell hgrC hrC (by (try simp) <;> omega) (grown_cell hgrE hrE (by (try simp) <;> omega) q0); have z1 := grown_cell hgrC hrC (by (try simp) <;> omega) (grown_cell hgrE hrE (by (try simp) <;> omega) q1); have z2 := grown_cell hgrC hrC (by (try simp) <;> omega) (grown_cell hgrE hrE (by (try simp) <;> omega) q2); have zf0 := grown_frozen hgrC hrC (by (try simp) <;> omega) (by (try simp) <;> omega) (grown_frozen hgrE hrE (by (try simp) <;> omega) (by (try simp) <;> omega) qf0); have zf1 := grown_frozen hgrC hrC (by (try simp) <;> omega) (by (try simp) <;> omega) (grown_frozen hgrE hrE (by (try simp) <;> omega) (by (try simp) <;> omega) qf1); have zf2 := grown_frozen hgrC hrC (by (try simp) <;> omega) (by (try simp) <;> omega) (grown_frozen hgrE hrE (by (try simp) <;> omega) (by (try simp) <;> omega) qf2))))
    have hst := st3 w7 (w.heap.size + 1 + 1) (.int .i64 B1) (.slice (some ⟨g1', 0, none⟩) (n1 + (n2 - d)) c1') (.slice (some ⟨g2', 0, none⟩) (m1 + (m2 - q)) c2') _ _ _ z0 z1 z2
    simp only [] at hst
    obtain ⟨e0, e1, e2, hg8, hb8⟩ := hst
    have n1g : g1' ≠ g2 := ne_types hoE (grown_owns hgrE hrE (Ne.symm n12) o2)
    have hz7 := hgrC.size
    have l1 : g1' ≠ w.heap.size + 1 + 1 := by
      have := hz5
      rcases hgE with h | h
      · omega
      · simp at h; omega
    have l2 : g2' ≠ w.heap.size + 1 + 1 := by
      rcases hgC with h | h <;> omega
    have hoE8 := (grown_owns hgrC hrC n1g hoE).kept hg8 (Or.inr (fun e => l1 (Option.some.inj e)))
    have hoC8 := hoC.kept hg8 (Or.inr (fun e => l2 (Option.some.inj e)))
    have hB8 : Below H w _ := (((hB5.mono hH).trans (undrew (grown_below hgrE hrE (by (try simp) <;> omega)))).trans (grown_below hgrC hrC (by omega))).trans (hb8.mono (by omega))
    have hK8 : ∀ b, b < w.heap.size → b ≠ g1 → b ≠ g2 → ((((w7.setCell ⟨w.heap.size + 1 + 1, 0, none⟩ (.int .i64 B1)).setCell ⟨w.heap.size + 1 + 1, 1, none⟩ (.slice (some ⟨g1', 0, none⟩) (n1 + (n2 - d)) c1')).setCell ⟨w.heap.size + 1 + 1, 2, none⟩ (.slice (some ⟨g2', 0, none⟩) (m1 + (m2 - q)) c2'))).heap[b]? = w.heap[b]? := fun b hb h1 h2 => by
      have e8 := hb8.block b (by omega)
      have e7 := hgrC.block b (by have h9 := hgrE.size; have h10 := hB5.size; simp at h9; omega) (fun e => h2 (hrC b e.symm).1)
      have e6 := hgrE.block b (by have := hB5.size; simp; omega) (fun e => h1 (hrE b e.symm).1)
      have e5 := hB5.block b hb
      exact (e8.trans e7).trans (e6.trans e5)
    clear hg8 hb8 hgrE hgrC hrE hrC hoE hoC o1 o2 nE nC
    go_wp2
    refine bodyPost_ret (v := .agg #[.int .i64 B1, .slice (some ⟨g1', 0, none⟩) (n1 + (n2 - d)) c1', .slice (some ⟨g2', 0, none⟩) (m1 + (m2 - q)) c2']) (by simp [results, Try.results10, go_sem, e0, e1, e2]) rfl ⟨g1', c1', g2', c2', rfl, hoE8, hcE, hfE, hoC8, hcC, hfC, hB8, hK8⟩
end Go.Proofs.Qxb6612199a.LogP
