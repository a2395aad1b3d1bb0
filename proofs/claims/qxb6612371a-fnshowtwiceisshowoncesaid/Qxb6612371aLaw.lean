import Derived.Test.Qxb6612371aHelper
namespace Go.Proofs.Qxb6612371a
open Go.Conc Go.RowKit

def view (hd : Int) (st : Bool) (n : Nat) : Value := .agg #[.int .u64 hd, .int .u64 hd, .bool false, .bool st, .int .i64 n]

/-- A new variable of the view's type. -/
def New5 (w W : World) : Prop :=
  Below w.heap.size w W ∧ w.heap.size < W.heap.size ∧ W.cell? ⟨w.heap.size, 0, none⟩ = some (.int .u64 0) ∧ W.cell? ⟨w.heap.size, 1, none⟩ = some (.int .u64 0) ∧ W.cell? ⟨w.heap.size, 2, none⟩ = some (.bool false) ∧ W.cell? ⟨w.heap.size, 3, none⟩ = some (.bool false) ∧ W.cell? ⟨w.heap.size, 4, none⟩ = some (.int .i64 0) ∧ ∀ i, W.frozen? ⟨w.heap.size, i, none⟩ = false
theorem New5.mk (w : World) : New5 w (w.alloc (.cells #[.int .u64 0, .int .u64 0, .bool false, .bool false, .int .i64 0] 24)) := by
  refine ⟨(Below.refl _ _).alloc (Nat.le_refl _) _, by simp, ?_, ?_, ?_, ?_, ?_, fun i => ?_⟩
  all_goals simp [go_sem]

theorem fits.none {wc wl : Int} {ch : Option Nat} {cap len B : Nat} (h : fits wc wl ch cap len B) : ch = none → cap = 0 ∧ len = 0 := by
  rintro rfl
  obtain ⟨_, hl, h | h⟩ := h
  · exact ⟨h.2.2, by omega⟩
  · cases h.2.1
theorem fits.some {wc wl : Int} {ch : Option Nat} {cap len B : Nat} (h : fits wc wl ch cap len B) : ∀ C, ch = some C → B ≤ C := by
  rintro C rfl
  obtain ⟨_, hl, h | h⟩ := h
  · cases h.2.1
  · have := h.2.1
    simp at this
    omega


set_option maxHeartbeats 2000000 in
theorem once_walk {w : World} (hd sh : Int) (sl st : Bool) {wc wl : Int} {cap len n2 : Nat} (hf : ∀ B, ∃ ch, fits wc wl ch cap len B) (hn : tok sl cap len = n2) :
    Calls Try.prog 4 #[.int .u64 hd, .int .u64 sh, .bool sl, .bool st, .int .i64 wc, .int .i64 wl] w fun e w' => e = .returned (.agg #[.int .u64 hd, .int .u64 hd, .bool false, .bool st, .int .i64 n2]) ∧ Below w.heap.size w w' := by
  have hV := New5.mk w
  go_enter Try.func4, Try.ntmps4
  go_wp2_with fail
  generalize w.alloc (.cells #[.int .u64 0, .int .u64 0, .bool false, .bool false, .int .i64 0] 24) = W at *
  obtain ⟨hWb, hlt, c0, c1, c2, c3, c4, cf⟩ := hV
  obtain ⟨ch, hf1⟩ := hf W.heap.size
  have hn0 : ch = none → n2 = 0 := fun h => by
    obtain ⟨k1, k2⟩ := hf1.none h
    rw [← hn, k1, k2]; simp [tok]
  obtain ⟨B, hB⟩ : ∃ B, W.heap.size = B := ⟨_, rfl⟩
  have hs1 := hf1.some
  rw [hB] at hlt hs1
  clear hf
  go_wp2_with (first
    | (go_at_call 7; refine (helper_walk hd sh sl st hf1).mono ?_; rintro _ w2 ⟨rfl, h2, b2, z2⟩; rw [hB] at h2 z2 b2)
    | (go_at_call 8; refine (show_walk (b0 := B) h2 (Nat.le_refl _) hs1 hn).mono ?_; rintro _ w3 ⟨rfl, h3, b3⟩)
    | (go_at_call 9; refine (of_walk h3 hn0 (Nat.lt_of_lt_of_le z2 (Nat.le_trans b3.size (Nat.le_refl _)))).mono ?_; rintro _ w4 ⟨rfl, b4⟩; have b5 : Below B W w4 := (b2.trans b3).trans (b4.mono (Nat.le_of_lt (Nat.lt_of_lt_of_le z2 (Nat.le_trans b3.size (Nat.le_refl _))))); have e0 := (b5.cell (p := ⟨w.heap.size, 0, none⟩) hlt).trans c0; have e1 := (b5.cell (p := ⟨w.heap.size, 1, none⟩) hlt).trans c1; have e2 := (b5.cell (p := ⟨w.heap.size, 2, none⟩) hlt).trans c2; have e3 := (b5.cell (p := ⟨w.heap.size, 3, none⟩) hlt).trans c3; have e4 := (b5.cell (p := ⟨w.heap.size, 4, none⟩) hlt).trans c4; have f0 := (b5.frozen (p := ⟨w.heap.size, 0, none⟩) hlt).trans (cf 0); have f1 := (b5.frozen (p := ⟨w.heap.size, 1, none⟩) hlt).trans (cf 1); have f2 := (b5.frozen (p := ⟨w.heap.size, 2, none⟩) hlt).trans (cf 2); have f3 := (b5.frozen (p := ⟨w.heap.size, 3, none⟩) hlt).trans (cf 3); have f4 := (b5.frozen (p := ⟨w.heap.size, 4, none⟩) hlt).trans (cf 4)))
  refine bodyPost_ret (v := .agg #[.int .u64 hd, .int .u64 hd, .bool false, .bool st, .int .i64 n2]) (by simp [results, Try.results4, go_sem, e0, e1, e2, e3, e4]) rfl ⟨rfl, ?_⟩
  have b6 : Below w.heap.size w w4 := hWb.trans (b5.mono (Nat.le_of_lt hlt))
  exact (((((b6.setCell (p := ⟨w.heap.size, 0, none⟩) (Nat.le_refl _) _).setCell (p := ⟨w.heap.size, 1, none⟩) (Nat.le_refl _) _).setCell (p := ⟨w.heap.size, 2, none⟩) (Nat.le_refl _) _).setCell (p := ⟨w.heap.size, 3, none⟩) (Nat.le_refl _) _).setCell (p := ⟨w.heap.size, 4, none⟩) (Nat.le_refl _) _)

set_option maxHeartbeats 2000000 in
theorem twice_walk {w : World} (hd sh : Int) (sl st : Bool) {wc wl : Int} {cap len n2 : Nat} (hf : ∀ B, ∃ ch, fits wc wl ch cap len B) (hn : tok sl cap len = n2) :
    Calls Try.prog 5 #[.int .u64 hd, .int .u64 sh, .bool sl, .bool st, .int .i64 wc, .int .i64 wl] w fun e w' => e = .returned (.agg #[.int .u64 hd, .int .u64 hd, .bool false, .bool st, .int .i64 n2]) ∧ Below w.heap.size w w' := by
  have hV := New5.mk w
  go_enter Try.func5, Try.ntmps5
  go_wp2_with fail
  generalize w.alloc (.cells #[.int .u64 0, .int .u64 0, .bool false, .bool false, .int .i64 0] 24) = W at *
  obtain ⟨hWb, hlt, c0, c1, c2, c3, c4, cf⟩ := hV
  obtain ⟨ch, hf1⟩ := hf W.heap.size
  have hn0 : ch = none → n2 = 0 := fun h => by
    obtain ⟨k1, k2⟩ := hf1.none h
    rw [← hn, k1, k2]; simp [tok]
  obtain ⟨B, hB⟩ : ∃ B, W.heap.size = B := ⟨_, rfl⟩
  have hs1 := hf1.some
  rw [hB] at hlt hs1
  clear hf
  go_wp2_with (first
    | (go_at_call 7; refine (helper_walk hd sh sl st hf1).mono ?_; rintro _ w2 ⟨rfl, h2, b2, z2⟩; rw [hB] at h2 z2 b2)
    | (go_at_call 8; refine (show_walk (b0 := B) h2 (Nat.le_refl _) hs1 hn).mono ?_; rintro _ w3 ⟨rfl, h3, b3⟩; clear h2)
    | (go_at_call 8; refine (show_awake (b0 := B) h3 (Nat.le_refl _)).mono ?_; rintro _ w3b ⟨rfl, h3b, b3b⟩)
    | (go_at_call 9; refine (of_walk h3b hn0 (Nat.lt_of_lt_of_le z2 (Nat.le_trans b3.size b3b.size))).mono ?_; rintro _ w4 ⟨rfl, b4⟩; have b5 : Below B W w4 := ((b2.trans b3).trans b3b).trans (b4.mono (Nat.le_of_lt (Nat.lt_of_lt_of_le z2 (Nat.le_trans b3.size b3b.size)))); have e0 := (b5.cell (p := ⟨w.heap.size, 0, none⟩) hlt).trans c0; have e1 := (b5.cell (p := ⟨w.heap.size, 1, none⟩) hlt).trans c1; have e2 := (b5.cell (p := ⟨w.heap.size, 2, none⟩) hlt).trans c2; have e3 := (b5.cell (p := ⟨w.heap.size, 3, none⟩) hlt).trans c3; have e4 := (b5.cell (p := ⟨w.heap.size, 4, none⟩) hlt).trans c4; have f0 := (b5.frozen (p := ⟨w.heap.size, 0, none⟩) hlt).trans (cf 0); have f1 := (b5.frozen (p := ⟨w.heap.size, 1, none⟩) hlt).trans (cf 1); have f2 := (b5.frozen (p := ⟨w.heap.size, 2, none⟩) hlt).trans (cf 2); have f3 := (b5.frozen (p := ⟨w.heap.size, 3, none⟩) hlt).trans (cf 3); have f4 := (b5.frozen (p := ⟨w.heap.size, 4, none⟩) hlt).trans (cf 4)))
  refine bodyPost_ret (v := .agg #[.int .u64 hd, .int .u64 hd, .bool false, .bool st, .int .i64 n2]) (by simp [results, Try.results5, go_sem, e0, e1, e2, e3, e4]) rfl ⟨rfl, ?_⟩
  have b6 : Below w.heap.size w w4 := hWb.trans (b5.mono (Nat.le_of_lt hlt))
  exact (((((b6.setCell (p := ⟨w.heap.size, 0, none⟩) (Nat.le_refl _) _).setCell (p := ⟨w.heap.size, 1, none⟩) (Nat.le_refl _) _).setCell (p := ⟨w.heap.size, 2, none⟩) (Nat.le_refl _) _).setCell (p := ⟨w.heap.size, 3, none⟩) (Nat.le_refl _) _).setCell (p := ⟨w.heap.size, 4, none⟩) (Nat.le_refl _) _)
end Go.Proofs.Qxb6612371a
