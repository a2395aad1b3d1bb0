import Derived.Test.Qxb6612235aDown
namespace Go.Proofs.Qxb6612235a
open Go.RowKit Go.Maps HP
theorem cell_lt {w : World} {b o : Nat} {v : Value} (h : w.cell? ⟨b, o, none⟩ = some v) : b < w.heap.size := by
  rcases Nat.lt_or_ge b w.heap.size with h' | h'
  · exact h'
  · have : w.heap[b]? = none := by simp [h']
    simp [World.cell?, this] at h
theorem heap_alloc_old (w : World) (o : Obj) {k : Nat} (h : k < w.heap.size) : (w.alloc o).heap[k]? = w.heap[k]? := Below.heap_alloc w o k h
theorem Kp.alloc {w w' : World} {b m g : Nat} (h : Kp w w' b m g) (o : Obj) : Kp w (w'.alloc o) b m g :=
  h.trans ⟨rfl, rfl, rfl, by simp, fun k hk _ _ _ => heap_alloc_old _ _ hk⟩
theorem Row.lt {w : World} {g cap n : Nat} {f : Nat → E} (h : Row w g cap n f) : g < w.heap.size := by
  obtain ⟨cur, hg, _⟩ := h
  rcases Nat.lt_or_ge g w.heap.size with h' | h'
  · exact h'
  · have : w.heap[g]? = none := by simp [h']
    rw [this] at hg; cases hg
theorem Row.cut {w : World} {g cap n : Nat} {f : Nat → E} (h : Row w g cap (n + 1) f) : Row w g cap n f := by
  obtain ⟨cur, hg, h1, h2, h3, hc⟩ := h
  exact ⟨cur, hg, by omega, h2, h3, fun k hk => hc k (by omega)⟩
theorem Exact.cut {D : DataW Unit} {f : Nat → E} {n : Nat} (h : Exact D f (n + 1)) (ht : Maps.Tidy D) : Exact (D.del (.int .u32 (f n).id)) f n := by
  have hinj := h.inj
  obtain ⟨h1, h2, h3⟩ := h
  have hne : ∀ k, k < n → Lit.int .u32 (f k).id ≠ Lit.int .u32 (f n).id := fun k hk e => by
    have := hinj k n (by omega) (by omega) (by simpa using e)
    omega
  refine ⟨?_, fun k hk => ⟨?_, fun z => ?_⟩, fun a ha => ?_⟩
  · have := Maps.size_del (k := .int .u32 (f n).id) ht
    rw [(h2 n (by omega)).1] at this
    simp at this; omega
  · rw [Maps.has_del_other (hne k hk)]; exact (h2 k (by omega)).1
  · rw [Maps.atKey_del_other (hne k hk)]; exact (h2 k (by omega)).2 z
  · by_cases e : a = (f n).id
    · subst e; rw [Maps.has_del_same] at ha; cases ha
    · rw [Maps.has_del_other (by simpa using e)] at ha
      obtain ⟨k, hk, e'⟩ := h3 a ha
      refine ⟨k, ?_, e'⟩
      rcases Nat.lt_or_ge k n with h | h
      · exact h
      · obtain rfl : k = n := by omega
        exact absurd e'.symm e

set_option maxHeartbeats 4000000 in
theorem pop_walk {w : World} {b0 b m g cap n : Nat} {f : Nat → E} (h : Qu w b0 b m g cap (n + 1) f) :
    Calls Try.prog 40 #[.pointer (some ⟨b, 14, none⟩)] w fun e w' => e = .returned (.iface 60 (.agg #[.int .u32 (f n).id, .int .i64 (f n).ttl, .int .i64 (f n).dl])) ∧ Qu w' b0 b m g cap n f ∧ Kp w w' b m g := by
  have n4 := h.n4
  have c0 := h.cE
  have hbl := cell_lt c0
  have hgl := h.row.lt
  obtain ⟨hn1, hcap⟩ : n + 1 ≤ cap ∧ cap ≤ maxLen := by
    obtain ⟨cur, hg, h1, h2, _⟩ := h.row
    exact ⟨h1, h2⟩
  obtain ⟨i0, i1, i2⟩ := h.row.cells (Nat.lt_succ_self n)
  go_enter Try.func40, Try.ntmps40
  go_upto_region 3 with fail
  obtain ⟨W1, hW1⟩ : ∃ W1 : World, W1 = w.alloc (.cells #[.int .u32 (f n).id, .int .i64 (f n).ttl, .int .i64 (f n).dl] 60) := ⟨_, rfl⟩
  rw [← hW1]
  obtain ⟨D, hD, hX⟩ := h.map
  have hml := hD.lt
  have b1 : W1.heap[b]? = w.heap[b]? := by rw [hW1]; exact heap_alloc_old _ _ hbl
  have g1 : W1.heap[g]? = w.heap[g]? := by rw [hW1]; exact heap_alloc_old _ _ hgl
  have hD1 : W1.ownsMap Try.prog 45 (plainElem Try.prog 3) m (n + 1) D := by rw [hW1]; exact hD.alloc _
  have K1 : Kp w W1 b m g := by rw [hW1]; exact (Kp.refl _ _ _ _).alloc _
  have x0 : W1.cell? ⟨w.heap.size, 0, none⟩ = some (.int .u32 (f n).id) := by rw [hW1]; go_simp
  have x1 : W1.cell? ⟨w.heap.size, 1, none⟩ = some (.int .i64 (f n).ttl) := by rw [hW1]; go_simp
  have x2 : W1.cell? ⟨w.heap.size, 2, none⟩ = some (.int .i64 (f n).dl) := by rw [hW1]; go_simp
  clear hW1 i0 i1 i2 c0
  have c0 := (cell_kept b1 14).trans h.cE
  have fE := (frozen_kept b1 14).trans h.fE
  go_upto_region 4 with fail
  obtain ⟨W2, hW2⟩ : ∃ W2 : World, W2 = W1.setCell ⟨b, 14, none⟩ (.slice (some ⟨g, 0, none⟩) n cap) := ⟨_, rfl⟩
  rw [← hW2]
  have hbm := h.bm
  have hbg := h.bg
  have g2 : W2.heap[g]? = w.heap[g]? := by rw [hW2, heap_setCell_other _ _ _ _ (Ne.symm hbg)]; exact g1
  have z2 : W2.heap[w.heap.size]? = W1.heap[w.heap.size]? := by rw [hW2, heap_setCell_other _ _ _ _ (by show w.heap.size ≠ b; omega)]
  have hD2 : W2.ownsMap Try.prog 45 (plainElem Try.prog 3) m (n + 1) D := by rw [hW2]; exact hD1.setCell (Ne.symm hbm) _
  have K2 : Kp w W2 b m g := by rw [hW2]; exact K1.setCell (.inl rfl) _
  have y0 : W2.cell? ⟨b, 14, none⟩ = some (.slice (some ⟨g, 0, none⟩) n cap) := by rw [hW2]; go_simp
  have y1 : W2.cell? ⟨b, 15, none⟩ = some (.map (some m)) := by rw [hW2]; have c1 := (cell_kept b1 15).trans h.cM; go_simp
  have yf : W2.frozen? ⟨b, 14, none⟩ = false := by rw [hW2]; go_simp
  have x0' : W2.cell? ⟨w.heap.size, 0, none⟩ = some (.int .u32 (f n).id) := (cell_kept z2 0).trans x0
  have x1' : W2.cell? ⟨w.heap.size, 1, none⟩ = some (.int .i64 (f n).ttl) := (cell_kept z2 1).trans x1
  have x2' : W2.cell? ⟨w.heap.size, 2, none⟩ = some (.int .i64 (f n).dl) := (cell_kept z2 2).trans x2
  obtain ⟨W3, r3, o3, t3⟩ := World.ownsMap.drop (w := W2.drew) hD2.drew law45 Try.underlying40 (key := .int .u32 (f n).id) (keyOf_int_mk Try.underlying45 (h.wf n (by omega))) 0
  have b3 : W3.heap[b]? = W2.heap[b]? := turned_block (w := W2.drew) t3 h.bm
  have g3 : W3.heap[g]? = w.heap[g]? := (turned_block (w := W2.drew) t3 (Ne.symm h.mg)).trans g2
  have z3 : W3.heap[w.heap.size]? = W2.heap[w.heap.size]? := turned_block (w := W2.drew) t3 (by omega)
  have v0 : W3.cell? ⟨w.heap.size, 0, none⟩ = some (.int .u32 (f n).id) := (cell_kept z3 0).trans x0'
  have v1 : W3.cell? ⟨w.heap.size, 1, none⟩ = some (.int .i64 (f n).ttl) := (cell_kept z3 1).trans x1'
  have v2 : W3.cell? ⟨w.heap.size, 2, none⟩ = some (.int .i64 (f n).dl) := (cell_kept z3 2).trans x2'
  have hX3 := hX.cut (hD.tidy law45)
  have hQ : Qu W3 b0 b m g cap n f := ⟨(cell_kept b3 14).trans y0, (cell_kept b3 15).trans y1, (frozen_kept b3 14).trans yf, h.row.cut.kept g3, ⟨_, Go.World.ownsMap.tight o3 (Nat.le_of_eq hX3.1), hX3⟩, fun k hk => h.wf k (by omega), h.bm, h.bg, h.mg, h.lb, h.lm, h.lg, by omega⟩
  have hK : Kp w W3 b m g := K2.drew.turned t3
  have y0d : W2.drew.cell? ⟨b, 14, none⟩ = some (.slice (some ⟨g, 0, none⟩) n cap) := y0
  have y1d : W2.drew.cell? ⟨b, 15, none⟩ = some (.map (some m)) := y1
  have x0d : W2.drew.cell? ⟨w.heap.size, 0, none⟩ = some (.int .u32 (f n).id) := x0'
  clear hW2 hD hX hD1 hD2 hX3 o3 t3 b3 g3 z3 K1 K2 b1 g1 g2 z2 x0 x1 x2 c0 fE h
  go_region
  go_wp2
  go_ret
  exact ⟨rfl, hQ, hK⟩
end Go.Proofs.Qxb6612235a
