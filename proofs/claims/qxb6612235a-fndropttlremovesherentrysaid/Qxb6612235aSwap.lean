import Derived.Test.Qxb6612235aState
namespace Go.Proofs.Qxb6612235a
open Go.RowKit Go.Maps HP

theorem law45 : Keyed Try.prog 45 := int_keyed Try.underlying45
theorem zero3 (w : World) : (zeroValue 3).run Try.prog w = .ok (.int .i64 0) w := by kernel_rfl
theorem wf_nat {n : Nat} (h : n ≤ 100000) : (Lit.int .i64 (n : Int)).wf = true := by
  exact WalkArith.wf_i64 (by omega)

/-- All blocks but these three are kept. -/
structure Kp (w w' : World) (b m g : Nat) : Prop where
  os : w'.os = w.os
  tape : w'.tape = w.tape
  output : w'.output = w.output
  size : w.heap.size ≤ w'.heap.size
  block : ∀ k, k < w.heap.size → k ≠ b → k ≠ m → k ≠ g → w'.heap[k]? = w.heap[k]?
theorem Kp.refl (w : World) (b m g : Nat) : Kp w w b m g := ⟨rfl, rfl, rfl, Nat.le_refl _, fun _ _ _ _ _ => rfl⟩
theorem Kp.trans {w w1 w2 : World} {b m g : Nat} (h : Kp w w1 b m g) (k : Kp w1 w2 b m g) : Kp w w2 b m g :=
  ⟨k.os.trans h.os, k.tape.trans h.tape, k.output.trans h.output, Nat.le_trans h.size k.size, fun i hi a1 a2 a3 => (k.block i (Nat.lt_of_lt_of_le hi h.size) a1 a2 a3).trans (h.block i hi a1 a2 a3)⟩
theorem Kp.drew {w w' : World} {b m g : Nat} (h : Kp w w' b m g) : Kp w w'.drew b m g := ⟨h.os, h.tape, h.output, h.size, h.block⟩
theorem Kp.setCell {w w' : World} {b m g : Nat} (h : Kp w w' b m g) {a : Addr} (ha : a.block = b ∨ a.block = g) (u : Value) : Kp w (w'.setCell a u) b m g :=
  h.trans ⟨rfl, rfl, rfl, by simp, fun k _ h1 _ h3 => heap_setCell_other _ _ _ _ (by rcases ha with e | e <;> rw [e] <;> assumption)⟩
theorem Kp.turned {w w1 w2 : World} {b m g : Nat} (h : Kp w w1 b m g) (t : w1.mapTurned w2 m) : Kp w w2 b m g := by
  have hg := t.grown
  exact h.trans ⟨hg.os, hg.tape, hg.output, hg.size, fun k hk _ h2 _ => hg.block k hk (by simpa using h2)⟩

/-- Three cells of a row are written. -/
theorem Row.put {w : World} {g cap n : Nat} {f : Nat → E} (h : Row w g cap n f) {i : Nat} (hi : i < n) (e : E) :
    Row (((w.setCell ⟨g, i * 3, none⟩ (.int .u32 e.id)).setCell ⟨g, i * 3 + 1, none⟩ (.int .i64 e.ttl)).setCell ⟨g, i * 3 + 2, none⟩ (.int .i64 e.dl)) g cap n (fun k => if k = i then e else f k) := by
  obtain ⟨cur, hg, h1, h2, h3, hc⟩ := h
  have s1 := heap_setCell_same w g (i * 3) cur 60 (.int .u32 e.id) hg
  have s2 := heap_setCell_same _ g (i * 3 + 1) _ 60 (.int .i64 e.ttl) s1
  have s3 := heap_setCell_same _ g (i * 3 + 2) _ 60 (.int .i64 e.dl) s2
  refine ⟨_, s3, h1, h2, by simp [h3], fun k hk => ?_⟩
  obtain ⟨c0, c1, c2⟩ := hc k hk
  have hlt : i * 3 + 2 < cur.size := by omega
  by_cases he : k = i
  · subst he
    simp only [if_true, Array.getElem?_setIfInBounds, Array.size_setIfInBounds]
    refine ⟨?_, ?_, ?_⟩
    · rw [if_neg (by omega), if_neg (by omega), if_pos (by omega)]
    · rw [if_neg (by omega), if_pos (by omega)]
    · rw [if_pos (by omega)]
  · simp only [he, if_false, Array.getElem?_setIfInBounds, Array.size_setIfInBounds]
    refine ⟨?_, ?_, ?_⟩
    · rw [if_neg (by omega), if_neg (by omega), if_neg (by omega)]; exact c0
    · rw [if_neg (by omega), if_neg (by omega), if_neg (by omega)]; exact c1
    · rw [if_neg (by omega), if_neg (by omega), if_neg (by omega)]; exact c2

theorem Row.drew {w : World} {g cap n : Nat} {f : Nat → E} (h : Row w g cap n f) : Row w.drew g cap n f := h
theorem Row.kept {w w' : World} {g cap n : Nat} {f : Nat → E} (h : Row w g cap n f) (e : w'.heap[g]? = w.heap[g]?) : Row w' g cap n f := by
  obtain ⟨cur, hg, r⟩ := h
  exact ⟨cur, e.trans hg, r⟩
theorem Row.congr {w : World} {g cap n : Nat} {f f' : Nat → E} (h : Row w g cap n f) (e : ∀ k, k < n → f' k = f k) : Row w g cap n f' := by
  obtain ⟨cur, hg, h1, h2, h3, hc⟩ := h
  exact ⟨cur, hg, h1, h2, h3, fun k hk => by rw [e k hk]; exact hc k hk⟩

/-- The map of places behind a swap. -/
theorem Exact.sw {D : DataW Unit} {f : Nat → E} {n i j : Nat} (h : Exact D f n) (ht : Maps.Tidy D) (hinj : ∀ k l, k < n → l < n → (f k).id = (f l).id → k = l) (hi : i < n) (hj : j < n) (hij : i ≠ j) :
    Exact ((D.put (.int .u32 (f j).id) (.lit (.int .i64 i))).put (.int .u32 (f i).id) (.lit (.int .i64 j))) (HP.sw f i j) n := by
  obtain ⟨h1, h2, h3⟩ := h
  have hne : ∀ {k l : Nat}, k < n → l < n → k ≠ l → Lit.int .u32 (f k).id ≠ Lit.int .u32 (f l).id := fun hk hl hkl e => hkl (hinj _ _ hk hl (by simpa using e))
  have k1 : ∀ a, WideAt.IsKeyLit (.int .u32 a) := fun a => trivial
  have t1 := ht.put (k1 (f j).id) (.lit (.int .i64 i))
  refine ⟨?_, fun k hk => ?_, fun a ha => ?_⟩
  · rw [Maps.size_put t1, if_pos, Maps.size_put ht, if_pos (h2 j hj).1, h1]
    rw [Maps.has_put_other (hne hi hj hij)]; exact (h2 i hi).1
  · by_cases e1 : k = i
    · subst e1
      rw [sw_i]
      refine ⟨?_, fun z => ?_⟩
      · rw [Maps.has_put_other (hne hj hi (Ne.symm hij)), Maps.has_put_same ht.isMap (k1 _)]
      · rw [Maps.atKey_put_other (hne hj hi (Ne.symm hij)), Maps.atKey_put_same ht.isMap (k1 _)]
    · by_cases e2 : k = j
      · subst e2
        rw [sw_j]
        exact ⟨Maps.has_put_same t1.isMap (k1 _) _, fun z => Maps.atKey_put_same t1.isMap (k1 _) _ _⟩
      · rw [sw_o f e1 e2]
        refine ⟨?_, fun z => ?_⟩
        · rw [Maps.has_put_other (hne hk hi e1), Maps.has_put_other (hne hk hj e2)]; exact (h2 k hk).1
        · rw [Maps.atKey_put_other (hne hk hi e1), Maps.atKey_put_other (hne hk hj e2)]; exact (h2 k hk).2 z
  · by_cases e1 : a = (f i).id
    · exact ⟨j, hj, by rw [sw_j, e1]⟩
    · by_cases e2 : a = (f j).id
      · exact ⟨i, hi, by rw [sw_i, e2]⟩
      · rw [Maps.has_put_other (by simpa using e1), Maps.has_put_other (by simpa using e2)] at ha
        obtain ⟨k, hk, e⟩ := h3 a ha
        refine ⟨k, hk, ?_⟩
        rw [sw_o f (fun e' => e1 (by rw [← e', e])) (fun e' => e2 (by rw [← e', e]))]
        exact e

theorem Exact.inj {D : DataW Unit} {f : Nat → E} {n : Nat} (h : Exact D f n) : ∀ k l, k < n → l < n → (f k).id = (f l).id → k = l := by
  intro k l hk hl e
  have a := (h.2.1 k hk).2 (.lit (.bool true))
  have b := (h.2.1 l hl).2 (.lit (.bool true))
  rw [e, b] at a
  simp at a
  omega


theorem Go.World.ownsMap.tight {w : World} {m n : Nat} {D : DataW Unit} (h : w.ownsMap Try.prog 45 (plainElem Try.prog 3) m n D) {n' : Nat} (e : Maps.size D ≤ n') : w.ownsMap Try.prog 45 (plainElem Try.prog 3) m n' D := by
  obtain ⟨es, clock, hb, F, hs, rfl⟩ := h
  refine ⟨es, clock, hb, F, ?_, rfl⟩
  simpa [Maps.size, length_sorted] using e
theorem turned_block {w w' : World} {m k : Nat} (t : w.mapTurned w' m) (hk : k ≠ m) : w'.heap[k]? = w.heap[k]? := by
  have hg := t.grown
  rcases Nat.lt_or_ge k w.heap.size with h | h
  · exact hg.block k h (by simpa using hk)
  · obtain ⟨es, clock, es', clock', hb, rfl⟩ := t
    exact ChangeMaps.heap_setBlock_other hb _ hk
theorem heap_drew (w : World) (k : Nat) : w.drew.heap[k]? = w.heap[k]? := rfl
theorem cell_kept {w w' : World} {b : Nat} (e : w'.heap[b]? = w.heap[b]?) (o : Nat) : w'.cell? ⟨b, o, none⟩ = w.cell? ⟨b, o, none⟩ := World.cell?_of_block (w := w) (by exact e)
theorem frozen_kept {w w' : World} {b : Nat} (e : w'.heap[b]? = w.heap[b]?) (o : Nat) : w'.frozen? ⟨b, o, none⟩ = w.frozen? ⟨b, o, none⟩ := World.frozen?_of_block (w := w) (by exact e)

/-- Behind the six stores. -/
theorem six_facts {w : World} {b0 b m g cap n : Nat} {f : Nat → E} (h : Qu w b0 b m g cap n f) {i j : Nat} (hi : i < n) (hj : j < n) (hij : i ≠ j) {W1 : World}
    (hW1 : W1 = ((((((w.setCell ⟨g, i * 3, none⟩ (.int .u32 (f j).id)).setCell ⟨g, i * 3 + 1, none⟩ (.int .i64 (f j).ttl)).setCell ⟨g, i * 3 + 2, none⟩ (.int .i64 (f j).dl)).setCell ⟨g, j * 3, none⟩ (.int .u32 (f i).id)).setCell ⟨g, j * 3 + 1, none⟩ (.int .i64 (f i).ttl)).setCell ⟨g, j * 3 + 2, none⟩ (.int .i64 (f i).dl)).drew) :
    Row W1 g cap n (HP.sw f i j) ∧ Kp w W1 b m g ∧ W1.heap[b]? = w.heap[b]? ∧ W1.heap[m]? = w.heap[m]? := by
  have hbg := h.bg
  have hmg := h.mg
  refine ⟨?_, ?_, ?_, ?_⟩
  · rw [hW1]
    refine ((((h.row.put hi (f j))).put hj (f i)).drew).congr (fun k hk => ?_)
    by_cases e1 : k = i
    · subst e1; rw [sw_i, if_neg hij, if_pos rfl]
    · by_cases e2 : k = j
      · subst e2; rw [sw_j, if_pos rfl]
      · rw [sw_o f e1 e2, if_neg e2, if_neg e1]
  · rw [hW1]
    exact (((((((Kp.refl w b m g).setCell (.inr rfl) _).setCell (.inr rfl) _).setCell (.inr rfl) _).setCell (.inr rfl) _).setCell (.inr rfl) _).setCell (.inr rfl) _).drew
  · rw [hW1]
    rw [heap_drew, heap_setCell_other _ _ _ _ hbg, heap_setCell_other _ _ _ _ hbg, heap_setCell_other _ _ _ _ hbg, heap_setCell_other _ _ _ _ hbg, heap_setCell_other _ _ _ _ hbg, heap_setCell_other _ _ _ _ hbg]
  · rw [hW1]
    rw [heap_drew, heap_setCell_other _ _ _ _ hmg, heap_setCell_other _ _ _ _ hmg, heap_setCell_other _ _ _ _ hmg, heap_setCell_other _ _ _ _ hmg, heap_setCell_other _ _ _ _ hmg, heap_setCell_other _ _ _ _ hmg]

set_option maxHeartbeats 2000000 in
theorem swap_walk {w : World} {b0 b m g cap n : Nat} {f : Nat → E} (h : Qu w b0 b m g cap n f) {i j : Nat} (hi : i < n) (hj : j < n) (hij : i ≠ j) :
    Calls Try.prog 42 #[.pointer (some ⟨b, 14, none⟩), .int .i64 i, .int .i64 j] w fun e w' => e = .returned (.tuple #[]) ∧ Qu w' b0 b m g cap n (HP.sw f i j) ∧ Kp w w' b m g := by
  have c0 : w.drew.cell? ⟨b, 14, none⟩ = some (.slice (some ⟨g, 0, none⟩) n cap) := h.cE
  obtain ⟨i0, i1, i2⟩ : w.drew.cell? ⟨g, i * 3, none⟩ = some (.int .u32 (f i).id) ∧ w.drew.cell? ⟨g, i * 3 + 1, none⟩ = some (.int .i64 (f i).ttl) ∧ w.drew.cell? ⟨g, i * 3 + 2, none⟩ = some (.int .i64 (f i).dl) := h.row.cells hi
  obtain ⟨j0, j1, j2⟩ : w.drew.cell? ⟨g, j * 3, none⟩ = some (.int .u32 (f j).id) ∧ w.drew.cell? ⟨g, j * 3 + 1, none⟩ = some (.int .i64 (f j).ttl) ∧ w.drew.cell? ⟨g, j * 3 + 2, none⟩ = some (.int .i64 (f j).dl) := h.row.cells hj
  have fz : ∀ k, w.drew.frozen? ⟨g, k, none⟩ = false := h.row.frozen
  obtain ⟨i0', i1', i2'⟩ := h.row.cells hi
  obtain ⟨j0', j1', j2'⟩ := h.row.cells hj
  have fz' := h.row.frozen
  have gi0 := fz' (i * 3)
  have gi1 := fz' (i * 3 + 1)
  have gi2 := fz' (i * 3 + 2)
  have gj0 := fz' (j * 3)
  have gj1 := fz' (j * 3 + 1)
  have gj2 := fz' (j * 3 + 2)
  have fi0 := fz (i * 3)
  have fi1 := fz (i * 3 + 1)
  have fi2 := fz (i * 3 + 2)
  have fj0 := fz (j * 3)
  have fj1 := fz (j * 3 + 1)
  have fj2 := fz (j * 3 + 2)
  go_enter Try.func42, Try.ntmps42
  go_wp2
  go_region
  obtain ⟨W1, hW1⟩ : ∃ W1 : World, W1 = ((((((w.setCell ⟨g, i * 3, none⟩ (.int .u32 (f j).id)).setCell ⟨g, i * 3 + 1, none⟩ (.int .i64 (f j).ttl)).setCell ⟨g, i * 3 + 2, none⟩ (.int .i64 (f j).dl)).setCell ⟨g, j * 3, none⟩ (.int .u32 (f i).id)).setCell ⟨g, j * 3 + 1, none⟩ (.int .i64 (f i).ttl)).setCell ⟨g, j * 3 + 2, none⟩ (.int .i64 (f i).dl)).drew := ⟨_, rfl⟩
  rw [← hW1]
  obtain ⟨R1, K1, hb1, hm1⟩ := six_facts h hi hj hij hW1
  obtain ⟨D, hD, hX⟩ := h.map
  have hD1 : W1.ownsMap Try.prog 45 (plainElem Try.prog 3) m n D := by
    obtain ⟨es, clock, hb, r⟩ := hD
    exact ⟨es, clock, hm1.trans hb, r⟩
  clear hW1 i0 i1 i2 j0 j1 j2 i0' i1' i2' j0' j1' j2' fz fz' gi0 gi1 gi2 gj0 gj1 gj2 fi0 fi1 fi2 fj0 fj1 fj2 c0
  have c0 := (cell_kept hb1 14).trans h.cE
  have c1 := (cell_kept hb1 15).trans h.cM
  have n4 := h.n4
  have hinj := hX.inj
  have hT := hD.tidy law45
  have hX2 := hX.sw hT hinj hi hj hij
  obtain ⟨W2, r2, o2, t2⟩ := World.ownsMap.store (w := W1.drew) hD1.drew law45 Try.underlying40 (by unfold maxLen; omega) (key := .int .u32 (f j).id) (val := .int .i64 i) (keyOf_int_mk Try.underlying45 (h.wf j hj)) (plainElem_int Try.underlying3 (wf_nat (n := i) (by omega)))
  obtain ⟨W3, r3, o3, t3⟩ := World.ownsMap.store (w := W2.drew) o2.drew law45 Try.underlying40 (by unfold maxLen; omega) (key := .int .u32 (f i).id) (val := .int .i64 j) (keyOf_int_mk Try.underlying45 (h.wf i hi)) (plainElem_int Try.underlying3 (wf_nat (n := j) (by omega)))
  have b2 : W2.heap[b]? = W1.heap[b]? := turned_block (w := W1.drew) t2 h.bm
  have g2 : W2.heap[g]? = W1.heap[g]? := turned_block (w := W1.drew) t2 (Ne.symm h.mg)
  have b3 : W3.heap[b]? = w.heap[b]? := (turned_block t3 h.bm).trans (b2.trans hb1)
  have g3 : W3.heap[g]? = W1.heap[g]? := (turned_block t3 (Ne.symm h.mg)).trans g2
  have x0 := (R1.cells hi).1
  rw [sw_i] at x0
  have y0 := ((R1.kept g2).cells hj).1
  rw [sw_j] at y0
  have c0d : W1.drew.cell? ⟨b, 14, none⟩ = some (.slice (some ⟨g, 0, none⟩) n cap) := c0
  have c1d : W1.drew.cell? ⟨b, 15, none⟩ = some (.map (some m)) := c1
  have x0d : W1.drew.cell? ⟨g, i * 3, none⟩ = some (.int .u32 (f j).id) := x0
  have d0 : W2.cell? ⟨b, 14, none⟩ = some (.slice (some ⟨g, 0, none⟩) n cap) := (cell_kept b2 14).trans c0
  have d1 : W2.cell? ⟨b, 15, none⟩ = some (.map (some m)) := (cell_kept b2 15).trans c1
  have d0d : W2.drew.cell? ⟨b, 14, none⟩ = some (.slice (some ⟨g, 0, none⟩) n cap) := d0
  have d1d : W2.drew.cell? ⟨b, 15, none⟩ = some (.map (some m)) := d1
  have y0d : W2.drew.cell? ⟨g, j * 3, none⟩ = some (.int .u32 (f i).id) := y0
  have hQ : Qu W3 b0 b m g cap n (HP.sw f i j) := by
    refine ⟨(cell_kept b3 14).trans h.cE, (cell_kept b3 15).trans h.cM, (frozen_kept b3 14).trans h.fE, R1.kept g3, ⟨_, Go.World.ownsMap.tight o3 (Nat.le_of_eq hX2.1), hX2⟩, fun k hk => ?_, h.bm, h.bg, h.mg, h.lb, h.lm, h.lg, h.n4⟩
    by_cases e1 : k = i
    · rw [e1, sw_i]; exact h.wf j hj
    · by_cases e2 : k = j
      · rw [e2, sw_j]; exact h.wf i hi
      · rw [sw_o f e1 e2]; exact h.wf k hk
  have hK : Kp w W3 b m g := (((K1.drew).turned t2).drew).turned t3
  clear hX2 hT hinj hD1 hD hX o2 o3 t2 t3 b2 g2 b3 g3 hb1 hm1 K1 R1
  go_wp2
  go_region
  go_wp2
  go_region
  go_end0
  exact ⟨rfl, hQ, hK⟩
end Go.Proofs.Qxb6612235a
