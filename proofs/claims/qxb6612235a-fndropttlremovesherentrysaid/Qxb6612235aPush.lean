import Derived.Test.Qxb6612235aPop
import Derived.Maps.AppendAt
import Derived.Deep.RegionLaw
namespace Go.Proofs.Qxb6612235a
open Go.RowKit Go.Maps HP

theorem rowOf_cut (c : Nat → List Value) (s : Nat) (hs : ∀ k, (c k).length = s) {cur : Array Value} {n : Nat} (h : cur.toList.take (n * s) = rowOf c n) {k j : Nat} (hk : k < n) (hj : j < s) : cur[k * s + j]? = (c k)[j]? := by
  have e := rowOf_get c s hs n k j hk hj
  rw [← h, List.getElem?_take, if_pos] at e
  · rw [← e]; simp
  · have := Nat.mul_le_mul_right s (show k + 1 ≤ n by omega)
    rw [Nat.add_mul, Nat.one_mul] at this
    omega
/-- A row, said by the kit's word. -/
theorem Row.owns {w : World} {b0 g cap n : Nat} {f : Nat → E} (h : Row w g cap n f) (hb : b0 ≤ g) : w.ownsRow b0 60 3 (.slice (some ⟨g, 0, none⟩) n cap) n (rowOf (evc f) n) := by
  obtain ⟨cur, hg, h1, h2, h3, hc⟩ := h
  have hl := rowOf_length (evc f) 3 (evc_length f) n
  refine ⟨hl, .inr ⟨g, cap, cur, rfl, hb, hg, h1, h2, h3, ?_⟩⟩
  apply List.ext_getElem?
  intro i
  rw [List.getElem?_take]
  by_cases hi : i < n * 3
  · rw [if_pos hi]
    obtain ⟨k, j, hj, rfl⟩ : ∃ k j, j < 3 ∧ i = k * 3 + j := ⟨i / 3, i % 3, by omega, by omega⟩
    have hk : k < n := by omega
    rw [rowOf_get _ 3 (evc_length f) n k j hk hj]
    obtain ⟨c0, c1, c2⟩ := hc k hk
    have : j = 0 ∨ j = 1 ∨ j = 2 := by omega
    rcases this with rfl | rfl | rfl
    · simpa [evc] using c0
    · simpa [evc] using c1
    · simpa [evc] using c2
  · rw [if_neg hi, List.getElem?_eq_none (by omega)]
theorem Row.of_owns {w : World} {b0 n : Nat} {v : Value} {f : Nat → E} (h : w.ownsRow b0 60 3 v n (rowOf (evc f) n)) (hv : v ≠ .slice none 0 0) : ∃ g cap, v = .slice (some ⟨g, 0, none⟩) n cap ∧ b0 ≤ g ∧ Row w g cap n f := by
  rcases h.2 with h0 | ⟨g, cap, cur, hv', hb, hg, h1, h2, h3, h4⟩
  · exact absurd h0.1 hv
  · refine ⟨g, cap, hv', hb, cur, hg, h1, h2, h3, fun k hk => ?_⟩
    have a0 := rowOf_cut _ 3 (evc_length f) h4 hk (show 0 < 3 by omega)
    have a1 := rowOf_cut _ 3 (evc_length f) h4 hk (show 1 < 3 by omega)
    have a2 := rowOf_cut _ 3 (evc_length f) h4 hk (show 2 < 3 by omega)
    exact ⟨a0, a1, a2⟩

theorem Exact.snoc {D : DataW Unit} {f : Nat → E} {n : Nat} (h : Exact D f n) (ht : Maps.Tidy D) {e : E} (hf : ∀ k, k < n → (f k).id ≠ e.id) : Exact (D.put (.int .u32 e.id) (.lit (.int .i64 n))) (HP.snoc f n e) (n + 1) := by
  obtain ⟨h1, h2, h3⟩ := h
  have k1 : ∀ a, WideAt.IsKeyLit (.int .u32 a) := fun a => trivial
  have hv : ∀ k, k < n → HP.snoc f n e k = f k := fun k hk => by simp only [HP.snoc]; rw [if_neg (by omega)]
  have hw : HP.snoc f n e n = e := by simp [HP.snoc]
  have hno : Maps.has D (.int .u32 e.id) = false := by
    rcases hb : Maps.has D (.int .u32 e.id) with _ | _
    · rfl
    · obtain ⟨k, hk, e'⟩ := h3 _ hb
      exact absurd e' (hf k hk)
  refine ⟨?_, fun k hk => ?_, fun a ha => ?_⟩
  · rw [Maps.size_put ht, hno]; simp [h1]
  · by_cases e1 : k = n
    · subst e1; rw [hw]
      exact ⟨Maps.has_put_same ht.isMap (k1 _) _, fun z => Maps.atKey_put_same ht.isMap (k1 _) _ _⟩
    · have hk' : k < n := by omega
      have hne : Lit.int .u32 (f k).id ≠ Lit.int .u32 e.id := fun e' => hf k hk' (by simpa using e')
      rw [hv k hk']
      refine ⟨?_, fun z => ?_⟩
      · rw [Maps.has_put_other hne]; exact (h2 k hk').1
      · rw [Maps.atKey_put_other hne]; exact (h2 k hk').2 z
  · by_cases e1 : a = e.id
    · exact ⟨n, by omega, by rw [hw, e1]⟩
    · rw [Maps.has_put_other (by simpa using e1)] at ha
      obtain ⟨k, hk, e'⟩ := h3 a ha
      exact ⟨k, by omega, by rw [hv k hk]; exact e'⟩

/-- The queue, its row maybe nil. -/
structure Qo (w : World) (b0 b m n : Nat) (f : Nat → E) (p : Option Addr) (cap : Nat) : Prop where
  cE : w.cell? ⟨b, 14, none⟩ = some (.slice p n cap)
  cM : w.cell? ⟨b, 15, none⟩ = some (.map (some m))
  fE : w.frozen? ⟨b, 14, none⟩ = false
  own : w.ownsRow b0 60 3 (.slice p n cap) n (rowOf (evc f) n)
  map : ∃ D : DataW Unit, w.ownsMap Try.prog 45 (plainElem Try.prog 3) m n D ∧ Exact D f n
  wf : ∀ k, k < n → (Lit.int .u32 (f k).id).wf = true
  bm : b ≠ m
  bg : some b ≠ (Value.slice p n cap).ownBlock
  mg : some m ≠ (Value.slice p n cap).ownBlock
  lb : b0 ≤ b
  lm : b0 ≤ m
  n4 : n ≤ 8192
theorem Qu.qo {w : World} {b0 b m g cap n : Nat} {f : Nat → E} (h : Qu w b0 b m g cap n f) : Qo w b0 b m n f (some ⟨g, 0, none⟩) cap :=
  ⟨h.cE, h.cM, h.fE, h.row.owns h.lg, h.map, h.wf, h.bm, by simpa [Value.ownBlock] using h.bg, by simpa [Value.ownBlock] using h.mg, h.lb, h.lm, h.n4⟩

theorem info60 : (Try.prog.info? 60).map (fun i => (i.zero, i.size, i.bytes)) = some (some (.agg #[.int .u32 0, .int .i64 0, .int .i64 0]), 3, 24) := by kernel_rfl
theorem own_kept {w w' : World} {b0 n cap : Nat} {p : Option Addr} {xs : List Value} (h : w.ownsRow b0 60 3 (.slice p n cap) n xs) (hk : ∀ k, (Value.slice p n cap).ownBlock = some k → w'.heap[k]? = w.heap[k]?) : w'.ownsRow b0 60 3 (.slice p n cap) n xs := by
  refine ⟨h.1, ?_⟩
  rcases h.2 with h0 | ⟨g, c, cur, hv, hb, hg, r⟩
  · exact .inl h0
  · refine .inr ⟨g, c, cur, hv, hb, ?_, r⟩
    rw [hk g (by rw [hv]; rfl)]; exact hg
theorem cells3 {w : World} {g : Nat} {x y z : Value} (h0 : w.cell? ⟨g, 0, none⟩ = some x) (h1 : w.cell? ⟨g, 1, none⟩ = some y) (h2 : w.cell? ⟨g, 2, none⟩ = some z) : ∀ j u, [x, y, z][j]? = some u → w.cell? ((⟨g, 0, none⟩ : Addr).add j) = some u := by
  intro j u hj
  match j, hj with
  | 0, hj => simp at hj; subst hj; simpa [Addr.add] using h0
  | 1, hj => simp at hj; subst hj; simpa [Addr.add] using h1
  | 2, hj => simp at hj; subst hj; simpa [Addr.add] using h2
theorem new3 {w W : World} {x y z : Value} (h : W = (w.alloc (.cells #[x, y, z] 60)).drew) : W.cell? ⟨w.heap.size, 0, none⟩ = some x ∧ W.cell? ⟨w.heap.size, 1, none⟩ = some y ∧ W.cell? ⟨w.heap.size, 2, none⟩ = some z ∧ W.heap.size = w.heap.size + 1 ∧ ∀ k, k < w.heap.size → W.heap[k]? = w.heap[k]? := by
  subst h
  refine ⟨by go_simp, by go_simp, by go_simp, by simp [World.drew], fun k hk => ?_⟩
  rw [heap_drew]; exact heap_alloc_old _ _ hk
theorem step_append_run {P : Program} {ops : Array Oper} {o : Oper} {a : Act} {w : World} {K : Act → World → Prop} {Q : Exit → Act → World → Prop} {E : Prop}
    (hg : o.guard = none) (s x : Operand) (t : TypeId) (hop : o.op = Op.call { callee := Callee.builtin Builtin.append, args := #[s, x], argTypes := #[t, t] })
    (v u : Value) (hs : a.eval s = v) (hx : a.eval x = u) (v' : Value) (w' : World) (hr : (Builtin.append_ #[t, t] o.type #[v, u]).run P w = .ok v' w')
    (hK : K (a.put o.dst v') w') : if Region.wanted o (yielded ops a.tmps) = true then Oper.wp P o a w K Q else E := by
  have hw : Region.wanted o (yielded ops a.tmps) = true := by simp [Region.wanted, hg]
  rw [if_pos hw]
  unfold Oper.wp
  simp [execOp, hop, resolve, invoke, builtin, hs, hx, hr, Result.andThen]
  exact hK
theorem rowOf_snoc (f : Nat → E) (n : Nat) (e : E) : rowOf (evc (HP.snoc f n e)) (n + 1) = rowOf (evc f) n ++ [.int .u32 e.id, .int .i64 e.ttl, .int .i64 e.dl] := by
  rw [rowOf]
  have h1 : rowOf (evc (HP.snoc f n e)) n = rowOf (evc f) n := rowOf_congr n (fun k hk => by
    have : HP.snoc f n e k = f k := by simp only [HP.snoc]; rw [if_neg (by omega)]
    simp [evc, this])
  have h2 : HP.snoc f n e n = e := by simp [HP.snoc]
  rw [h1]; simp [evc, h2]

set_option maxHeartbeats 4000000 in
theorem push_walk {w : World} {b0 b m n cap : Nat} {p : Option Addr} {f : Nat → E} (h : Qo w b0 b m n f p cap) (hn : n < 8192) {e : E} (hf : ∀ k, k < n → (f k).id ≠ e.id) (hw : (Lit.int .u32 e.id).wf = true) :
    Calls Try.prog 41 #[.pointer (some ⟨b, 14, none⟩), .iface 60 (.agg #[.int .u32 e.id, .int .i64 e.ttl, .int .i64 e.dl])] w fun r w' => r = .returned (.tuple #[]) ∧ (∃ g' cap', Qu w' b0 b m g' cap' (n + 1) (HP.snoc f n e)) ∧ Below b0 w w' := by
  have hbl := cell_lt h.cE
  obtain ⟨D, hD, hX⟩ := h.map
  have hml := hD.lt
  have hbm := h.bm
  have ta : ∀ w : World, (Instr.typeAssert (.iface 60 (.agg #[.int .u32 e.id, .int .i64 e.ttl, .int .i64 e.dl])) 20 60 false).run Try.prog w = .ok (.agg #[.int .u32 e.id, .int .i64 e.ttl, .int .i64 e.dl]) w := fun _ => by kernel_rfl
  have HX : Hid (w.ownsMap Try.prog 45 (plainElem Try.prog 3) m n D ∧ Exact D f n ∧ ∀ k, k < n → (f k).id ≠ e.id) := ⟨hD, hX, hf⟩
  clear hD hX hf
  go_enter Try.func41, Try.ntmps41
  go_upto_region 1 with fail
  obtain ⟨W1, hW1⟩ : ∃ W1 : World, W1 = w.alloc (.cells #[.int .u32 e.id, .int .i64 e.ttl, .int .i64 e.dl] 60) := ⟨_, rfl⟩
  rw [← hW1]
  obtain ⟨hD, hX, hf⟩ := HX.out
  have b1 : W1.heap[b]? = w.heap[b]? := by rw [hW1]; exact heap_alloc_old _ _ hbl
  have hgl : ∀ k, (Value.slice p n cap).ownBlock = some k → b0 ≤ k ∧ k < w.heap.size := h.own.lt
  have g1 : ∀ k, (Value.slice p n cap).ownBlock = some k → W1.heap[k]? = w.heap[k]? := fun k hk => by rw [hW1]; exact heap_alloc_old _ _ (hgl k hk).2
  have hD1 : W1.ownsMap Try.prog 45 (plainElem Try.prog 3) m n D := by rw [hW1]; exact hD.alloc _
  have hb0 : b0 ≤ w.heap.size := by have := h.lb; omega
  have B1 : Below b0 w W1 := by rw [hW1]; exact (Below.refl _ _).alloc hb0 _
  have s1 : W1.heap.size = w.heap.size + 1 := by rw [hW1]; simp
  have x0 : W1.cell? ⟨w.heap.size, 0, none⟩ = some (.int .u32 e.id) := by rw [hW1]; go_simp
  have x1 : W1.cell? ⟨w.heap.size, 1, none⟩ = some (.int .i64 e.ttl) := by rw [hW1]; go_simp
  have x2 : W1.cell? ⟨w.heap.size, 2, none⟩ = some (.int .i64 e.dl) := by rw [hW1]; go_simp
  clear hW1
  have c0 : W1.cell? ⟨b, 14, none⟩ = some (.slice p n cap) := (cell_kept b1 14).trans h.cE
  have c1 : W1.cell? ⟨b, 15, none⟩ = some (.map (some m)) := (cell_kept b1 15).trans h.cM
  have hX2 := hX.snoc (hD.tidy law45) hf
  obtain ⟨W2, r2, o2, t2⟩ := World.ownsMap.store (w := W1.drew) hD1.drew law45 Try.underlying40 (by unfold maxLen; omega) (key := .int .u32 e.id) (val := .int .i64 n) (keyOf_int_mk Try.underlying45 hw) (plainElem_int Try.underlying3 (wf_nat (n := n) (by omega)))
  have K2 := t2.grown
  have s2 : w.heap.size + 1 ≤ W2.heap.size := by have := K2.size; have e : W1.drew.heap.size = W1.heap.size := rfl; omega
  have b2 : W2.heap[b]? = W1.heap[b]? := turned_block (w := W1.drew) t2 hbm
  have z2 : W2.heap[w.heap.size]? = W1.heap[w.heap.size]? := turned_block (w := W1.drew) t2 (by omega)
  have g2 : ∀ k, (Value.slice p n cap).ownBlock = some k → W2.heap[k]? = w.heap[k]? := fun k hk => (turned_block (w := W1.drew) t2 (fun e => h.mg (by rw [hk, e]))).trans (g1 k hk)
  have B2 : Below b0 w W2 := B1.drew.grown K2 (by have := B1.size; exact Nat.le_trans hb0 this) (fun k e => by cases e; exact h.lm)
  have y0 : W2.cell? ⟨w.heap.size, 0, none⟩ = some (.int .u32 e.id) := (cell_kept z2 0).trans x0
  have y1 : W2.cell? ⟨w.heap.size, 1, none⟩ = some (.int .i64 e.ttl) := (cell_kept z2 1).trans x1
  have y2 : W2.cell? ⟨w.heap.size, 2, none⟩ = some (.int .i64 e.dl) := (cell_kept z2 2).trans x2
  have d0 : W2.cell? ⟨b, 14, none⟩ = some (.slice p n cap) := (cell_kept b2 14).trans c0
  have d1 : W2.cell? ⟨b, 15, none⟩ = some (.map (some m)) := (cell_kept b2 15).trans c1
  have df : W2.frozen? ⟨b, 14, none⟩ = false := (frozen_kept (b2.trans b1) 14).trans h.fE
  have c0d : W1.drew.cell? ⟨b, 14, none⟩ = some (.slice p n cap) := c0
  have c1d : W1.drew.cell? ⟨b, 15, none⟩ = some (.map (some m)) := c1
  have x0d : W1.drew.cell? ⟨w.heap.size, 0, none⟩ = some (.int .u32 e.id) := x0
  have hown2 : W2.drew.ownsRow b0 60 3 (.slice p n cap) n (rowOf (evc f) n) := own_kept h.own g2
  obtain ⟨W3, hW3⟩ : ∃ W3 : World, W3 = (W2.alloc (.cells #[.int .u32 e.id, .int .i64 e.ttl, .int .i64 e.dl] 60)).drew := ⟨_, rfl⟩
  obtain ⟨v0, v1, v2, s3, k3⟩ := new3 hW3
  have hown3 : W3.ownsRow b0 60 3 (.slice p n cap) n (rowOf (evc f) n) := own_kept hown2 (fun k hk => k3 k (hown2.lt k hk).2)
  obtain ⟨i0, hi, hz0, hz1, hz2⟩ := info_parts info60
  obtain ⟨v', W4, r4, o4, gr4, nil4, at4⟩ := run_append_own_at (P := Try.prog) W3 b0 41 0 60 i0 _ 3 24 Try.underlying41 hi hz0 hz1 hz2 rfl (by omega) (.slice p n cap) n _ hown3 ⟨W2.heap.size, 0, none⟩ 1 1 [.int .u32 e.id, .int .i64 e.ttl, .int .i64 e.dl] rfl (cells3 v0 v1 v2) (by simp; exact ⟨rfl, rfl, rfl⟩) (by unfold maxLen; omega) (by omega) (by have := B2.size; omega)
  have b3 : W3.heap[b]? = W2.heap[b]? := k3 b (by omega)
  have z3 : W3.heap[w.heap.size]? = W2.heap[w.heap.size]? := k3 _ (by omega)
  have b4 : W4.heap[b]? = W2.heap[b]? := (gr4.block b (by omega) h.bg).trans b3
  have m4 : W4.heap[m]? = W2.heap[m]? := (gr4.block m (by omega) h.mg).trans (k3 m (by omega))
  obtain ⟨g', cap', rfl, hg', R4⟩ := Row.of_owns (f := HP.snoc f n e) (by rw [rowOf_snoc]; exact o4) (fun hh => by have := (nil4.1 hh).2; omega)
  have bg' : b ≠ g' := by
    rintro rfl
    rcases at4 with h' | h'
    · exact h.bg h'
    · simp [Value.ownBlock] at h'; omega
  have mg' : m ≠ g' := by
    rintro rfl
    rcases at4 with h' | h'
    · exact h.mg h'
    · simp [Value.ownBlock] at h'; omega
  have B4 : Below b0 w W4 := by
    have B3 : Below b0 w W3 := by rw [hW3]; exact (B2.alloc (by have := B2.size; omega) _).drew
    exact B3.grown gr4 (by have := B3.size; omega) (fun k hk => (hgl k hk).1)
  have e0 : W3.cell? ⟨b, 14, none⟩ = some (.slice p n cap) := (cell_kept b3 14).trans d0
  have e1 : W3.cell? ⟨w.heap.size, 0, none⟩ = some (.int .u32 e.id) := (cell_kept z3 0).trans y0
  have e2 : W3.cell? ⟨w.heap.size, 1, none⟩ = some (.int .i64 e.ttl) := (cell_kept z3 1).trans y1
  have e3 : W3.cell? ⟨w.heap.size, 2, none⟩ = some (.int .i64 e.dl) := (cell_kept z3 2).trans y2
  have f0 : W4.cell? ⟨b, 14, none⟩ = some (.slice p n cap) := (cell_kept b4 14).trans d0
  have f1 : W4.cell? ⟨b, 15, none⟩ = some (.map (some m)) := (cell_kept b4 15).trans d1
  have ff : W4.frozen? ⟨b, 14, none⟩ = false := (frozen_kept b4 14).trans df
  have HE : Hid (Qu (W4.setCell ⟨b, 14, none⟩ (.slice (some ⟨g', 0, none⟩) (n + 1) cap')) b0 b m g' cap' (n + 1) (HP.snoc f n e) ∧ Below b0 w (W4.setCell ⟨b, 14, none⟩ (.slice (some ⟨g', 0, none⟩) (n + 1) cap'))) := by
    have o4' : W4.ownsMap Try.prog 45 (plainElem Try.prog 3) m (n + 1) (D.put (.int .u32 e.id) (.lit (.int .i64 n))) := by
      obtain ⟨es, clock, hb, r⟩ := o2
      exact ⟨es, clock, m4.trans hb, r⟩
    refine ⟨⟨by go_simp, by go_simp, by go_simp, R4.kept (heap_setCell_other _ _ _ _ (Ne.symm bg')), ⟨_, o4'.setCell (Ne.symm hbm) _, hX2⟩, fun k hk => ?_, hbm, bg', mg', h.lb, h.lm, hg', by omega⟩, B4.setCell h.lb _⟩
    by_cases e1 : k = n
    · subst e1; simp only [HP.snoc, if_pos]; exact hw
    · simp only [HP.snoc]; rw [if_neg e1]; exact h.wf k (by omega)
  have d0d : W2.drew.cell? ⟨b, 14, none⟩ = some (.slice p n cap) := d0
  have y0d : W2.drew.cell? ⟨w.heap.size, 0, none⟩ = some (.int .u32 e.id) := y0
  have y1d : W2.drew.cell? ⟨w.heap.size, 1, none⟩ = some (.int .i64 e.ttl) := y1
  have y2d : W2.drew.cell? ⟨w.heap.size, 2, none⟩ = some (.int .i64 e.dl) := y2
  clear hown3 hown2 R4 b4 m4 B4 B2 B1 hX2 o2 o4 gr4 at4 nil4 k3 z3 b3 t2 K2 g1 g2 hD1 hD hX hf
  go_region
  go_wp2
  subst hW3
  go_region_law (refine step_append_run rfl (.tmp 22) (.tmp 24) 41 rfl (.slice p n cap) (.slice (some ⟨W2.heap.size, 0, none⟩) 1 1) (by simp [Act.eval]) (by simp [Act.eval]) _ _ r4 ?_)
  all_goals
    go_end0
    obtain ⟨h1, h2⟩ := HE.out
    exact ⟨rfl, ⟨g', cap', h1⟩, h2⟩
end Go.Proofs.Qxb6612235a
