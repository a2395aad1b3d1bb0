/-
  The walk of toLog.
-/
import Derived.Test.Qxb6612199aLogWalks3
namespace Go.Proofs.Qxb6612199a.LogP
open Go.RowKit
set_option linter.unusedVariables false

/-- 'make([]T, n)': the world written out. -/
theorem wpList_make_exact {P : Program} (w : World) {ops : Array Oper} {rest : List Oper} {o : Oper} {a : Act} {Q : Exit → Act → World → Prop}
    (hg : o.guard = none) (l c : Operand) (t : TypeId) (hop : o.op = Op.makeSlice t l c)
    (e : TypeId) (i : TypeInfo) (z : Value) (size bytes : Nat) (h1 : P.underlying t = some (.slice e)) (h2 : P.info? e = some i) (h3 : i.zero = some z) (h4 : i.size = size) (h5 : i.bytes = bytes)
    (kl kc : IntKind) (n : Nat) (hl : a.eval l = .int kl (n : Int)) (hc : a.eval c = .int kc (n : Int)) (hC2 : n ≤ 33554432) (b2 : bytes ≤ 64)
    (hK : ∀ cur : List Value, cur.length = n * size → wpList P ops Q rest (a.put o.dst (.slice (some ⟨w.heap.size, 0, none⟩) n n)) (w.alloc (.cells cur.toArray e))) :
    wpList P ops Q (o :: rest) a w := by
  subst h4
  refine wpList_plain hg fun K hK' => ?_
  have hb : (i.bytes : Int) * (n : Int) ≤ 281474976710656 := by
    have : i.bytes * n ≤ 64 * 33554432 := Nat.mul_le_mul (by omega) (by omega)
    have h' : ((i.bytes * n : Nat) : Int) ≤ 281474976710656 := by omega
    rw [Int.natCast_mul] at h'
    exact h'
  have hrun := run_make (P := P) w t e i z h1 h2 h3 kl kc (n : Int) n (by omega) (Int.le_refl _) hb (by omega)
  have e1 : (n : Int).toNat = n := by omega
  rw [e1] at hrun
  unfold Oper.wp
  simp [execOp, hop, hl, hc, hrun, Result.andThen]
  have := hK (madeCells z.cells (n * i.size)).toList (by rw [Array.length_toList, size_madeCells])
  rw [Array.toArray_toList] at this
  exact hK' _ _ this

theorem setCell_row {w : World} {g o : Nat} {cur : List Value} {t : TypeId} (hg : w.heap[g]? = some (.cells cur.toArray t (0, 0))) (v : Value) : (w.setCell ⟨g, o, none⟩ v).heap[g]? = some (.cells (cur.set o v).toArray t (0, 0)) := by
  rw [setCell_eq_setRow w g o cur.toArray t (0, 0) v hg, setRow_heap w g _ _ t _ hg]
  simp
theorem row_cell {w : World} {g : Nat} {cur : List Value} {t : TypeId} (hg : w.heap[g]? = some (.cells cur.toArray t (0, 0))) (o : Nat) : w.cell? ⟨g, o, none⟩ = cur[o]? := by
  rw [cell_of_row w g o cur.toArray t (0, 0) hg]; simp
theorem row_frozen {w : World} {g : Nat} {cur : List Value} {t : TypeId} (hg : w.heap[g]? = some (.cells cur.toArray t (0, 0))) (o : Nat) : w.frozen? ⟨g, o, none⟩ = false := by
  simp [World.frozen?, hg]
theorem take_set3 (cur : List Value) (k : Nat) (x y z : Value) (h : k * 3 + 3 ≤ cur.length) : (((cur.set (k * 3) x).set (k * 3 + 1) y).set (k * 3 + 2) z).take ((k + 1) * 3) = cur.take (k * 3) ++ [x, y, z] := by
  apply List.ext_getElem?
  intro j
  simp only [List.getElem?_take, List.getElem?_set, List.getElem?_append, List.length_take, List.length_set]
  have hm : min (k * 3) cur.length = k * 3 := by omega
  rw [hm]
  by_cases h1 : j < k * 3
  · rw [if_pos (by omega), if_neg (by omega), if_neg (by omega), if_neg (by omega), if_pos h1, if_pos h1]
  · rw [if_neg h1]
    by_cases h2 : j < k * 3 + 3
    · rw [if_pos (by omega)]
      obtain ⟨r, rfl⟩ : ∃ r, j = k * 3 + r := ⟨j - k * 3, by omega⟩
      have : r = 0 ∨ r = 1 ∨ r = 2 := by omega
      rcases this with rfl | rfl | rfl
      · simp; omega
      · simp; omega
      · simp; omega
    · rw [if_neg (by omega)]
      symm
      apply List.getElem?_eq_none
      simp; omega
theorem take_set2 (cur : List Value) (k : Nat) (x y : Value) (h : k * 2 + 2 ≤ cur.length) : ((cur.set (k * 2) x).set (k * 2 + 1) y).take ((k + 1) * 2) = cur.take (k * 2) ++ [x, y] := by
  apply List.ext_getElem?
  intro j
  simp only [List.getElem?_take, List.getElem?_set, List.getElem?_append, List.length_take, List.length_set]
  have hm : min (k * 2) cur.length = k * 2 := by omega
  rw [hm]
  by_cases h1 : j < k * 2
  · rw [if_pos (by omega), if_neg (by omega), if_neg (by omega), if_pos h1, if_pos h1]
  · rw [if_neg h1]
    by_cases h2 : j < k * 2 + 2
    · rw [if_pos (by omega)]
      obtain ⟨r, rfl⟩ : ∃ r, j = k * 2 + r := ⟨j - k * 2, by omega⟩
      have : r = 0 ∨ r = 1 := by omega
      rcases this with rfl | rfl
      · simp; omega
      · simp; omega
    · rw [if_neg (by omega)]
      symm
      apply List.getElem?_eq_none
      simp; omega
theorem owns_of_row {w : World} {g n e s : Nat} {cur xs : List Value} (hg : w.heap[g]? = some (.cells cur.toArray e (0, 0))) (hl : cur.length = n * s) (hx : cur.take (n * s) = xs) (hn : n ≤ 33554432) : w.ownsRow 0 e s (.slice (some ⟨g, 0, none⟩) n n) n xs :=
  ⟨by rw [← hx, List.length_take]; omega, Or.inr ⟨g, n, cur.toArray, rfl, Nat.zero_le _, hg, Nat.le_refl _, by simp only [maxLen]; omega, by simpa using hl, hx⟩⟩

theorem row_some {w : World} {g : Nat} {cur : List Value} {t : TypeId} (hg : w.heap[g]? = some (.cells cur.toArray t (0, 0))) (o : Nat) (h : o < cur.length) : ∃ u, w.cell? ⟨g, o, none⟩ = some u :=
  ⟨cur[o], by rw [row_cell hg o, List.getElem?_eq_getElem h]⟩
theorem row_alloc {w : World} {g : Nat} {cur : List Value} {t : TypeId} (hg : w.heap[g]? = some (.cells cur.toArray t (0, 0))) (o : Obj) : (w.alloc o).heap[g]? = some (.cells cur.toArray t (0, 0)) := by
  rw [Below.heap_alloc w o g (Array.getElem?_eq_some_iff.1 hg).1]; exact hg

theorem owns_set {w : World} {g n c e s : Nat} {xs : List Value} (h : w.ownsRow 0 e s (.slice (some ⟨g, 0, none⟩) n c) n xs) {a : Addr} (hne : g ≠ a.block) (u : Value) : (w.setCell a u).ownsRow 0 e s (.slice (some ⟨g, 0, none⟩) n c) n xs := by
  refine ⟨h.1, ?_⟩
  rcases h.2 with h0 | ⟨g', cap, cur, hv, hb0, hgg, rest⟩
  · exact Or.inl h0
  · refine Or.inr ⟨g', cap, cur, hv, hb0, ?_, rest⟩
    cases hv
    rw [Below.heap_setCell _ _ _ _ hne]; exact hgg

/-- n events that came in: where there are any they lie somewhere. -/
def EvIn (w : World) (a : Option Addr) (n : Nat) (f : Nat → E) : Prop := ∀ k, k < n → ∃ b off, a = some ⟨b, off, none⟩ ∧ b < w.heap.size ∧ EvAt w b off n f
def PrIn (w : World) (a : Option Addr) (n : Nat) (p : Nat → Int) : Prop := ∀ k, k < n → ∃ b off, a = some ⟨b, off, none⟩ ∧ b < w.heap.size ∧ PrAt w b off n p

/-- What toLog's own blocks hold while it goes: the boxed argument (block w.heap.size), the result's cell (the next one). -/
structure TL (w wr : World) (x0 x1 x2 : Value) : Prop where
  bel : Below w.heap.size w wr
  sz : w.heap.size + 2 ≤ wr.heap.size
  b0 : wr.cell? ⟨w.heap.size, 0, none⟩ = some x0
  b1 : wr.cell? ⟨w.heap.size, 1, none⟩ = some x1
  b2 : wr.cell? ⟨w.heap.size, 2, none⟩ = some x2
  r0 : wr.cell? ⟨w.heap.size + 1, 0, none⟩ = some (.int .i64 0)
  r1 : wr.cell? ⟨w.heap.size + 1, 1, none⟩ = some (.slice none 0 0)
  r2 : wr.cell? ⟨w.heap.size + 1, 2, none⟩ = some (.slice none 0 0)
  f0 : wr.frozen? ⟨w.heap.size + 1, 0, none⟩ = false
  f1 : wr.frozen? ⟨w.heap.size + 1, 1, none⟩ = false
  f2 : wr.frozen? ⟨w.heap.size + 1, 2, none⟩ = false

theorem TL.step {w wr wr' : World} {x0 x1 x2 : Value} (h : TL w wr x0 x1 x2) (hb : Below (w.heap.size + 2) wr wr') : TL w wr' x0 x1 x2 :=
  ⟨h.bel.trans (hb.mono (by omega)), Nat.le_trans h.sz hb.size, keepS hb (by simp) h.b0, keepS hb (by simp) h.b1, keepS hb (by simp) h.b2, keepS hb (by simp) h.r0, keepS hb (by simp) h.r1, keepS hb (by simp) h.r2, keepF hb (by simp) h.f0, keepF hb (by simp) h.f1, keepF hb (by simp) h.f2⟩

theorem TL.start (w : World) (x0 x1 x2 : Value) (o : Obj) : TL w (((w.alloc (.cells #[x0, x1, x2] 25)).alloc (.cells #[.int .i64 0, .slice none 0 0, .slice none 0 0] 32)).alloc o) x0 x1 x2 :=
  ⟨bel3 (Below.refl _ _) (Nat.le_refl _) _ _ _, by simp, by go_simp, by go_simp, by go_simp, by go_simp, by go_simp, by go_simp, by go_simp, by go_simp, by go_simp⟩

set_option maxHeartbeats 1000000 in
theorem toLog_any (B : Int) (a1 a2 : Option Addr) (n c1 m c2 : Nat) (f : Nat → E) (p : Nat → Int) (w : World) (hn : n ≤ 1048576) (hm : m ≤ 1048576) (hev : EvIn w a1 n f) (hpr : PrIn w a2 m p) :
    Calls Try.prog 9 #[.agg #[.int .i64 B, .slice a1 n c1, .slice a2 m c2]] w fun e w' => ∃ g1 g2, e = .returned (.agg #[.int .i64 B, .slice (some ⟨g1, 0, none⟩) n n, .slice (some ⟨g2, 0, none⟩) m m]) ∧
      w'.ownsRow 0 43 3 (.slice (some ⟨g1, 0, none⟩) n n) n (rowOf (evc f) n) ∧ w'.ownsRow 0 46 2 (.slice (some ⟨g2, 0, none⟩) m m) m (rowOf (cac p) m) ∧ Below w.heap.size w w' := by
  obtain ⟨i0, hi, hz0, hz1, hz2⟩ := info_parts info43
  obtain ⟨j0, hj, hy0, hy1, hy2⟩ := info_parts info46
  go_enter Try.func9, Try.ntmps9
  go_wp2_with (at_make; refine wpList_make_exact _ rfl _ _ 29 rfl 43 i0 _ 3 24 Try.underlying29 hi hz0 hz1 hz2 _ _ n rfl rfl (by omega) (by omega) ?_)
  intro cur hcur
  go_wp2
  go_loopw [4] (fun i wr => ∃ (k : Nat) (cu : List Value), k ≤ n ∧ i = .int .i64 k ∧ TL w wr (.int .i64 B) (.slice a1 n c1) (.slice a2 m c2) ∧ wr.heap[w.heap.size + 1 + 1]? = some (.cells cu.toArray 43 (0, 0)) ∧ cu.length = n * 3 ∧ cu.take (k * 3) = rowOf (evc f) k) (fun i _ => n - (intOf i).toNat)
  case atStart =>
    refine ⟨0, cur, Nat.zero_le _, rfl, TL.start _ _ _ _ _, ?_, hcur, by simp [rowOf]⟩
    have := heap_alloc_new ((w.alloc (.cells #[.int .i64 B, .slice a1 n c1, .slice a2 m c2] 25)).alloc (.cells #[.int .i64 0, .slice none 0 0, .slice none 0 0] 32)) (.cells cur.toArray 43)
    simpa using this
  case round =>
    obtain ⟨k, cu, hk, rfl, T, hrow, hcl, hct⟩ := hrel
    have tb0 := T.b0
    have tb1 := T.b1
    have tb2 := T.b2
    have hG : w.heap.size + 1 + 1 < wr.heap.size := (Array.getElem?_eq_some_iff.1 hrow).1
    by_cases hlt : k < n
    · obtain ⟨b, off, rfl, hb, hE⟩ := hev k hlt
      obtain ⟨v0, v1, v2⟩ := hE k hlt
      have V0 := keepS T.bel hb v0
      have V1 := keepS T.bel hb v1
      have V2 := keepS T.bel hb v2
      obtain ⟨z0, C0⟩ := row_some hrow (k * 3) (by omega)
      obtain ⟨z1, C1⟩ := row_some hrow (k * 3 + 1) (by omega)
      obtain ⟨z2, C2⟩ := row_some hrow (k * 3 + 2) (by omega)
      have F0 := row_frozen hrow (k * 3)
      have F1 := row_frozen hrow (k * 3 + 1)
      have F2 := row_frozen hrow (k * 3 + 2)
      have HT : Hid (cu.take (k * 3) = rowOf (evc f) k) := hct
      have HR : Hid (wr.heap[w.heap.size + 1 + 1]? = some (.cells cu.toArray 43 (0, 0))) := hrow
      have HL : Hid (cu.length = n * 3) := hcl
      clear hct hrow hcl hev hpr v0 v1 v2 hcur
      go_wp2
      go_roundw
      case rel =>
        refine ⟨k + 1, ((cu.set (k * 3) (.int .u8 (f k).kd)).set (k * 3 + 1) (.int .i64 (f k).nd)).set (k * 3 + 2) (.int .i64 (f k).st), by omega, by go_num, ?_, ?_, ?_, ?_⟩
        · exact T.step (bel1 ((((Below.refl _ _).setCell (by simp) _).setCell (by simp) _).setCell (by simp) _) (by simp [World.setCell]; omega) _)
        · exact row_alloc (setCell_row (setCell_row (setCell_row HR.out _) _) _) _
        · simp [HL.out]
        · rw [take_set3 _ _ _ _ _ (by have := HL.out; omega), HT.out]; rfl
      case measure => simp [intOf]; omega
    · have hkn : k = n := by omega
      subst hkn
      have O1 := owns_of_row hrow hcl hct (by omega)
      clear hrow hcl hct hcur hev
      go_wp2_with (at_make; refine wpList_make_exact _ rfl _ _ 30 rfl 46 j0 _ 2 24 Try.underlying30 hj hy0 hy1 hy2 _ _ m rfl rfl (by omega) (by omega) ?_)
      intro cur2 hcur2
      go_wp2
      obtain ⟨wo, hwo⟩ : ∃ wo : World, wo = wr := ⟨_, rfl⟩
      rw [← hwo] at O1 T hG tb0 tb1 tb2 ⊢
      clear hwo
      go_loopw [7] (fun i wr => ∃ (j : Nat) (cu : List Value), j ≤ m ∧ i = .int .i64 j ∧ TL w wr (.int .i64 B) (.slice a1 k c1) (.slice a2 m c2) ∧ wr.ownsRow 0 43 3 (.slice (some ⟨w.heap.size + 1 + 1, 0, none⟩) k k) k (rowOf (evc f) k) ∧ wr.heap[wo.heap.size]? = some (.cells cu.toArray 46 (0, 0)) ∧ cu.length = m * 2 ∧ cu.take (j * 2) = rowOf (cac p) j) (fun i _ => m - (intOf i).toNat)
      case atStart =>
        exact ⟨0, cur2, Nat.zero_le _, rfl, T.step ((Below.refl _ _).alloc (by omega) _), O1.alloc _, heap_alloc_new wo _, hcur2, by simp [rowOf]⟩
      case round =>
        obtain ⟨j, cu2, hjm, rfl, T2, O2, hrow2, hcl2, hct2⟩ := hrel
        clear tb0 tb1 tb2
        have tb0 := T2.b0
        have tb1 := T2.b1
        have tb2 := T2.b2
        have hG2 : wo.heap.size < wr.heap.size := (Array.getElem?_eq_some_iff.1 hrow2).1
        by_cases hlt2 : j < m
        · obtain ⟨b, off, rfl, hb, hE⟩ := hpr j hlt2
          have V0 := keepS T2.bel hb (hE j hlt2)
          obtain ⟨z0, C0⟩ := row_some hrow2 (j * 2) (by omega)
          obtain ⟨z1, C1⟩ := row_some hrow2 (j * 2 + 1) (by omega)
          have F0 := row_frozen hrow2 (j * 2)
          have F1 := row_frozen hrow2 (j * 2 + 1)
          have HT : Hid (cu2.take (j * 2) = rowOf (cac p) j) := hct2
          have HR : Hid (wr.heap[wo.heap.size]? = some (.cells cu2.toArray 46 (0, 0))) := hrow2
          have HL : Hid (cu2.length = m * 2) := hcl2
          clear hct2 hrow2 hcl2 hpr hcur2
          go_wp2
          go_roundw
          case rel =>
            refine ⟨j + 1, (cu2.set (j * 2) (.int .u32 (p j))).set (j * 2 + 1) .nilIface, by omega, by go_num, ?_, ?_, ?_, ?_, ?_⟩
            · exact T2.step (((Below.refl _ _).setCell (by simp; omega) _).setCell (by simp; omega) _)
            · exact owns_set (owns_set O2 (by simp; omega) _) (by simp; omega) _
            · exact setCell_row (setCell_row HR.out _) _
            · simp [HL.out]
            · rw [take_set2 _ _ _ _ (by have := HL.out; omega), HT.out]; rfl
          case measure => simp [intOf]; omega
        · have hjm2 : j = m := by omega
          subst hjm2
          have O3 := owns_of_row hrow2 hcl2 hct2 (by omega)
          have tr0 := T2.r0
          have tr1 := T2.r1
          have tr2 := T2.r2
          have tf0 := T2.f0
          have tf1 := T2.f1
          have tf2 := T2.f2
          have hst := st3 wr (w.heap.size + 1) (.int .i64 B) (.slice (some ⟨w.heap.size + 1 + 1, 0, none⟩) k k) (.slice (some ⟨wo.heap.size, 0, none⟩) j j) _ _ _ tr0 tr1 tr2
          simp only [] at hst
          obtain ⟨e0, e1, e2, hg8, hb8⟩ := hst
          have O2' := O2.kept hg8 (Or.inr (fun e => by have h9 := Option.some.inj e; simp only [] at h9; omega))
          have O3' := O3.kept hg8 (Or.inr (fun e => by have h9 := Option.some.inj e; simp only [] at h9; omega))
          have hB8 := T2.bel.trans (hb8.mono (by omega))
          clear hrow2 hcl2 hct2 hcur2 hpr O2 O3 O1 hg8 hb8
          go_wp2
          refine bodyPost_ret (v := .agg #[.int .i64 B, .slice (some ⟨w.heap.size + 1 + 1, 0, none⟩) k k, .slice (some ⟨wo.heap.size, 0, none⟩) j j]) (by simp [results, Try.results9, go_sem, e0, e1, e2]) rfl ⟨_, _, rfl, O2', O3', hB8⟩
end Go.Proofs.Qxb6612199a.LogP
