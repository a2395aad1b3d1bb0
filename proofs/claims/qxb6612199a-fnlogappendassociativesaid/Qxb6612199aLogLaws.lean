/-
  Laws for 'make([]T, n, c)', 'copy' and 'append' on rows of elements of more than one cell; nothing of the dump.
-/
import Derived.Test.Qxb6612199aLogPlain
import Derived.Laws.CopyRow
namespace Go.Proofs.Qxb6612199a.LogP
open Go.RowKit

/-- 'make([]T, n, c)', both sizes variables: n zero elements are owned, there is room for c. -/
theorem wpList_make_len {P : Program} (w : World) {ops : Array Oper} {rest : List Oper} {o : Oper} {a : Act} {Q : Exit → Act → World → Prop}
    (hg : o.guard = none) (l c : Operand) (t : TypeId) (hop : o.op = Op.makeSlice t l c)
    (base : Nat) (e : TypeId) (i : TypeInfo) (z : Value) (size bytes : Nat) (h1 : P.underlying t = some (.slice e)) (h2 : P.info? e = some i) (h3 : i.zero = some z) (h4 : i.size = size) (h5 : i.bytes = bytes)
    (kl kc : IntKind) (C : Int) (n : Nat) (hl : a.eval l = .int kl (n : Int)) (hc : a.eval c = .int kc C) (hC : (n : Int) ≤ C) (hC2 : C ≤ 33554432) (b2 : bytes ≤ 64) (b4 : base ≤ w.heap.size)
    (hK : ∀ (cc : Nat) w' ys, (cc : Int) = C → w'.ownsRow base e size (.slice (some ⟨w.heap.size, 0, none⟩) n cc) n ys → w.grownBy w' none → wpList P ops Q rest (a.put o.dst (.slice (some ⟨w.heap.size, 0, none⟩) n cc)) w') :
    wpList P ops Q (o :: rest) a w := by
  subst h4
  refine wpList_plain hg fun K hK' => ?_
  obtain ⟨cc, hcc⟩ : ∃ cc : Nat, (cc : Int) = C := ⟨C.toNat, by omega⟩
  have hb : (i.bytes : Int) * C ≤ 281474976710656 := by
    have : i.bytes * cc ≤ 64 * 33554432 := Nat.mul_le_mul (by omega) (by omega)
    have h' : ((i.bytes * cc : Nat) : Int) ≤ 281474976710656 := by omega
    rw [Int.natCast_mul, hcc] at h'
    exact h'
  have hrun := run_make (P := P) w t e i z h1 h2 h3 kl kc (n : Int) C (by omega) hC hb (by omega)
  have e1 : (n : Int).toNat = n := by omega
  have e2 : C.toNat = cc := by omega
  rw [e1, e2] at hrun
  unfold Oper.wp
  simp [execOp, hop, hl, hc, hrun, Result.andThen]
  refine hK' _ _ (hK cc _ ((madeCells z.cells (cc * i.size)).toList.take (n * i.size)) hcc ⟨?_, Or.inr ⟨w.heap.size, cc, _, rfl, b4, heap_alloc_new w _, by omega, by simp only [maxLen]; omega, size_madeCells _ _, rfl⟩⟩ (World.grownBy_alloc w _ none))
  rw [List.length_take, Array.length_toList, size_madeCells]
  exact Nat.min_eq_left (Nat.mul_le_mul_right _ (by omega))

theorem run_copy_big {P : Program} (w : World) (dT sT ty elem : TypeId) (i : TypeInfo) (g dLen dCap : Nat) (a : Addr) (sCap : Nat) (cur : Array Value) (t : TypeId) (cs : List Value)
    (hu : P.underlying dT = some (.slice elem)) (hi : P.info? elem = some i)
    (hg : w.heap[g]? = some (.cells cur t (0, 0))) (hn : cs.length = dLen * i.size)
    (hsrc : ∀ j v, cs[j]? = some v → w.cell? (a.add j) = some v) (hfit : cs.length ≤ cur.size) (h1 : ∀ v ∈ cs, v.oneCell' = true) :
    (Builtin.copy_ #[dT, sT] ty #[.slice (some ⟨g, 0, none⟩) dLen dCap, .slice (some a) dLen sCap]).run P w =
      .ok (goInt dLen) (w.setRow g (cs ++ cur.toList.drop cs.length).toArray) := by
  have hl := run_firstCells_some (P := P) w i.size dLen a dLen sCap cs hn hsrc
  have hst := run_storeCells_at P g 0 t cs 0 cur w hg (by simpa using hfit) h1
  have hm : Nat.min dLen dLen = dLen := Nat.min_self dLen
  simp [Builtin.copy_, run_underlying hu, Builtin.lenOf, sizeOf, typeInfo, hi, hm, hl, hst]

/-- 'copy(dst, src)': dst an owned row of n elements, src n elements. -/
theorem run_copy_all {P : Program} (w : World) (t ty : TypeId) (base : Nat) (e : TypeId) (i : TypeInfo) (size : Nat) (h1 : P.underlying t = some (.slice e)) (h2 : P.info? e = some i) (h4 : i.size = size)
    (g n cap : Nat) (ys : List Value) (hown : w.ownsRow base e size (.slice (some ⟨g, 0, none⟩) n cap) n ys)
    (ad : Addr) (sCap : Nat) (xs : List Value) (hn : xs.length = n * size)
    (hsrc : ∀ j v, xs[j]? = some v → w.cell? (ad.add j) = some v) (hone : ∀ v ∈ xs, v.oneCell' = true) :
    ∃ w', (Builtin.copy_ #[t, t] ty #[.slice (some ⟨g, 0, none⟩) n cap, .slice (some ad) n sCap]).run P w = .ok (.int .i64 n) w' ∧ w'.ownsRow base e size (.slice (some ⟨g, 0, none⟩) n cap) n xs ∧ w.grownBy w' (some g) := by
  subst h4
  rcases hown.2 with ⟨h0, _⟩ | ⟨g', cap', cur, hv, hbg, hg, hnc, hcm, hcs, htake⟩
  · cases h0
  · cases hv
    have hfit : xs.length ≤ cur.size := by rw [hn, hcs]; exact Nat.mul_le_mul_right _ hnc
    have hrun := run_copy_big (P := P) w t t ty e i g n cap ad sCap cur e xs h1 h2 hg hn hsrc hfit hone
    refine ⟨_, hrun, ⟨hn, Or.inr ⟨g, cap, _, rfl, hbg, setRow_heap w g cur _ e _ hg, hnc, hcm, ?_, ?_⟩⟩, ⟨rfl, rfl, rfl, by simp [World.setRow], fun k _ hk => setRow_other w g k _ (fun e => hk (by simp [e]))⟩⟩
    · simp only [List.size_toArray, List.length_append, List.length_drop, Array.length_toList]
      omega
    · rw [← hn]
      exact List.take_left

/-- 'append(s, tail...)' with room, nothing to append: nothing turns. -/
theorem wpList_append_zero {P : Program} (w : World) {ops : Array Oper} {rest : List Oper} {o : Oper} {a : Act} {Q : Exit → Act → World → Prop} (hgd : o.guard = none) (s x : Operand) (t : TypeId)
    (ho : o.op = .call { callee := .builtin .append, args := #[s, x], argTypes := #[t, t] })
    (base : Nat) (e : TypeId) (i : TypeInfo) (size : Nat) (h1 : P.underlying t = some (.slice e)) (h2 : P.info? e = some i) (h4 : i.size = size)
    (g n cap : Nat) (xs : List Value) (hs : a.eval s = .slice (some ⟨g, 0, none⟩) n cap) (hown : w.ownsRow base e size (.slice (some ⟨g, 0, none⟩) n cap) n xs)
    (ad : Addr) (c : Nat) (hx : a.eval x = .slice (some ad) 0 c)
    (hK : wpList P ops Q rest (a.put o.dst (.slice (some ⟨g, 0, none⟩) n cap)) w) :
    wpList P ops Q (o :: rest) a w := by
  subst h4
  refine wpList_plain hgd fun K hK' => ?_
  rcases hown.2 with ⟨h0, _⟩ | ⟨g', cap', cur, hv, hbg, hg, hnc, hcm, hcs, htake⟩
  · cases h0
  · cases hv
    have hfit : n * i.size + ([] : List Value).length ≤ cur.size := by rw [hcs]; simpa using Nat.mul_le_mul_right _ hnc
    have hrun := run_append_room (P := P) w t o.type e i h1 h2 g n cap cur hg ad 0 c [] (by simp) (by simp) (by simp) (by omega) hfit
    have e1 : (List.take (n * i.size) cur.toList ++ [] ++ List.drop (n * i.size + ([] : List Value).length) cur.toList).toArray = cur := by simp
    rw [e1, setRow_self w g cur e (0, 0) hg] at hrun
    unfold Oper.wp
    simp [execOp, ho, resolve, invoke, builtin, hs, hx, hrun, Result.andThen]
    exact hK' _ _ hK

theorem grownBy_trans_new {w w1 w2 : World} {row : Option Nat} (h1 : w.grownBy w1 none) (h2 : w1.grownBy w2 row) (hr : ∀ k, row = some k → w.heap.size ≤ k) : w.grownBy w2 none :=
  ⟨h2.os.trans h1.os, h2.tape.trans h1.tape, h2.output.trans h1.output, Nat.le_trans h1.size h2.size, fun k hk _ =>
    (h2.block k (Nat.lt_of_lt_of_le hk h1.size) (fun e => by have := hr k e.symm; omega)).trans (h1.block k hk (by simp))⟩

end Go.Proofs.Qxb6612199a.LogP
