import Derived.Test.Qxb6612235aHeap
import Derived.Deep.RegionWith
namespace Go.Proofs.Qxb6612235a
open Go.RowKit Go.Maps HP

theorem newTable_walk (w : World) : Calls Try.prog 6 #[] w fun r w' => ∃ cur, r = .returned (.pointer (some ⟨w.heap.size + 1, 0, none⟩)) ∧ w' = (w.alloc (.map #[] 0)).alloc (.cells cur 56) ∧ cur[14]? = some (.slice none 0 0) ∧ cur[15]? = some (.map (some w.heap.size)) := by
  have hm : ∀ w : World, (Instr.makeMap 40 none).run Try.prog w = .ok (.map (some w.heap.size)) (w.alloc (.map #[] 0)) := fun _ => rfl
  go_enter Try.func6, Try.ntmps6
  go_wp2
  go_ret
  exact ⟨_, rfl, rfl, rfl, rfl⟩

theorem newNode_walk (w : World) (id : Int) (t : Bool) : Calls Try.prog 8 #[.int .u32 id, .bool t] w fun r w' => ∃ cur, r = .returned (.pointer (some ⟨w.heap.size, 0, none⟩)) ∧ w' = w.alloc (.cells cur 67) ∧ cur[0]? = some (.int .u32 id) ∧ cur[22]? = some (.bool t) := by
  go_enter Try.func8, Try.ntmps8
  go_wp2
  go_ret
  exact ⟨_, rfl, rfl, rfl, rfl⟩

/-- The new table. -/
theorem table_new {w w' : World} {cur : Array Value} (hw : w' = (w.alloc (.map #[] 0)).alloc (.cells cur 56)) (h14 : cur[14]? = some (.slice none 0 0)) (h15 : cur[15]? = some (.map (some w.heap.size))) (f : Nat → E) {b0 : Nat} (hb : b0 ≤ w.heap.size) :
    Qo w' b0 (w.heap.size + 1) w.heap.size 0 f none 0 ∧ Below b0 w w' := by
  have e1 : w'.heap[w.heap.size + 1]? = some (.cells cur 56 (0, 0)) := by
    rw [hw]
    have := heap_alloc_new (w.alloc (.map #[] 0)) (.cells cur 56)
    simpa using this
  have e0 : w'.heap[w.heap.size]? = some (.map #[] 0) := by
    rw [hw, heap_alloc_old _ _ (by simp)]
    exact heap_alloc_new w _
  refine ⟨⟨?_, ?_, ?_, ⟨by simp [rowOf], .inl ⟨rfl, rfl⟩⟩, ?_, fun k hk => by omega, by omega, by simp [Value.ownBlock], by simp [Value.ownBlock], by omega, hb, by omega⟩, ?_⟩
  · simp [World.cell?, e1, h14]
  · simp [World.cell?, e1, h15]
  · simp [World.frozen?, e1]
  · refine ⟨.map [], ?_, ⟨rfl, fun k hk => by omega, fun a ha => by simp [Maps.has] at ha⟩⟩
    have h0 := (World.ownsMap_made (H := Unit) w Try.prog 45 (plainElem Try.prog 3)).alloc (.cells cur 56)
    rw [hw]; exact h0
  · rw [hw]; exact ((Below.refl _ _).alloc hb _).alloc (by simp; omega) _

/-- PushTTL. -/
theorem pushTTL_walk {w : World} {b0 b m n cap : Nat} {p : Option Addr} {f : Nat → E} (h : Qo w b0 b m n f p cap) (hn : n < 8192) {e : E} {S : E → Prop} (hf : ∀ x, S x → x.id ≠ e.id) (hw : (Lit.int .u32 e.id).wf = true) (hH : Heap f n) (hC : Con S f n) :
    Calls Try.prog 7 #[.pointer (some ⟨b, 0, none⟩), .int .u32 e.id, .int .i64 e.ttl, .int .i64 e.dl] w fun r w' => r = .returned (.tuple #[]) ∧ (∃ g' cap' f', Qu w' b0 b m g' cap' (n + 1) f' ∧ Heap f' (n + 1) ∧ Con (fun x => S x ∨ x = e) f' (n + 1)) ∧ Below b0 w w' := by
  have hP := heapPush_walk h hn hf hw hH hC
  clear h hf hH hC
  go_enter Try.func7, Try.ntmps7
  go_wp2_with fail
  refine hP.mono ?_
  rintro r w1 ⟨rfl, hQ, hB⟩
  go_wp2_with fail
  go_end0
  exact ⟨rfl, hQ, hB⟩

theorem nodeTTL_walk {w : World} {k : Nat} {t : Bool} (h : w.cell? ⟨k, 22, none⟩ = some (.bool t)) : Calls Try.prog 10 #[.pointer (some ⟨k, 0, none⟩)] w fun r w' => r = .returned (.bool t) ∧ w' = w := by
  go_enter Try.func10, Try.ntmps10
  go_wp2
  go_ret
  exact ⟨rfl, rfl⟩
theorem ttlLen_walk {w : World} {b n cap : Nat} {p : Option Addr} (h : w.cell? ⟨b, 14, none⟩ = some (.slice p n cap)) : Calls Try.prog 11 #[.pointer (some ⟨b, 0, none⟩)] w fun r w' => r = .returned (.int .i64 n) ∧ w' = w := by
  go_enter Try.func11, Try.ntmps11
  go_wp2
  go_ret
  exact ⟨rfl, rfl⟩
theorem ttlPlaces_walk {w : World} {b m n : Nat} (h : w.cell? ⟨b, 15, none⟩ = some (.map (some m))) {D : DataW Unit} (hD : w.ownsMap Try.prog 45 (plainElem Try.prog 3) m n D) : Calls Try.prog 12 #[.pointer (some ⟨b, 0, none⟩)] w fun r w' => r = .returned (.int .i64 (Maps.size D)) ∧ w' = w := by
  have hL := fun ty => hD.len Try.underlying40 ty
  go_enter Try.func12, Try.ntmps12
  go_wp2
  go_ret
  exact ⟨rfl, rfl⟩

/-- The place of an entry, looked up. -/
theorem place_run {w : World} {m n : Nat} {D : DataW Unit} (hD : w.ownsMap Try.prog 45 (plainElem Try.prog 3) m n D) {a : Int} (ha : (Lit.int .u32 a).wf = true) {z : Int} (hz : D.atKey (.int .u32 a) (.lit (.int .i64 0)) = .lit (.int .i64 z)) :
    (Instr.lookup 40 (.map (some m)) (.int .u32 a) true).run Try.prog w = .ok (.tuple #[.int .i64 z, .bool (Maps.has D (.int .u32 a))]) w := by
  obtain ⟨v, ps, hr, hv⟩ := hD.look_ok law45 Try.underlying40 (zero3 w) (plainElem_int Try.underlying3 (by decide)) (keyOf_int_mk Try.underlying45 ha)
  obtain ⟨y, rfl, e, _⟩ := plainElem_int_inv Try.underlying3 hv
  have e2 := (Prod.mk.inj e).1
  rw [hz] at e2
  cases e2
  exact hr
theorem ttlPlace_walk {w : World} {b m n : Nat} (h : w.cell? ⟨b, 15, none⟩ = some (.map (some m))) {D : DataW Unit} (hD : w.ownsMap Try.prog 45 (plainElem Try.prog 3) m n D) {a : Int} (ha : (Lit.int .u32 a).wf = true) {z : Int} (hz : D.atKey (.int .u32 a) (.lit (.int .i64 0)) = .lit (.int .i64 z)) {v : Bool} (hv : Maps.has D (.int .u32 a) = v) :
    Calls Try.prog 13 #[.pointer (some ⟨b, 0, none⟩), .int .u32 a] w fun r w' => r = .returned (.tuple #[.int .i64 z, .bool v]) ∧ w' = w := by
  have hL := place_run hD ha hz
  rw [hv] at hL
  go_enter Try.func13, Try.ntmps13
  go_wp2
  refine bodyPost_ret (v := .tuple #[.int .i64 z, .bool v]) (by simp [results, Try.results13, go_sem]) rfl ⟨rfl, rfl⟩
theorem ttlAt_walk {w : World} {b0 b m g cap n : Nat} {f : Nat → E} (h : Qu w b0 b m g cap n f) {k : Nat} (hk : k < n) :
    Calls Try.prog 14 #[.pointer (some ⟨b, 0, none⟩), .int .i64 k] w fun r w' => r = .returned (.tuple #[.int .u32 (f k).id, .int .i64 (f k).ttl, .int .i64 (f k).dl]) ∧ ∃ o, w' = (w.alloc o).drew := by
  have c0 := h.cE
  obtain ⟨i0, i1, i2⟩ := h.row.cells hk
  have n4 := h.n4
  go_enter Try.func14, Try.ntmps14
  go_wp2
  go_region
  go_wp2
  refine bodyPost_ret (v := .tuple #[.int .u32 (f k).id, .int .i64 (f k).ttl, .int .i64 (f k).dl]) (by simp [results, Try.results14, go_sem]) rfl ⟨rfl, _, rfl⟩
end Go.Proofs.Qxb6612235a
