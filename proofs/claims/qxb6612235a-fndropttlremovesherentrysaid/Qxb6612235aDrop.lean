import Derived.Test.Qxb6612235aSmall
namespace Go.Proofs.Qxb6612235a
open Go.RowKit Go.Maps HP

theorem zzBytes_walk (w : World) (p : Option Addr) (n cap : Nat) (hn : n ≤ 9223372036854775807) (id : Int) (t : Bool) :
    Calls Try.prog 4 #[.slice p n cap, .int .u32 id, .bool t] w fun r w' => r = .returned (.bool (decide (n ≤ 1048576))) ∧ w' = w := by
  by_cases h : n ≤ 1048576
  · go_enter Try.func4, Try.ntmps4
    go_wp2
    go_ret
    exact ⟨by simp [h], rfl⟩
  · go_enter Try.func4, Try.ntmps4
    go_wp2
    go_ret
    exact ⟨by simp [h], rfl⟩

theorem Qu.setCell {w : World} {b0 b m g cap n : Nat} {f : Nat → E} (h : Qu w b0 b m g cap n f) {k : Nat} (hb : k ≠ b) (hm : k ≠ m) (hg : k ≠ g) (o : Nat) (u : Value) : Qu (w.setCell ⟨k, o, none⟩ u) b0 b m g cap n f := by
  have eb : (w.setCell ⟨k, o, none⟩ u).heap[b]? = w.heap[b]? := heap_setCell_other _ _ _ _ (Ne.symm hb)
  have eg : (w.setCell ⟨k, o, none⟩ u).heap[g]? = w.heap[g]? := heap_setCell_other _ _ _ _ (Ne.symm hg)
  obtain ⟨D, hD, hX⟩ := h.map
  exact ⟨(cell_kept eb 14).trans h.cE, (cell_kept eb 15).trans h.cM, (frozen_kept eb 14).trans h.fE, h.row.kept eg, ⟨D, hD.setCell (Ne.symm hm) _, hX⟩, h.wf, h.bm, h.bg, h.mg, h.lb, h.lm, h.lg, h.n4⟩

theorem drop_false {w : World} {b k : Nat} (h : w.cell? ⟨k, 22, none⟩ = some (.bool false)) : Calls Try.prog 16 #[.pointer (some ⟨b, 0, none⟩), .pointer (some ⟨k, 0, none⟩)] w fun r w' => r = .returned (.tuple #[]) ∧ w' = w := by
  go_enter Try.func16, Try.ntmps16
  go_wp2
  go_end0
  exact ⟨rfl, rfl⟩

set_option maxHeartbeats 4000000 in
theorem drop_true {w : World} {b0 b m g cap n : Nat} {f : Nat → E} (h : Qu w b0 b m g cap (n + 1) f) {S : E → Prop} (hH : Heap f (n + 1)) (hC : Con S f (n + 1)) {i k : Nat} (hi : i < n + 1) (hk : b0 ≤ k) (hkb : k ≠ b) (hkm : k ≠ m) (hkg : k ≠ g)
    (h0 : w.cell? ⟨k, 0, none⟩ = some (.int .u32 (f i).id)) (h22 : w.cell? ⟨k, 22, none⟩ = some (.bool true)) (hfz : w.frozen? ⟨k, 22, none⟩ = false) :
    Calls Try.prog 16 #[.pointer (some ⟨b, 0, none⟩), .pointer (some ⟨k, 0, none⟩)] w fun r w' => r = .returned (.tuple #[]) ∧ (∃ f', Qu w' b0 b m g cap n f' ∧ Heap f' n ∧ Con (fun x => S x ∧ x.id ≠ (f i).id) f' n) ∧ Below b0 w w' ∧ w'.cell? ⟨k, 22, none⟩ = some (.bool false) := by
  have c1 := h.cM
  have c1d : w.drew.cell? ⟨b, 15, none⟩ = some (.map (some m)) := c1
  have h0d : w.drew.cell? ⟨k, 0, none⟩ = some (.int .u32 (f i).id) := h0
  obtain ⟨D, hD, hX⟩ := h.map
  have hL : (Instr.lookup 40 (.map (some m)) (.int .u32 (f i).id) false).run Try.prog w.drew = .ok (.int .i64 i) w.drew := by
    have h1 := World.ownsMap.lookup_int (w := w.drew) hD.drew law45 Try.underlying40 Try.underlying3 (zero3 _) (keyOf_int_mk Try.underlying45 (h.wf i hi))
    obtain ⟨c, hr, hat, _⟩ := h1
    rw [(hX.2.1 i hi).2] at hat
    cases hat
    exact hr
  have hR := remove_walk h.drew hi hH hC
  have HW : Hid (∀ w1, Removed w.drew b0 b m g cap n S (f i).id w1 → (w1.cell? ⟨k, 22, none⟩ = some (.bool true) ∧ w1.frozen? ⟨k, 22, none⟩ = false) ∧ ((∃ f', Qu (w1.setCell ⟨k, 22, none⟩ (.bool false)) b0 b m g cap n f' ∧ Heap f' n ∧ Con (fun x => S x ∧ x.id ≠ (f i).id) f' n) ∧ Below b0 w (w1.setCell ⟨k, 22, none⟩ (.bool false)))) := by
    rintro w1 ⟨f', q1, q2, q3, q4⟩
    have ek : w1.heap[k]? = w.heap[k]? := q4.block k (cell_lt h0) hkb hkm hkg
    refine ⟨⟨(cell_kept ek 22).trans h22, (frozen_kept ek 22).trans hfz⟩, ⟨f', q1.setCell hkb hkm hkg _ _, q2, q3⟩, ?_⟩
    have hB : Below b0 w w1 := ((Below.refl _ _).drew).trans (h.drew.below q4)
    exact hB.setCell hk _
  clear hD hX hH hC h
  go_enter Try.func16, Try.ntmps16
  go_wp2_with fail
  go_region_with (go_at_call 18; refine hR.mono ?_; rintro r w1 ⟨⟨v, rfl⟩, hRm⟩)
  all_goals
    obtain ⟨⟨t1, t2⟩, t3, t4⟩ := HW.out w1 hRm
    have HT : Hid ((∃ f', Qu (w1.setCell ⟨k, 22, none⟩ (.bool false)) b0 b m g cap n f' ∧ Heap f' n ∧ Con (fun x => S x ∧ x.id ≠ (f i).id) f' n) ∧ Below b0 w (w1.setCell ⟨k, 22, none⟩ (.bool false))) := ⟨t3, t4⟩
    clear t3 t4 hRm HW hR hL
    go_wp2
    go_end0
    exact ⟨rfl, HT.out.1, HT.out.2, by go_simp⟩
end Go.Proofs.Qxb6612235a
