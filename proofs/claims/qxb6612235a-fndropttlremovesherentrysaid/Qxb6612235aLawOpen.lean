import Derived.Test.Qxb6612235aDist
namespace Go.Proofs.Qxb6612235a
open Go.RowKit Go.Maps HP

theorem Qo.qu {w : World} {b0 b m n cap : Nat} {p : Option Addr} {f : Nat → E} (h : Qo w b0 b m n f p cap) (hn : 0 < n) : ∃ g, p = some ⟨g, 0, none⟩ ∧ Qu w b0 b m g cap n f := by
  obtain ⟨g, cap', hv, hb, hR⟩ := Row.of_owns h.own (fun e => by simp at e; omega)
  have hv' := hv
  injection hv' with e1 e2 e3
  subst e1 e3
  exact ⟨g, rfl, h.cE, h.cM, h.fE, hR, h.map, h.wf, h.bm, by have := h.bg; simpa [Value.ownBlock] using this, by have := h.mg; simpa [Value.ownBlock] using this, h.lb, h.lm, hb, h.n4⟩
theorem Qo.drew {w : World} {b0 b m n cap : Nat} {p : Option Addr} {f : Nat → E} (h : Qo w b0 b m n f p cap) : Qo w.drew b0 b m n f p cap :=
  ⟨h.cE, h.cM, h.fE, h.own, h.map, h.wf, h.bm, h.bg, h.mg, h.lb, h.lm, h.n4⟩
theorem Qo.alloc {w : World} {b0 b m n cap : Nat} {p : Option Addr} {f : Nat → E} (h : Qo w b0 b m n f p cap) (o : Obj) : Qo (w.alloc o) b0 b m n f p cap := by
  have eb : (w.alloc o).heap[b]? = w.heap[b]? := heap_alloc_old _ _ (cell_lt h.cE)
  obtain ⟨D, hD, hX⟩ := h.map
  exact ⟨(cell_kept eb 14).trans h.cE, (cell_kept eb 15).trans h.cM, (frozen_kept eb 14).trans h.fE, own_kept h.own (fun k hk => heap_alloc_old _ _ (h.own.lt k hk).2), ⟨D, hD.alloc _, hX⟩, h.wf, h.bm, h.bg, h.mg, h.lb, h.lm, h.n4⟩
theorem Qo.size {w : World} {b0 b m n cap : Nat} {p : Option Addr} {f : Nat → E} (h : Qo w b0 b m n f p cap) : b0 ≤ w.heap.size := by
  have := cell_lt h.cE; have := h.lb; omega

/-- What DropTTL leaves. -/
def Dropped (w : World) (b0 b m n k : Nat) (S : E → Prop) (id : Int) (t : Bool) (w' : World) : Prop :=
  (∃ W f' p' cap', (t = true → W + 1 = n) ∧ (t = false → W = n) ∧ Qo w' b0 b m W f' p' cap' ∧ Heap f' W ∧ Con (fun x => S x ∧ (t = true → x.id ≠ id)) f' W) ∧ Below b0 w w' ∧ w'.cell? ⟨k, 22, none⟩ = some (.bool false)

theorem drop_any {w : World} {b0 b m n cap k : Nat} {p : Option Addr} {f : Nat → E} (h : Qo w b0 b m n f p cap) {S : E → Prop} (hH : Heap f n) (hC : Con S f n) {id : Int} {t : Bool} (ht : t = true → ∃ x, S x ∧ x.id = id)
    (hk : b0 ≤ k) (hkb : k ≠ b) (hkm : k ≠ m) (hkg : some k ≠ (Value.slice p n cap).ownBlock) (h0 : w.cell? ⟨k, 0, none⟩ = some (.int .u32 id)) (h22 : w.cell? ⟨k, 22, none⟩ = some (.bool t)) (hfz : w.frozen? ⟨k, 22, none⟩ = false) :
    Calls Try.prog 9 #[.pointer (some ⟨b, 0, none⟩), .pointer (some ⟨k, 0, none⟩)] w fun r w' => r = .returned (.tuple #[]) ∧ Dropped w b0 b m n k S id t w' := by
  have hD : Calls Try.prog 16 #[.pointer (some ⟨b, 0, none⟩), .pointer (some ⟨k, 0, none⟩)] w fun r w' => r = .returned (.tuple #[]) ∧ Dropped w b0 b m n k S id t w' := by
    cases t
    · refine (drop_false h22).mono ?_
      rintro r w' ⟨rfl, e⟩
      have e' := e.symm
      subst e'
      have hC' : Con (fun x => S x ∧ (false = true → x.id ≠ id)) f n := by
        have e : (fun x => S x ∧ (false = true → x.id ≠ id)) = S := by funext x; simp
        rw [e]; exact hC
      exact ⟨rfl, ⟨n, f, p, cap, (fun e => nomatch e), fun _ => rfl, h, hH, hC'⟩, Below.refl _ _, h22⟩
    · obtain ⟨x, hx, rfl⟩ := ht rfl
      obtain ⟨i, hi, rfl⟩ := hC.2.1 x hx
      obtain ⟨N, rfl⟩ : ∃ N, n = N + 1 := ⟨n - 1, by omega⟩
      obtain ⟨g, rfl, hQ⟩ := h.qu (by omega)
      refine (drop_true hQ hH hC hi hk hkb hkm (by simpa [Value.ownBlock] using hkg) h0 h22 hfz).mono ?_
      rintro r w' ⟨rfl, ⟨f', q1, q2, q3⟩, q4, q5⟩
      have hC' : Con (fun x => S x ∧ (true = true → x.id ≠ (f i).id)) f' N := by
        have e : (fun x => S x ∧ (true = true → x.id ≠ (f i).id)) = (fun x => S x ∧ x.id ≠ (f i).id) := by funext x; simp
        rw [e]; exact q3
      exact ⟨rfl, ⟨N, f', _, _, fun _ => rfl, (fun e => nomatch e), q1.qo, q2, hC'⟩, q4, q5⟩
  clear h hH hC ht h0 h22 hfz
  go_enter Try.func9, Try.ntmps9
  go_wp2_with fail
  refine hD.mono ?_
  rintro r w' ⟨rfl, hP⟩
  go_wp2_with fail
  go_end0
  exact ⟨rfl, hP⟩
end Go.Proofs.Qxb6612235a
