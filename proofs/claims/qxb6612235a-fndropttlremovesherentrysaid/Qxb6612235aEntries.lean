import Derived.Test.Qxb6612235aLaw
import Derived.ProofKit
import Derived.OpenShut
import Derived.Deep.Strs
namespace Go.Proofs.Qxb6612235a
open Go.ChangeShapes Go.WideShapes Go.ChangeAt Go.RowKit Go.Deep HP

set_option maxRecDepth 100000 in
theorem law_any {w : World} {a : Option Addr} {n cap : Nat} {h : Nat → E} (hE : EIn w a n h) (hwf : ∀ k, k < n → (Lit.int .u32 (h k).id).wf = true) {id : Int} (t : Bool) (hn : n ≤ 9223372036854775807) :
    Calls Try.prog 3 #[.slice a n cap, .int .u32 id, .bool t] w fun r w' => r = .returned (.bool true) ∧ Below w.heap.size w w' := by
  by_cases h4 : n ≤ 4096
  · exact law_main hE hwf t h4
  · have hZ := zzBytes_walk w a n cap hn id t
    clear hE hwf
    by_cases h20 : n ≤ 1048576
    · rw [decide_eq_true h20] at hZ
      go_enter Try.func3, Try.ntmps3
      go_wp2_with fail
      refine hZ.mono ?_
      rintro r w0 ⟨rfl, e0⟩
      have e0' := e0.symm
      subst e0'
      go_wp2_with fail
      go_ret
      exact ⟨rfl, Below.refl _ _⟩
    · rw [decide_eq_false h20] at hZ
      go_enter Try.func3, Try.ntmps3
      go_wp2_with fail
      refine hZ.mono ?_
      rintro r w0 ⟨rfl, e0⟩
      have e0' := e0.symm
      subst e0'
      go_wp2_with fail
      go_ret
      exact ⟨rfl, Below.refl _ _⟩

theorem cells27 : Try.prog.cellsOf 27 = 3 := by kernel_rfl
theorem cells23 : Try.prog.cellsOf 23 = 1 := by kernel_rfl
theorem cells2 : Try.prog.cellsOf 2 = 1 := by kernel_rfl
theorem add_lit (b off j : Nat) : (⟨b, off, none⟩ : Addr).add j = ⟨b, off + j, none⟩ := by simp [Addr.add]
theorem add_block (a : Addr) (j : Nat) : (a.add j).block = a.block := by unfold Addr.add; split <;> rfl
theorem list3 {α : Type} {l : List α} (h : l.length = 3) : ∃ a b c, l = [a, b, c] := by
  match l, h with
  | [a, b, c], _ => exact ⟨a, b, c, rfl⟩

section
variable {H : Type} {enc : TypeId × Value → H} {w : World} {spare : Nat → Bool} {held : Bool}
theorem entry_cells {n : Nat} {cs : List Value} {x : DataW H × List MemPlace} (h : DataW.trod enc Try.prog w 0 spare held n 27 cs = some x) : ∃ e : E, cs = [.int .u32 e.id, .int .i64 e.ttl, .int .i64 e.dl] ∧ (Lit.int .u32 e.id).wf = true := by
  obtain ⟨y0, y1, y2, m, _, hl, h0, h1, h2⟩ := trod_struct3 Try.underlying27 h
  rw [cells27] at hl
  obtain ⟨c0, c1, c2, rfl⟩ := list3 hl
  simp only [cells23, cells2] at h0 h1 h2
  obtain ⟨k, e0, _, hw⟩ := DataW.trod_int Try.underlying23 h0
  obtain ⟨d, e1, _, _⟩ := DataW.trod_int Try.underlying2 h1
  obtain ⟨s, e2, _, _⟩ := DataW.trod_int Try.underlying2 h2
  simp at e0 e1 e2
  subst e0 e1 e2
  exact ⟨⟨k, d, s⟩, rfl, hw⟩
theorem open_entries {r : Reach} {b0 : Nat} {v : Value} {d : DataW H} {p : List MemPlace} (hv : Value.okWide Try.prog w r b0 22 v) (h : DataW.Trod enc Try.prog w 0 spare held 22 v d p) :
    ∃ a n c f, v = .slice a n c ∧ n ≤ maxLen ∧ EIn w a n f ∧ ∀ k, k < n → (Lit.int .u32 (f k).id).wf = true := by
  obtain ⟨a0, n0, c0, rfl⟩ := okWide_slice Try.underlying22 hv
  obtain ⟨fuel, h⟩ := h
  rcases open_slice Try.underlying22 h with ⟨hcs, _⟩ | ⟨a, len, cap, m, n, D, Pl, hcs, _, hl, hm, hmm, _, hx⟩
  · simp [Value.cells] at hcs
    obtain ⟨rfl, rfl, rfl⟩ := hcs
    exact ⟨none, 0, 0, fun _ => ⟨0, 0, 0⟩, rfl, Nat.zero_le _, fun k hk => absurd hk (Nat.not_lt_zero _), fun k hk => absurd hk (Nat.not_lt_zero _)⟩
  · simp [Value.cells] at hcs
    obtain ⟨rfl, rfl, rfl⟩ := hcs
    have hlm : n0 ≤ m := by rw [hmm]; split <;> omega
    rw [cells27] at hx
    haveI : Inhabited E := ⟨⟨0, 0, 0⟩⟩
    obtain ⟨g, hg⟩ := choose_lt (n := m) (p := fun i (e : E) => w.cells? 0 (a.add (i * 3)) 3 = some [.int .u32 e.id, .int .i64 e.ttl, .int .i64 e.dl] ∧ (Lit.int .u32 e.id).wf = true) (fun i hi => by
      obtain ⟨cs', h1, h2⟩ := hx i hi
      obtain ⟨e, rfl, hw⟩ := entry_cells h2
      exact ⟨e, h1, hw⟩)
    refine ⟨some a, n0, c0, g, rfl, by omega, ?_, fun k hk => (hg k (by omega)).2⟩
    intro k hk
    have h0 := (World.cells?_some (hg k (by omega)).1).2.2 0 (by omega)
    obtain ⟨b, off, spot⟩ := a
    have hs : spot = none := by
      have h00 := (World.cells?_some (hg 0 (by omega)).1).2.2 0 (by omega)
      have h0' : w.cell? (((⟨b, off, spot⟩ : Addr).add (0 * 3)).add 0) = some (.int .u32 (g 0).id) := h00
      simpa [Addr.add] using World.cell?_spot h0'
    subst hs
    refine ⟨b, off, rfl, ?_, ?_⟩
    · have h0' : w.cell? (((⟨b, off, none⟩ : Addr).add (k * 3)).add 0) = some (.int .u32 (g k).id) := h0
      have := World.block_lt_of_cell? w _ h0'
      rwa [add_block, add_block] at this
    · intro j hj
      have hc := (World.cells?_some (hg j (by omega)).1).2.2
      refine ⟨?_, ?_, ?_⟩
      · have := hc 0 (by omega); rw [add_lit, add_lit] at this; exact this
      · have := hc 1 (by omega); rw [add_lit, add_lit] at this; exact this
      · have := hc 2 (by omega); rw [add_lit, add_lit] at this; exact this
end
end Go.Proofs.Qxb6612235a
