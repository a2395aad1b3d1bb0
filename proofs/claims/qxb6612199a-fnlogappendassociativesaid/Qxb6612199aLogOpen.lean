/-
  A LogIn that came in, opened.
-/
import Derived.Test.Qxb6612199aLogWalks5
import Derived.ProofKit
import Derived.OpenShut
import Derived.Lib.SmallJoins
import Derived.Deep.Strs
namespace Go.Proofs.Qxb6612199a.LogP
open Go.ChangeShapes Go.WideShapes Go.ChangeAt Go.RowKit Go.Joins Go.Deep

theorem cells25 : Try.prog.cellsOf 25 = 3 := by kernel_rfl
theorem cells36 : Try.prog.cellsOf 36 = 3 := by kernel_rfl
theorem cells37 : Try.prog.cellsOf 37 = 1 := by kernel_rfl
theorem cells5 : Try.prog.cellsOf 5 = 1 := by kernel_rfl
theorem cells3 : Try.prog.cellsOf 3 = 1 := by kernel_rfl

section
variable {H : Type} {enc : TypeId × Value → H} {w : World} {spare : Nat → Bool} {held : Bool}

theorem list3 {α : Type} {l : List α} (h : l.length = 3) : ∃ a b c, l = [a, b, c] := by
  match l, h with
  | [a, b, c], _ => exact ⟨a, b, c, rfl⟩

theorem ev_cells {n : Nat} {cs : List Value} {x : DataW H × List MemPlace} (h : DataW.trod enc Try.prog w 0 spare held n 36 cs = some x) : ∃ e : Int × Int × Int, cs = [.int .u8 e.1, .int .i64 e.2.1, .int .i64 e.2.2] := by
  obtain ⟨y0, y1, y2, m, _, hl, h0, h1, h2⟩ := trod_struct3 Try.underlying36 h
  rw [cells36] at hl
  obtain ⟨c0, c1, c2, rfl⟩ := list3 hl
  simp only [cells5, cells3] at h0 h1 h2
  obtain ⟨k, e0, _, _⟩ := DataW.trod_int Try.underlying5 h0
  obtain ⟨d, e1, _, _⟩ := DataW.trod_int Try.underlying3 h1
  obtain ⟨s, e2, _, _⟩ := DataW.trod_int Try.underlying3 h2
  simp at e0 e1 e2
  subst e0 e1 e2
  exact ⟨(k, d, s), rfl⟩

theorem evIn_of {fuel : Nat} {v : Value} {x : DataW H × List MemPlace} (h : DataW.trod enc Try.prog w 0 spare held fuel 22 [v] = some x) :
    ∃ a n c f, v = .slice a n c ∧ n ≤ maxLen ∧ EvIn w a n f ∧ (a = none → n = 0 ∧ c = 0) := by
  rcases open_slice Try.underlying22 h with ⟨hcs, _⟩ | ⟨a, len, cap, m, n, D, Pl, hcs, _, hl, hm, hmm, _, hx⟩
  · simp at hcs
    exact ⟨none, 0, 0, fun _ => ⟨0, 0, 0⟩, hcs, Nat.zero_le _, fun k hk => absurd hk (Nat.not_lt_zero _), fun _ => ⟨rfl, rfl⟩⟩
  · simp at hcs
    have hlm : len ≤ m := by rw [hmm]; split <;> omega
    rw [cells36] at hx
    obtain ⟨g, hg⟩ := choose_lt (n := m) (p := fun i (e : Int × Int × Int) => w.cells? 0 (a.add (i * 3)) 3 = some [.int .u8 e.1, .int .i64 e.2.1, .int .i64 e.2.2]) (fun i hi => by
      obtain ⟨cs', h1, h2⟩ := hx i hi
      obtain ⟨e, rfl⟩ := ev_cells h2
      exact ⟨e, h1⟩)
    refine ⟨some a, len, cap, fun k => ⟨(g k).1, (g k).2.1, (g k).2.2⟩, hcs, by omega, ?_, fun e => by cases e⟩
    intro k hk
    have h0 := (World.cells?_some (hg k (by omega))).2.2 0 (by omega)
    obtain ⟨b, off, spot⟩ := a
    have hs : spot = none := by
      have h00 := (World.cells?_some (hg 0 (by omega))).2.2 0 (by omega)
      have h0' : w.cell? (((⟨b, off, spot⟩ : Addr).add (0 * 3)).add 0) = some (.int .u8 (g 0).1) := h00
      simpa [Addr.add] using World.cell?_spot h0'
    subst hs
    refine ⟨b, off, rfl, ?_, ?_⟩
    · have h0' : w.cell? (((⟨b, off, none⟩ : Addr).add (k * 3)).add 0) = some (.int .u8 (g k).1) := h0
      have := World.block_lt_of_cell? w _ h0'
      rwa [add_block, add_block] at this
    · intro j hj
      have hc := (World.cells?_some (hg j (by omega))).2.2
      refine ⟨?_, ?_, ?_⟩
      · have := hc 0 (by omega); rw [add_lit, add_lit] at this; exact this
      · have := hc 1 (by omega); rw [add_lit, add_lit] at this; exact this
      · have := hc 2 (by omega); rw [add_lit, add_lit] at this; exact this

theorem prIn_of {fuel : Nat} {v : Value} {x : DataW H × List MemPlace} (h : DataW.trod enc Try.prog w 0 spare held fuel 23 [v] = some x) :
    ∃ a n c p, v = .slice a n c ∧ n ≤ maxLen ∧ PrIn w a n p ∧ (a = none → n = 0 ∧ c = 0) := by
  rcases open_slice1 Try.underlying23 cells37 h with ⟨hcs, _⟩ | ⟨a, len, cap, m, n, V, D, Pl, hcs, _, hl, hm, hmm, _, hx⟩
  · simp at hcs
    exact ⟨none, 0, 0, fun _ => 0, hcs, Nat.zero_le _, fun k hk => absurd hk (Nat.not_lt_zero _), fun _ => ⟨rfl, rfl⟩⟩
  · simp at hcs
    have hlm : len ≤ m := by rw [hmm]; split <;> omega
    obtain ⟨g, hg⟩ := choose_lt (n := m) (p := fun i (e : Int) => w.cell? (a.add i) = some (.int .u32 e)) (fun i hi => by
      obtain ⟨h1, h2⟩ := hx i hi
      obtain ⟨e, e0, _, _⟩ := DataW.trod_int Try.underlying37 h2
      simp at e0
      exact ⟨e, by rw [h1, e0]⟩)
    refine ⟨some a, len, cap, g, hcs, by omega, ?_, fun e => by cases e⟩
    intro k hk
    have h0 := hg k (by omega)
    obtain ⟨b, off, spot⟩ := a
    have hs : spot = none := by
      simpa [Addr.add] using World.cell?_spot (hg 0 (by omega))
    subst hs
    refine ⟨b, off, rfl, ?_, ?_⟩
    · have := World.block_lt_of_cell? w _ h0
      rwa [add_block] at this
    · intro j hj
      have := hg j (by omega)
      rw [add_lit] at this; exact this

theorem open_log {r : Reach} {b0 : Nat} {v : Value} {d : DataW H} {p : List MemPlace} (hv : Value.okWide Try.prog w r b0 25 v) (h : DataW.Trod enc Try.prog w 0 spare held 25 v d p) :
    ∃ B a1 n1 c1 a2 m1 k1 f q, v = .agg #[.int .i64 B, .slice a1 n1 c1, .slice a2 m1 k1] ∧ n1 ≤ maxLen ∧ m1 ≤ maxLen ∧ EvIn w a1 n1 f ∧ PrIn w a2 m1 q ∧ (a1 = none → n1 = 0 ∧ c1 = 0) ∧ (a2 = none → m1 = 0 ∧ k1 = 0) := by
  obtain ⟨v0, v1, v2, y0, y1, y2, n, rfl, _, _, t0, t1, t2⟩ := open_agg3 Try.underlying25 (by kernel_rfl) cells25 hv h
  obtain ⟨B, e0, _, _⟩ := DataW.trod_int Try.underlying3 t0
  simp at e0
  subst e0
  obtain ⟨a1, n1, c1, f, rfl, hl1, hE, hN1⟩ := evIn_of t1
  obtain ⟨a2, m1, k1, q, rfl, hl2, hP, hN2⟩ := prIn_of t2
  exact ⟨B, a1, n1, c1, a2, m1, k1, f, q, rfl, hl1, hl2, hE, hP, hN1, hN2⟩
end
end Go.Proofs.Qxb6612199a.LogP
