/-
  The plain half of the two laws on logs: rows of cells, counts, joined sequences; nothing of the dump.
-/
import Derived.WalkKit
namespace Go.Proofs.Qxb6612199a.LogP

/-- One event in plain data. -/
structure E where
  kd : Int
  nd : Int
  st : Int

/-- The cells of one event, one carried entry, one prior. -/
def evc (f : Nat → E) (k : Nat) : List Value := [.int .u8 (f k).kd, .int .i64 (f k).nd, .int .i64 (f k).st]
def cac (p : Nat → Int) (k : Nat) : List Value := [.int .u32 (p k), .nilIface]
def prc (p : Nat → Int) (k : Nat) : List Value := [.int .u32 (p k)]

/-- n elements' cells, one behind the other. -/
def rowOf (c : Nat → List Value) : Nat → List Value
  | 0 => []
  | n + 1 => rowOf c n ++ c n

theorem rowOf_length (c : Nat → List Value) (s : Nat) (h : ∀ k, (c k).length = s) : ∀ n, (rowOf c n).length = n * s
  | 0 => by simp [rowOf]
  | n + 1 => by rw [rowOf, List.length_append, rowOf_length c s h n, h, Nat.add_mul, Nat.one_mul]

theorem rowOf_add (c : Nat → List Value) (n : Nat) : ∀ m, rowOf c (n + m) = rowOf c n ++ rowOf (fun k => c (n + k)) m
  | 0 => by simp [rowOf]
  | m + 1 => by rw [← Nat.add_assoc, rowOf, rowOf_add c n m, rowOf, List.append_assoc]

theorem rowOf_congr {c d : Nat → List Value} : ∀ n, (∀ k, k < n → c k = d k) → rowOf c n = rowOf d n
  | 0, _ => rfl
  | n + 1, h => by rw [rowOf, rowOf, rowOf_congr n (fun k hk => h k (by omega)), h n (by omega)]

theorem rowOf_get (c : Nat → List Value) (s : Nat) (h : ∀ k, (c k).length = s) (n k j : Nat) (hk : k < n) (hj : j < s) : (rowOf c n)[k * s + j]? = (c k)[j]? := by
  obtain ⟨m, rfl⟩ : ∃ m, n = k + (m + 1) := ⟨n - k - 1, by omega⟩
  rw [rowOf_add, List.getElem?_append_right (by rw [rowOf_length c s h]; omega), rowOf_length c s h]
  have e : k * s + j - k * s = j := by omega
  rw [e, show m + 1 = 1 + m by omega, rowOf_add, List.getElem?_append_left (by simp [rowOf, h, hj])]
  simp [rowOf]

/-- Every cell of a row is a cell of one element. -/
theorem rowOf_mem (c : Nat → List Value) (n : Nat) (u : Value) : u ∈ rowOf c n → ∃ k, k < n ∧ u ∈ c k := by
  induction n with
  | zero => intro h; cases h
  | succ n ih =>
    intro h
    rw [rowOf, List.mem_append] at h
    rcases h with h | h
    · obtain ⟨k, hk, hu⟩ := ih h; exact ⟨k, by omega, hu⟩
    · exact ⟨n, by omega, h⟩

theorem evc_length (f : Nat → E) (k : Nat) : (evc f k).length = 3 := rfl
theorem cac_length (p : Nat → Int) (k : Nat) : (cac p k).length = 2 := rfl
theorem prc_length (p : Nat → Int) (k : Nat) : (prc p k).length = 1 := rfl

theorem ev_one (f : Nat → E) (n : Nat) : ∀ u ∈ rowOf (evc f) n, u.oneCell' = true := by
  intro u hu
  obtain ⟨k, _, hk⟩ := rowOf_mem _ _ _ hu
  simp [evc] at hk
  rcases hk with rfl | rfl | rfl <;> rfl
theorem ca_one (p : Nat → Int) (n : Nat) : ∀ u ∈ rowOf (cac p) n, u.oneCell' = true := by
  intro u hu
  obtain ⟨k, _, hk⟩ := rowOf_mem _ _ _ hu
  simp [cac] at hk
  rcases hk with rfl | rfl <;> rfl
theorem pr_one (p : Nat → Int) (n : Nat) : ∀ u ∈ rowOf (prc p) n, u.oneCell' = true := by
  intro u hu
  obtain ⟨k, _, hk⟩ := rowOf_mem _ _ _ hu
  simp [prc] at hk
  subst hk; rfl

/-- How many of the first n events are Sent. -/
def cnt (f : Nat → E) : Nat → Nat
  | 0 => 0
  | n + 1 => cnt f n + (if (f n).kd = 0 then 1 else 0)

theorem cnt_le (f : Nat → E) : ∀ n, cnt f n ≤ n
  | 0 => Nat.le_refl _
  | n + 1 => by rw [cnt]; have := cnt_le f n; split <;> omega
theorem cnt_mono (f : Nat → E) (n m : Nat) (h : n ≤ m) : cnt f n ≤ cnt f m := by
  induction m with
  | zero => have : n = 0 := by omega
            subst this; exact Nat.le_refl _
  | succ m ih =>
    by_cases e : n = m + 1
    · subst e; exact Nat.le_refl _
    · have := ih (by omega); rw [cnt]; omega
theorem cnt_hit (f : Nat → E) (n : Nat) (h : ((f n).kd == 0) = true) : cnt f (n + 1) = cnt f n + 1 := by
  rw [cnt, if_pos (by simpa using h)]
theorem cnt_miss (f : Nat → E) (n : Nat) (h : ((f n).kd == 0) = false) : cnt f (n + 1) = cnt f n := by
  rw [cnt, if_neg (by simpa using h)]; rfl
theorem cnt_add (f : Nat → E) (n : Nat) : ∀ m, cnt f (n + m) = cnt f n + cnt (fun k => f (n + k)) m
  | 0 => by simp [cnt]
  | m + 1 => by rw [← Nat.add_assoc, cnt, cnt_add f n m, cnt, Nat.add_assoc]
theorem cnt_congr {f g : Nat → E} : ∀ n, (∀ k, k < n → f k = g k) → cnt f n = cnt g n
  | 0, _ => rfl
  | n + 1, h => by rw [cnt, cnt, cnt_congr n (fun k hk => h k (by omega)), h n (by omega)]

/-! ### Elements in memory -/
/-- n events lie from ⟨b, off⟩ on. -/
def EvAt (w : World) (b off n : Nat) (f : Nat → E) : Prop := ∀ k, k < n → w.cell? ⟨b, off + k * 3, none⟩ = some (.int .u8 (f k).kd) ∧ w.cell? ⟨b, off + k * 3 + 1, none⟩ = some (.int .i64 (f k).nd) ∧ w.cell? ⟨b, off + k * 3 + 2, none⟩ = some (.int .i64 (f k).st)
/-- n carried entries. -/
def CaAt (w : World) (b off n : Nat) (p : Nat → Int) : Prop := ∀ k, k < n → w.cell? ⟨b, off + k * 2, none⟩ = some (.int .u32 (p k)) ∧ w.cell? ⟨b, off + k * 2 + 1, none⟩ = some .nilIface
/-- n priors. -/
def PrAt (w : World) (b off n : Nat) (p : Nat → Int) : Prop := ∀ k, k < n → w.cell? ⟨b, off + k, none⟩ = some (.int .u32 (p k))

open Go.RowKit in
theorem EvAt.below {w w' : World} {B b off n : Nat} {f : Nat → E} (h : EvAt w b off n f) (hb : b < B) (hw : Below B w w') : EvAt w' b off n f := fun k hk => by
  obtain ⟨h0, h1, h2⟩ := h k hk
  exact ⟨(hw.cell (p := ⟨b, off + k * 3, none⟩) hb).trans h0, (hw.cell (p := ⟨b, off + k * 3 + 1, none⟩) hb).trans h1, (hw.cell (p := ⟨b, off + k * 3 + 2, none⟩) hb).trans h2⟩
open Go.RowKit in
theorem CaAt.below {w w' : World} {B b off n : Nat} {p : Nat → Int} (h : CaAt w b off n p) (hb : b < B) (hw : Below B w w') : CaAt w' b off n p := fun k hk => by
  obtain ⟨h0, h1⟩ := h k hk
  exact ⟨(hw.cell (p := ⟨b, off + k * 2, none⟩) hb).trans h0, (hw.cell (p := ⟨b, off + k * 2 + 1, none⟩) hb).trans h1⟩
open Go.RowKit in
theorem PrAt.below {w w' : World} {B b off n : Nat} {p : Nat → Int} (h : PrAt w b off n p) (hb : b < B) (hw : Below B w w') : PrAt w' b off n p := fun k hk =>
  (hw.cell (p := ⟨b, off + k, none⟩) hb).trans (h k hk)

theorem EvAt.drop {w : World} {b off n : Nat} {f : Nat → E} (h : EvAt w b off n f) (d : Nat) : EvAt w b (off + d * 3) (n - d) (fun k => f (d + k)) := fun k hk => by
  have := h (d + k) (by omega)
  rw [show off + d * 3 + k * 3 = off + (d + k) * 3 by omega]
  exact this
theorem CaAt.drop {w : World} {b off n : Nat} {p : Nat → Int} (h : CaAt w b off n p) (d : Nat) : CaAt w b (off + d * 2) (n - d) (fun k => p (d + k)) := fun k hk => by
  have := h (d + k) (by omega)
  rw [show off + d * 2 + k * 2 = off + (d + k) * 2 by omega]
  exact this

theorem add_lit (b o j : Nat) : (⟨b, o, none⟩ : Addr).add j = ⟨b, o + j, none⟩ := Addr.add_lit ..

/-- The cells of a row, one by one, as the laws on append and copy ask for them. -/
theorem row_cells {w : World} {b off n s : Nat} {c : Nat → List Value} (hs : ∀ k, (c k).length = s) (h : ∀ k, k < n → ∀ j, j < s → w.cell? ⟨b, off + (k * s + j), none⟩ = (c k)[j]?) :
    ∀ j u, (rowOf c n)[j]? = some u → w.cell? ((⟨b, off, none⟩ : Addr).add j) = some u := by
  intro j u hu
  have hl : j < n * s := by
    have := (List.getElem?_eq_some_iff.1 hu).1
    rwa [rowOf_length c s hs] at this
  have hs0 : 0 < s := by
    rcases Nat.eq_zero_or_pos s with e | e
    · subst e; simp at hl
    · exact e
  have hj := Nat.div_add_mod j s
  have hk : j / s < n := (Nat.div_lt_iff_lt_mul hs0).2 hl
  have hm : j % s < s := Nat.mod_lt _ hs0
  have e : j = j / s * s + j % s := by rw [Nat.mul_comm]; exact hj.symm
  rw [add_lit, e, h _ hk _ hm, ← rowOf_get c s hs n _ _ hk hm, ← e, hu]

theorem EvAt.cells {w : World} {b off n : Nat} {f : Nat → E} (h : EvAt w b off n f) : ∀ j u, (rowOf (evc f) n)[j]? = some u → w.cell? ((⟨b, off, none⟩ : Addr).add j) = some u :=
  row_cells (evc_length f) fun k hk j hj => by
    obtain ⟨h0, h1, h2⟩ := h k hk
    match j, hj with
    | 0, _ => exact h0
    | 1, _ => exact h1
    | 2, _ => exact h2
theorem CaAt.cells {w : World} {b off n : Nat} {p : Nat → Int} (h : CaAt w b off n p) : ∀ j u, (rowOf (cac p) n)[j]? = some u → w.cell? ((⟨b, off, none⟩ : Addr).add j) = some u :=
  row_cells (cac_length p) fun k hk j hj => by
    obtain ⟨h0, h1⟩ := h k hk
    match j, hj with
    | 0, _ => exact h0
    | 1, _ => exact h1
theorem PrAt.cells {w : World} {b off n : Nat} {p : Nat → Int} (h : PrAt w b off n p) : ∀ j u, (rowOf (prc p) n)[j]? = some u → w.cell? ((⟨b, off, none⟩ : Addr).add j) = some u :=
  row_cells (prc_length p) fun k hk j hj => by
    match j, hj with
    | 0, _ => rw [Nat.mul_one]; exact h k hk

/-- Out of an owned row: its elements lie there. -/
theorem EvAt.of_owns {w : World} {base g n cap : Nat} {f : Nat → E} (h : w.ownsRow base 43 3 (.slice (some ⟨g, 0, none⟩) n cap) n (rowOf (evc f) n)) : EvAt w g 0 n f := fun k hk => by
  refine ⟨?_, ?_, ?_⟩
  · rw [Nat.zero_add, h.cellAt _ (by omega)]; exact rowOf_get (evc f) 3 (evc_length f) n k 0 hk (by omega)
  · rw [Nat.zero_add, h.cellAt _ (by omega)]; exact rowOf_get (evc f) 3 (evc_length f) n k 1 hk (by omega)
  · rw [Nat.zero_add, h.cellAt _ (by omega)]; exact rowOf_get (evc f) 3 (evc_length f) n k 2 hk (by omega)
theorem CaAt.of_owns {w : World} {base g n cap : Nat} {p : Nat → Int} (h : w.ownsRow base 46 2 (.slice (some ⟨g, 0, none⟩) n cap) n (rowOf (cac p) n)) : CaAt w g 0 n p := fun k hk => by
  refine ⟨?_, ?_⟩
  · rw [Nat.zero_add, h.cellAt _ (by omega)]; exact rowOf_get (cac p) 2 (cac_length p) n k 0 hk (by omega)
  · rw [Nat.zero_add, h.cellAt _ (by omega)]; exact rowOf_get (cac p) 2 (cac_length p) n k 1 hk (by omega)

open Go.RowKit in
theorem bel1 {B : Nat} {a w : World} (h : Below B a w) (hB : B ≤ w.heap.size) (x : Obj) : Below B a (w.alloc x) := h.alloc hB x
open Go.RowKit in
theorem bel2 {B : Nat} {a w : World} (h : Below B a w) (hB : B ≤ w.heap.size) (x y : Obj) : Below B a ((w.alloc x).alloc y) := (h.alloc hB x).alloc (by simp; omega) y
open Go.RowKit in
theorem bel3 {B : Nat} {a w : World} (h : Below B a w) (hB : B ≤ w.heap.size) (x y z : Obj) : Below B a (((w.alloc x).alloc y).alloc z) := (bel2 h hB x y).alloc (by simp; omega) z

end Go.Proofs.Qxb6612199a.LogP
