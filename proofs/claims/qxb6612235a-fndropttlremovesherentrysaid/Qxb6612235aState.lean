/-
  The TTL queue in memory: its row of entries, its map of places; and the first two methods (Len, Less).
-/
import Derived.Test.Qxb6612235aRows
import Derived.Test.Qxb6612235aPlain
import Derived.WalkKit
import Derived.ProofKit
import Derived.Laws.CopyRow
import Derived.Maps.OwnSet
import Derived.Maps.OwnOps
import Derived.Below
import Derived.BigRegion
namespace Go.Proofs.Qxb6612235a
open Go.RowKit Go.Maps HP

def evc (f : Nat → E) (k : Nat) : List Value := [.int .u32 (f k).id, .int .i64 (f k).ttl, .int .i64 (f k).dl]
def rowOf (c : Nat → List Value) : Nat → List Value
  | 0 => []
  | n + 1 => rowOf c n ++ c n
theorem rowOf_length (c : Nat → List Value) (s : Nat) (h : ∀ k, (c k).length = s) : ∀ n, (rowOf c n).length = n * s
  | 0 => by simp [rowOf]
  | n + 1 => by rw [rowOf, List.length_append, rowOf_length c s h n, h, Nat.add_mul, Nat.one_mul]
theorem rowOf_add (c : Nat → List Value) (n : Nat) : ∀ m, rowOf c (n + m) = rowOf c n ++ rowOf (fun k => c (n + k)) m
  | 0 => by simp [rowOf]
  | m + 1 => by rw [← Nat.add_assoc, rowOf, rowOf_add c n m, rowOf, List.append_assoc]
theorem rowOf_congr {c d : Nat → List Value} : ∀ n, (∀ k, k < n → c k = d k) → rowOf c n = rowOf d n
  | 0, _ => rfl
  | n + 1, h => by rw [rowOf, rowOf, rowOf_congr n (fun k hk => h k (by omega)), h n (by omega)]
theorem rowOf_get (c : Nat → List Value) (s : Nat) (h : ∀ k, (c k).length = s) (n k j : Nat) (hk : k < n) (hj : j < s) : (rowOf c n)[k * s + j]? = (c k)[j]? := by
  obtain ⟨m, rfl⟩ : ∃ m, n = k + (m + 1) := ⟨n - k - 1, by omega⟩
  rw [rowOf_add, List.getElem?_append_right (by rw [rowOf_length c s h]; omega), rowOf_length c s h]
  have e : k * s + j - k * s = j := by omega
  rw [e, show m + 1 = 1 + m by omega, rowOf_add, List.getElem?_append_left (by simp [rowOf, h, hj])]
  simp [rowOf]
theorem rowOf_mem (c : Nat → List Value) (n : Nat) (u : Value) : u ∈ rowOf c n → ∃ k, k < n ∧ u ∈ c k := by
  induction n with
  | zero => intro h; cases h
  | succ n ih =>
    intro h
    rw [rowOf, List.mem_append] at h
    rcases h with h | h
    · obtain ⟨k, hk, hu⟩ := ih h; exact ⟨k, by omega, hu⟩
    · exact ⟨n, by omega, h⟩
theorem evc_length (f : Nat → E) (k : Nat) : (evc f k).length = 3 := rfl
theorem ev_one (f : Nat → E) (n : Nat) : ∀ u ∈ rowOf (evc f) n, u.oneCell' = true := by
  intro u hu
  obtain ⟨k, _, hk⟩ := rowOf_mem _ _ _ hu
  simp [evc] at hk
  rcases hk with rfl | rfl | rfl <;> rfl

/-- The row at block g: n entries' cells (what lies behind them is left open), room for cap. -/
def Row (w : World) (g cap n : Nat) (f : Nat → E) : Prop :=
  ∃ cur : Array Value, w.heap[g]? = some (.cells cur 60 (0, 0)) ∧ n ≤ cap ∧ cap ≤ maxLen ∧ cur.size = cap * 3 ∧ ∀ k, k < n → cur[k * 3]? = some (.int .u32 (f k).id) ∧ cur[k * 3 + 1]? = some (.int .i64 (f k).ttl) ∧ cur[k * 3 + 2]? = some (.int .i64 (f k).dl)

/-- The map of places is exact. -/
def Exact (D : DataW Unit) (f : Nat → E) (n : Nat) : Prop :=
  Maps.size D = n ∧ (∀ k, k < n → Maps.has D (.int .u32 (f k).id) = true ∧ ∀ z, D.atKey (.int .u32 (f k).id) z = .lit (.int .i64 k)) ∧ (∀ a, Maps.has D (.int .u32 a) = true → ∃ k, k < n ∧ (f k).id = a)

structure Qu (w : World) (b0 b m g cap n : Nat) (f : Nat → E) : Prop where
  cE : w.cell? ⟨b, 14, none⟩ = some (.slice (some ⟨g, 0, none⟩) n cap)
  cM : w.cell? ⟨b, 15, none⟩ = some (.map (some m))
  fE : w.frozen? ⟨b, 14, none⟩ = false
  row : Row w g cap n f
  map : ∃ D : DataW Unit, w.ownsMap Try.prog 45 (plainElem Try.prog 3) m n D ∧ Exact D f n
  wf : ∀ k, k < n → (Lit.int .u32 (f k).id).wf = true
  bm : b ≠ m
  bg : b ≠ g
  mg : m ≠ g
  lb : b0 ≤ b
  lm : b0 ≤ m
  lg : b0 ≤ g
  n4 : n ≤ 8192

theorem Row.cells {w : World} {g cap n : Nat} {f : Nat → E} (h : Row w g cap n f) {k : Nat} (hk : k < n) :
    w.cell? ⟨g, k * 3, none⟩ = some (.int .u32 (f k).id) ∧ w.cell? ⟨g, k * 3 + 1, none⟩ = some (.int .i64 (f k).ttl) ∧ w.cell? ⟨g, k * 3 + 2, none⟩ = some (.int .i64 (f k).dl) := by
  obtain ⟨cur, hg, _, _, _, hc⟩ := h
  obtain ⟨c0, c1, c2⟩ := hc k hk
  simp only [World.cell?, hg]
  simp [c0, c1, c2]
theorem Row.frozen {w : World} {g cap n : Nat} {f : Nat → E} (h : Row w g cap n f) (i : Nat) : w.frozen? ⟨g, i, none⟩ = false := by
  obtain ⟨cur, hg, _⟩ := h
  simp [World.frozen?, hg]

theorem len_walk {w : World} {b0 b m g cap n : Nat} {f : Nat → E} (h : Qu w b0 b m g cap n f) :
    Calls Try.prog 38 #[.pointer (some ⟨b, 14, none⟩)] w fun e w' => e = .returned (.int .i64 n) ∧ w' = w := by
  have c0 := h.cE
  go_enter Try.func38, Try.ntmps38
  go_wp2
  go_ret
  exact ⟨rfl, rfl⟩

theorem less_walk {w : World} {b0 b m g cap n : Nat} {f : Nat → E} (h : Qu w b0 b m g cap n f) {i j : Nat} (hi : i < n) (hj : j < n) :
    Calls Try.prog 39 #[.pointer (some ⟨b, 14, none⟩), .int .i64 i, .int .i64 j] w fun e w' => e = .returned (.bool (decide ((f i).dl < (f j).dl))) ∧ w' = w.drew := by
  have c0 : w.drew.cell? ⟨b, 14, none⟩ = some (.slice (some ⟨g, 0, none⟩) n cap) := h.cE
  have c1 : w.drew.cell? ⟨g, i * 3 + 2, none⟩ = some (.int .i64 (f i).dl) := (h.row.cells hi).2.2
  have c2 : w.drew.cell? ⟨g, j * 3 + 2, none⟩ = some (.int .i64 (f j).dl) := (h.row.cells hj).2.2
  go_enter Try.func39, Try.ntmps39
  go_wp2
  go_region
  go_wp2
  go_ret
  exact ⟨rfl, rfl⟩
end Go.Proofs.Qxb6612235a
