import Derived.Test.Qxb6612235aDrop
namespace Go.Proofs.Qxb6612235a
open Go.RowKit Go.Maps HP

/-- The entries that came in. -/
def EIn (w : World) (a : Option Addr) (n : Nat) (h : Nat → E) : Prop :=
  ∀ k, k < n → ∃ b off, a = some ⟨b, off, none⟩ ∧ b < w.heap.size ∧ ∀ j, j < n → w.cell? ⟨b, off + j * 3, none⟩ = some (.int .u32 (h j).id) ∧ w.cell? ⟨b, off + j * 3 + 1, none⟩ = some (.int .i64 (h j).ttl) ∧ w.cell? ⟨b, off + j * 3 + 2, none⟩ = some (.int .i64 (h j).dl)
theorem EIn.below {w w' : World} {a : Option Addr} {n : Nat} {h : Nat → E} (e : EIn w a n h) {B : Nat} (hB : w.heap.size ≤ B) (k : Below B w w') : EIn w' a n h := by
  intro i hi
  obtain ⟨b, off, rfl, hb, hc⟩ := e i hi
  refine ⟨b, off, rfl, Nat.lt_of_lt_of_le hb k.size, fun j hj => ?_⟩
  obtain ⟨c0, c1, c2⟩ := hc j hj
  have eb : w'.heap[b]? = w.heap[b]? := k.block b (by omega)
  exact ⟨(cell_kept eb _).trans c0, (cell_kept eb _).trans c1, (cell_kept eb _).trans c2⟩
def Dist (h : Nat → E) (n : Nat) : Prop := ∀ i j, i < n → j < n → (h i).id = (h j).id → i = j

def DistPost (w : World) (h : Nat → E) (n : Nat) (r : Ending) (w' : World) : Prop := ∃ v, r = .returned (.bool v) ∧ (v = true → Dist h n) ∧ Below w.heap.size w w'

set_option maxHeartbeats 4000000 in
theorem dist_walk {w : World} {a : Option Addr} {n cap : Nat} {h : Nat → E} (hE : EIn w a n h) (hn : n ≤ 100000) :
    Calls Try.prog 5 #[.slice a n cap] w (DistPost w h n) := by
  go_enter Try.func5, Try.ntmps5
  go_wp2
  go_loopw [3] (fun iv wr => ∃ i : Nat, iv = .int .i64 i ∧ 1 ≤ i ∧ i ≤ n + 1 ∧ Dist h i ∧ Below w.heap.size w wr) (fun iv _ => n + 1 - (intOf iv).toNat)
  case atStart => exact ⟨1, rfl, Nat.le_refl _, by omega, fun a b _ _ _ => by omega, Below.refl _ _⟩
  case round =>
    obtain ⟨i, rfl, hi1, hin, hD, hB⟩ := hrel
    have HD : Hid (Dist h i ∧ Below w.heap.size w wr) := ⟨hD, hB⟩
    clear hD hB
    obtain ⟨wo, rfl⟩ : ∃ wo : World, wo = wr := ⟨_, rfl⟩
    go_wp2_with fail
    · have hlt : i < n := by assumption
      obtain ⟨eb, off, rfl, hbl, hc⟩ := hE i hlt
      have HC : Hid (∀ j, j < n → w.cell? ⟨eb, off + j * 3, none⟩ = some (.int .u32 (h j).id)) := fun j hj => (hc j hj).1
      clear hc hE
      go_loopw [4] (fun jv wr => ∃ j : Nat, jv = .int .i64 j ∧ j ≤ i ∧ (∀ l, l < j → (h i).id ≠ (h l).id) ∧ Below w.heap.size w wr) (fun jv _ => i - (intOf jv).toNat)
      case atStart => exact ⟨0, rfl, Nat.zero_le _, fun l hl => by omega, HD.out.2⟩
      case round =>
        obtain ⟨j, rfl, hji, hne, hB⟩ := hrel
        have HB : Hid ((∀ l, l < j → (h i).id ≠ (h l).id) ∧ Below w.heap.size w wr) := ⟨hne, hB⟩
        clear hne
        have g1 : wr.drew.cell? ⟨eb, off + i * 3, none⟩ = some (.int .u32 (h i).id) := (hB.cell (p := ⟨eb, off + i * 3, none⟩) hbl).trans (HC.out i hlt)
        have g2 : j < i → wr.drew.cell? ⟨eb, off + j * 3, none⟩ = some (.int .u32 (h j).id) := fun hj => (hB.cell (p := ⟨eb, off + j * 3, none⟩) hbl).trans (HC.out j (by omega))
        clear hB
        go_wp2_with fail
        · have hj : j < i := by assumption
          have g3 := g2 hj
          clear g2
          go_region
          go_wp2_with fail
          · go_ret
            exact ⟨false, rfl, (fun hh => nomatch hh), HB.out.2.drew⟩
          · have hne : ((h i).id == (h j).id) = false := by assumption
            go_roundw
            case rel =>
              refine ⟨j + 1, by go_num, by omega, fun l hl => ?_, HB.out.2.drew⟩
              by_cases e : l = j
              · subst e; simpa using hne
              · exact HB.out.1 l (by omega)
            case measure => simp [intOf]; omega
        · have hj : ¬ j < i := by assumption
          go_roundw
          case rel =>
            refine ⟨i + 1, by go_num, by omega, by omega, fun a b ha hb e => ?_, HB.out.2⟩
            have hA := HB.out.1
            by_cases e1 : a = i <;> by_cases e2 : b = i
            · omega
            · subst e1; exact absurd e (hA b (by omega))
            · subst e2; exact absurd e.symm (hA a (by omega))
            · exact HD.out.1 a b (by omega) (by omega) e
          case measure => simp [intOf]; omega
    · go_ret
      exact ⟨_, rfl, fun _ a b ha hb => HD.out.1 a b (by omega) (by omega), HD.out.2⟩
end Go.Proofs.Qxb6612235a
