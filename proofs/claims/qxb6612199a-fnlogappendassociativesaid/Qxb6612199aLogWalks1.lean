/-
  The small walks of the two laws on logs: counts, lengths, the bound.
-/
import Derived.Test.Qxb6612199aRows
import Derived.Test.Qxb6612199aLogPlain
import Derived.WalkKit
import Derived.WalkSpells
import Derived.WalkLawsBesides
namespace Go.Proofs.Qxb6612199a.LogP
open Go.RowKit

set_option maxHeartbeats 400000 in
theorem sentCount_at (b off n cap : Nat) (f : Nat → E) (w : World) (hn : n ≤ 1048576)
    (hc : EvAt w b off n f) :
    Calls Try.prog 8 #[.slice (some ⟨b, off, none⟩) n cap] w fun e w' => e = .returned (.int .i64 (cnt f n)) ∧ w' = w := by
  go_enter Try.func8, Try.ntmps8
  go_wp2
  go_loop [3, 4] (fun c i => ∃ k : Nat, k ≤ n ∧ i = .int .i64 k ∧ c = .int .i64 (cnt f k)) (fun _ i => n - (intOf i).toNat)
  case atStart => exact ⟨0, Nat.zero_le _, rfl, rfl⟩
  case round =>
    obtain ⟨k, hk, rfl, rfl⟩ := hrel
    have hl := cnt_le f k
    by_cases hlt : k < n
    · have h0 := (hc k hlt).1
      clear hc
      go_wp2
      · have ht : ((f k).kd == 0) = true := by assumption
        go_round
        case rel => exact ⟨k + 1, by omega, by go_num, by rw [cnt_hit f k ht]; go_num⟩
        case measure => simp [intOf]; omega
      · have ht : ((f k).kd == 0) = false := by assumption
        go_round
        case rel => exact ⟨k + 1, by omega, by go_num, by rw [cnt_miss f k ht]⟩
        case measure => simp [intOf]; omega
    · go_wp2
      go_ret
      have : k = n := by omega
      subst this
      exact ⟨rfl, rfl⟩

set_option maxHeartbeats 400000 in
theorem sentCount_nil (f : Nat → E) (w : World) :
    Calls Try.prog 8 #[.slice none 0 0] w fun e w' => e = .returned (.int .i64 (cnt f 0)) ∧ w' = w := by
  go_enter Try.func8, Try.ntmps8
  go_wp2
  go_loop [3, 4] (fun c i => i = .int .i64 0 ∧ c = .int .i64 0) (fun _ _ => 0)
  case atStart => exact ⟨rfl, rfl⟩
  case round =>
    obtain ⟨rfl, rfl⟩ := hrel
    go_wp2
    go_ret
    exact ⟨rfl, rfl⟩

set_option maxHeartbeats 400000 in
theorem sentIn_any (b off n cap : Nat) (f : Nat → E) (w : World) (hn : n ≤ 1048576) (hb : b < w.heap.size)
    (hc : EvAt w b off n f) :
    Calls Try.prog 25 #[.slice (some ⟨b, off, none⟩) n cap] w fun e w' => e = .returned (.int .i64 (cnt f n)) ∧ Below w.heap.size w w' := by
  go_enter Try.func25, Try.ntmps25
  go_wp2
  go_loopw [3, 8] (fun c i wr => ∃ k : Nat, k ≤ n ∧ i = .int .i64 k ∧ c = .int .i64 (cnt f k) ∧ Below w.heap.size w wr) (fun _ i _ => n - (intOf i).toNat)
  case atStart => exact ⟨0, Nat.zero_le _, rfl, rfl, Below.refl _ _⟩
  case round =>
    obtain ⟨k, hk, rfl, rfl, hbl⟩ := hrel
    have hl := cnt_le f k
    by_cases hlt : k < n
    · obtain ⟨h0, h1, h2⟩ := hc k hlt
      rw [← hbl.cell (p := ⟨b, off + k * 3, none⟩) hb] at h0
      rw [← hbl.cell (p := ⟨b, off + k * 3 + 1, none⟩) hb] at h1
      rw [← hbl.cell (p := ⟨b, off + k * 3 + 2, none⟩) hb] at h2
      clear hc
      go_wp2
      · have ht : ((f k).kd == 0) = true := by assumption
        go_roundw
        case rel => exact ⟨k + 1, by omega, by go_num, by rw [cnt_hit f k ht]; go_num, hbl.alloc hbl.size _⟩
        case measure => simp [intOf]; omega
      · have ht : ((f k).kd == 0) = false := by assumption
        go_roundw
        case rel => exact ⟨k + 1, by omega, by go_num, by rw [cnt_miss f k ht], hbl.alloc hbl.size _⟩
        case measure => simp [intOf]; omega
    · go_wp2
      go_ret
      have : k = n := by omega
      subst this
      exact ⟨rfl, hbl⟩

set_option maxHeartbeats 400000 in
theorem logBytes_any (B : Int) (a1 a2 : Option Addr) (n c1 m c2 : Nat) (w : World) (hn : n ≤ 1048576) (hm : m ≤ 1048576) :
    Calls Try.prog 7 #[.agg #[.int .i64 B, .slice a1 n c1, .slice a2 m c2]] w fun e w' => e = .returned (.int .i64 (24 + 24 * n + 4 * m)) ∧ w' = w.alloc (.cells #[.int .i64 B, .slice a1 n c1, .slice a2 m c2] 25) := by
  go_enter Try.func7, Try.ntmps7
  go_wp2
  go_ret
  exact ⟨rfl, rfl⟩

set_option maxHeartbeats 400000 in
theorem len_any (B : Int) (a1 a2 : Option Addr) (n c1 m c2 : Nat) (w : World) (hn : n ≤ 1048576) (hB0 : 0 ≤ B) (hB : B ≤ 1099511627776) :
    Calls Try.prog 20 #[.agg #[.int .i64 B, .slice a1 n c1, .slice a2 m c2]] w fun e w' => e = .returned (.int .i64 (B + n)) ∧ w' = w.alloc (.cells #[.int .i64 B, .slice a1 n c1, .slice a2 m c2] 32) := by
  go_enter Try.func20, Try.ntmps20
  go_wp2
  go_ret
  exact ⟨rfl, rfl⟩

set_option maxHeartbeats 1000000 in
theorem bytes_any (B : Int) (a1 a2 : Option Addr) (n c1 m c2 : Nat) (B' : Int) (a1' a2' : Option Addr) (n' c1' m' c2' : Nat) (w : World) (hn : n ≤ 9223372036854775807) (hm : m ≤ 9223372036854775807) (hn' : n' ≤ 9223372036854775807) (hm' : m' ≤ 9223372036854775807) :
    Calls Try.prog 6 #[.agg #[.int .i64 B, .slice a1 n c1, .slice a2 m c2], .agg #[.int .i64 B', .slice a1' n' c1', .slice a2' m' c2']] w fun e w' =>
      ∃ t : Bool, e = .returned (.bool t) ∧ (t = true → n + m + n' + m' ≤ 1048576) ∧ w' = (w.alloc (.cells #[.int .i64 B, .slice a1 n c1, .slice a2 m c2] 25)).alloc (.cells #[.int .i64 B', .slice a1' n' c1', .slice a2' m' c2'] 25) := by
  go_enter Try.func6, Try.ntmps6
  go_wp2
  all_goals go_ret
  all_goals first | exact ⟨false, rfl, (fun h => by cases h), rfl⟩ | exact ⟨true, rfl, (fun _ => by omega), rfl⟩

end Go.Proofs.Qxb6612199a.LogP
