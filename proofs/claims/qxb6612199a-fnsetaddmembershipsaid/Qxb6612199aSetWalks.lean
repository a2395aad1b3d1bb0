/-
  The walks of FnSetAddMembership's callees.
-/
import Derived.Test.Qxb6612199aRows
import Derived.Test.Qxb6612199aSetPlain
import Derived.WalkKit
import Derived.WalkSpells
import Derived.WalkLawsBesides
import Derived.Deep.QuietTactic
import Derived.BigQuiet
namespace Go.Proofs.Qxb6612199a.SetP
open Go.RowKit

theorem ret_int {k : IntKind} {a b : Int} (h : a = b) : Ending.returned (.int k a) = .returned (.int k b) := by rw [h]
theorem ret_bool {a b : Bool} (h : a = b) : Ending.returned (.bool a) = .returned (.bool b) := by rw [h]

set_option maxHeartbeats 400000 in
theorem add_any (s i : Nat) (w : World) (hs : s < 4294967296) (_hi : (i:Int) ≤ 9223372036854775807) :
    Calls Try.prog 15 #[.int .u32 s, .int .i64 i] w fun e w' => e = .returned (.int .u32 (sAdd s i)) ∧ w' = w := by
  go_enter Try.func15, Try.ntmps15
  go_wp2
  go_ret
  exact ⟨ret_int (add_val s i hs), rfl⟩

set_option maxHeartbeats 400000 in
theorem has_any (s i : Nat) (w : World) (hs : s < 4294967296) (hi : i < 32) :
    Calls Try.prog 16 #[.int .u32 s, .int .i64 i] w fun e w' => e = .returned (.bool (s.testBit i)) ∧ w' = w := by
  go_enter Try.func16, Try.ntmps16
  go_wp2
  go_ret
  exact ⟨ret_bool (has_val s i hs hi), rfl⟩

theorem half (s k : Nat) : ((s / 2 ^ k : Nat) : Int) / 2 = ((s / 2 ^ (k + 1) : Nat) : Int) := by
  rw [Nat.pow_succ, ← Nat.div_div_eq_div_mul, Int.natCast_ediv]; rfl

theorem div_le (s k : Nat) (hs : s < 4294967296) : s / 2 ^ k < 4294967296 := Nat.lt_of_le_of_lt (Nat.div_le_self _ _) hs

theorem bit_val (s k : Nat) : (((s / 2 ^ k : Nat) : Int) % 2 == 1) = s.testBit k := by
  rw [← testBit_div, Bool.eq_iff_iff]; simp only [beq_iff_eq]; omega

set_option maxHeartbeats 400000 in
theorem bitAt_any (s i : Nat) (w : World) (hs : s < 4294967296) (hi : i < 32) :
    Calls Try.prog 17 #[.int .u32 s, .int .i64 i] w fun e w' => e = .returned (.bool (s.testBit i)) ∧ w' = w := by
  go_enter Try.func17, Try.ntmps17
  go_wp2
  go_loop [0, 5] (fun x k => ∃ j : Nat, j ≤ i ∧ k = .int .i64 j ∧ x = .int .u32 (s / 2 ^ j : Nat)) (fun _ k => i - (intOf k).toNat)
  case atStart => exact ⟨0, Nat.zero_le _, rfl, by rw [Nat.pow_zero, Nat.div_one]⟩
  case round =>
    obtain ⟨j, hj, rfl, rfl⟩ := hrel
    have hd := div_le s j hs
    have HH : Hid (((s / 2 ^ j : Nat) : Int) / 2 = ((s / 2 ^ (j + 1) : Nat) : Int)) := half s j
    obtain ⟨z, hz⟩ : ∃ z, z = s / 2 ^ j := ⟨_, rfl⟩
    rw [← hz] at hd HH ⊢
    have HZ : Hid (z = s / 2 ^ j) := hz
    clear hz
    by_cases hlt : j < i
    · go_wp2
      go_round
      case rel => exact ⟨j + 1, by omega, by go_num, by rw [← HH.out]; try go_num⟩
      case measure => simp [intOf]; omega
    · go_wp2
      go_ret
      have : j = i := by omega
      refine ⟨ret_bool ?_, rfl⟩
      rw [HZ.out, this]
      exact bit_val s i

set_option maxHeartbeats 400000 in
theorem popcount_any (s : Nat) (w : World) (hs : s < 4294967296) :
    Calls Try.prog 18 #[.int .u32 s] w fun e w' => e = .returned (.int .i64 (pop 32 s)) ∧ w' = w := by
  go_enter Try.func18, Try.ntmps18
  go_wp2
  go_loop [0, 3, 4] (fun x c k => ∃ j : Nat, j ≤ 32 ∧ k = .int .i64 j ∧ c = .int .i64 (pop j s) ∧ x = .int .u32 (s / 2 ^ j : Nat)) (fun _ _ k => 32 - (intOf k).toNat)
  case atStart => exact ⟨0, Nat.zero_le _, rfl, rfl, by rw [Nat.pow_zero, Nat.div_one]⟩
  case round =>
    obtain ⟨j, hj, rfl, rfl, rfl⟩ := hrel
    have hd := div_le s j hs
    have hp := pop_le j s
    have HS : Hid (pop (j + 1) s = pop j s + s / 2 ^ j % 2) := pop_snoc j s
    have HH : Hid (((s / 2 ^ j : Nat) : Int) / 2 = ((s / 2 ^ (j + 1) : Nat) : Int)) := half s j
    obtain ⟨z, hz⟩ : ∃ z, z = s / 2 ^ j := ⟨_, rfl⟩
    rw [← hz] at hd HH HS ⊢
    clear hz
    by_cases hlt : j < 32
    · go_wp2
      go_round
      case rel => exact ⟨j + 1, by omega, by go_num, by rw [HS.out]; go_num, by rw [← HH.out]; try go_num⟩
      case measure => simp [intOf]; omega
    · go_wp2
      go_ret
      have : j = 32 := by omega
      subst this
      exact ⟨rfl, rfl⟩

set_option maxHeartbeats 400000 in
theorem ones_any (s : Nat) (w : World) (hs : s < 4294967296)  :
    Calls Try.prog 24 #[.int .u32 s] w fun e w' => e = .returned (.int .i64 (pop 32 s)) ∧ ∃ n, w' = w.drewN n := by
  have e2 : bits .and .u32 ((s : Int) / 65536) 255 = (s : Int) / 65536 % 256 := and255 (s / 65536) (by omega)
  have e3 : bits .and .u32 ((s : Int) / 256) 255 = (s : Int) / 256 % 256 := and255 (s / 256) (by omega)
  have e4 : bits .and .u32 (s : Int) 255 = (s : Int) % 256 := and255 s hs
  have h1 : (0:Int) ≤ (s:Int) / 16777216 := by omega
  have h2 : (s:Int) / 16777216 ≤ 255 := by omega
  go_enter Try.func24, Try.ntmps24
  go_wp2
  go_quiet (fail)
  go_wp2
  go_ret
  exact ⟨ret_int (ones_val s hs), _, rfl⟩

set_option maxHeartbeats 400000 in
theorem len_any (s : Nat) (w : World) (hs : s < 4294967296)  :
    Calls Try.prog 19 #[.int .u32 s] w fun e w' => e = .returned (.int .i64 (pop 32 s)) ∧ ∃ n, w' = w.drewN n := by
  go_enter Try.func19, Try.ntmps19
  go_wp2_with (go_at_call 24; refine (ones_any _ _ hs).mono ?_; rintro e w' ⟨rfl, n, rfl⟩)
  go_ret
  exact ⟨rfl, _, rfl⟩

theorem popcount_at (f s : Nat) (w : World) (hf : Hid (f = 32)) (hs : s < 4294967296) :
    Calls Try.prog 18 #[.int .u32 s] w fun e w' => e = .returned (.int .i64 (pop f s)) ∧ w' = w := by
  rw [hf.out]; exact popcount_any s w hs
theorem len_at (f s : Nat) (w : World) (hf : Hid (f = 32)) (hs : s < 4294967296) :
    Calls Try.prog 19 #[.int .u32 s] w fun e w' => e = .returned (.int .i64 (pop f s)) ∧ ∃ n, w' = w.drewN n := by
  rw [hf.out]; exact len_any s w hs

set_option maxHeartbeats 1000000 in
theorem law_any (s i j : Nat) (w : World) (hs : s < 4294967296) (hi : (i : Int) ≤ 9223372036854775807) (hj : (j : Int) ≤ 9223372036854775807) :
    Calls Try.prog 5 #[.int .u32 s, .int .i64 i, .int .i64 j] w fun e w' => e = .returned (.bool true) ∧ ∃ n, w' = w.drewN n := by
  have ha := sAdd_lt s i hs
  have hq := sAdd_lt s j hs
  obtain ⟨f, hf0⟩ : ∃ f : Nat, f = 32 := ⟨_, rfl⟩
  have hpl : pop f s ≤ 32 := by rw [hf0]; exact pop_le 32 s
  have HP : Hid (pop f (sAdd s i) = pop f s + (if i < 32 ∧ s.testBit i = false then 1 else 0)) := by rw [hf0]; exact pop_add s i
  have hf : Hid (f = 32) := hf0
  clear hf0
  go_enter Try.func5, Try.ntmps5
  go_wp2_with (go_at_call 15; refine (add_any _ _ _ hs hi).mono ?_; rintro e _ ⟨rfl, rfl⟩)
  go_loop [9] (fun m => ∃ k : Nat, k ≤ 32 ∧ m = .int .i64 k) (fun m => 32 - (intOf m).toNat)
  case atStart => exact ⟨0, Nat.zero_le _, rfl⟩
  case round =>
    obtain ⟨k, hk, rfl⟩ := hrel
    by_cases hlt : k < 32
    · have hB := sAdd_bit s i k hlt
      by_cases hb : s.testBit k = true
      · have hA : (sAdd s i).testBit k = true := by rw [hB, hb]; rfl
        clear hB
        go_wp2_with (first | (go_at_call 16; refine (has_any _ _ _ ha hlt).mono ?_; rintro e _ ⟨rfl, rfl⟩) | (go_at_call 17; refine (bitAt_any _ _ _ hs hlt).mono ?_; rintro e _ ⟨rfl, rfl⟩))
        go_round
        case rel => exact ⟨k + 1, by omega, by go_num⟩
        case measure => simp [intOf]; omega
      · have hb' : s.testBit k = false := by simpa using hb
        clear hb
        by_cases he : k = i
        · have hA : (sAdd s i).testBit k = true := by rw [hB, hb', he]; simp
          have he' : ((k : Int) == (i : Int)) = true := by simp [he]
          clear hB he
          go_wp2_with (first | (go_at_call 16; refine (has_any _ _ _ ha hlt).mono ?_; rintro e _ ⟨rfl, rfl⟩) | (go_at_call 17; refine (bitAt_any _ _ _ hs hlt).mono ?_; rintro e _ ⟨rfl, rfl⟩))
          go_round
          case rel => exact ⟨k + 1, by omega, by go_num⟩
          case measure => simp [intOf]; omega
        · have hA : (sAdd s i).testBit k = false := by rw [hB, hb']; simp [he]
          have he' : ((k : Int) == (i : Int)) = false := by rw [beq_eq_false_iff_ne]; omega
          clear hB he
          go_wp2_with (first | (go_at_call 16; refine (has_any _ _ _ ha hlt).mono ?_; rintro e _ ⟨rfl, rfl⟩) | (go_at_call 17; refine (bitAt_any _ _ _ hs hlt).mono ?_; rintro e _ ⟨rfl, rfl⟩))
          go_round
          case rel => exact ⟨k + 1, by omega, by go_num⟩
          case measure => simp [intOf]; omega
    · have HT : sAdd (sAdd s i) i = sAdd s i := sAdd_twice s i
      have HC : Hid (sAdd (sAdd s i) j = sAdd (sAdd s j) i) := sAdd_comm s i j
      by_cases h32 : i < 32
      · by_cases hb : s.testBit i = true
        · have hP : pop f (sAdd s i) = pop f s := by rw [HP.out, if_neg (by simp [hb]), Nat.add_zero]
          go_wp2_with (first | (go_at_call 18; refine (popcount_at _ _ _ hf hs).mono ?_; rintro e _ ⟨rfl, rfl⟩) | (go_at_call 17; refine (bitAt_any _ _ _ hs h32).mono ?_; rintro e _ ⟨rfl, rfl⟩) | (go_at_call 19; refine (len_at _ _ _ hf ha).mono ?_; rintro e _ ⟨rfl, n, rfl⟩) | (go_at_call 15; refine (add_any _ _ _ (by assumption) (by assumption)).mono ?_; rintro e _ ⟨rfl, rfl⟩))
          go_ret
          exact ⟨ret_bool (by rw [HC.out]; simp), _, rfl⟩
        · have hb' : s.testBit i = false := by simpa using hb
          have hP : pop f (sAdd s i) = pop f s + 1 := by rw [HP.out, if_pos ⟨h32, hb'⟩]
          clear hb
          go_wp2_with (first | (go_at_call 18; refine (popcount_at _ _ _ hf hs).mono ?_; rintro e _ ⟨rfl, rfl⟩) | (go_at_call 17; refine (bitAt_any _ _ _ hs h32).mono ?_; rintro e _ ⟨rfl, rfl⟩) | (go_at_call 19; refine (len_at _ _ _ hf ha).mono ?_; rintro e _ ⟨rfl, n, rfl⟩) | (go_at_call 15; refine (add_any _ _ _ (by assumption) (by assumption)).mono ?_; rintro e _ ⟨rfl, rfl⟩))
          go_ret
          exact ⟨ret_bool (by rw [HC.out]; simp), _, rfl⟩
      · have hP : pop f (sAdd s i) = pop f s := by rw [HP.out, if_neg (by omega), Nat.add_zero]
        go_wp2_with (first | (go_at_call 18; refine (popcount_at _ _ _ hf hs).mono ?_; rintro e _ ⟨rfl, rfl⟩) | (go_at_call 19; refine (len_at _ _ _ hf ha).mono ?_; rintro e _ ⟨rfl, n, rfl⟩) | (go_at_call 15; refine (add_any _ _ _ (by assumption) (by assumption)).mono ?_; rintro e _ ⟨rfl, rfl⟩))
        go_ret
        exact ⟨ret_bool (by rw [HC.out]; simp), _, rfl⟩

end Go.Proofs.Qxb6612199a.SetP
