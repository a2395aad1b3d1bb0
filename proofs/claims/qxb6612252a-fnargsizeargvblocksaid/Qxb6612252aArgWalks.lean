/-
  The walks of FnArgSizeJoinSavesOverhead, and argSize.
-/
import Derived.Test.Qxb6612252aRows
import Derived.WalkKit
import Derived.WalkSpells
import Derived.WalkLawsBesides
import Derived.ProofKit
namespace Go.Proofs.Qxb6612252a.ArgP
open Go.RowKit

theorem ret_bool {a b : Bool} (h : a = b) : Ending.returned (.bool a) = .returned (.bool b) := by rw [h]
theorem ret_int {k : IntKind} {a b : Int} (h : a = b) : Ending.returned (.int k a) = .returned (.int k b) := by rw [h]

set_option maxHeartbeats 400000 in
theorem argSize_any (a : ByteArray) (w : World) (h : a.size ≤ 4194304) :
    Calls Try.prog 6 #[.string a] w fun e w' => e = .returned (.int .i64 ((a.size : Int) + 9)) ∧ w' = w := by
  go_enter Try.func6, Try.ntmps6
  go_wp2
  go_ret
  exact ⟨rfl, rfl⟩

set_option maxHeartbeats 400000 in
theorem join_big (a b : ByteArray) (w : World) (ha : a.size ≤ maxLen) (hb : b.size ≤ maxLen) (h : ¬ (a.size + b.size ≤ 1048576)) :
    Calls Try.prog 4 #[.string a, .string b] w fun e w' => e = .returned (.bool true) ∧ w' = w := by
  unfold maxLen at ha hb
  go_enter Try.func4, Try.ntmps4
  go_wp2
  all_goals (go_ret; exact ⟨rfl, rfl⟩)

set_option maxHeartbeats 400000 in
theorem join_any (a b : ByteArray) (w : World) (h : a.size + b.size ≤ 1048576) :
    Calls Try.prog 4 #[.string a, .string b] w fun e w' => e = .returned (.bool true) ∧ w' = w := by
  have h1 : a.size ≤ 1048576 := by omega
  have h2 : b.size ≤ 1048576 := by omega
  have h3 : (a ++ b).size ≤ 4194304 := by simp; omega
  go_enter Try.func4, Try.ntmps4
  go_wp2_with (first | (go_at_call 6; refine (argSize_any _ _ (by first | assumption | omega)).mono ?_; rintro e _ ⟨rfl, rfl⟩) | go_in)
  go_ret
  exact ⟨ret_bool (decide_eq_true (by omega)), rfl⟩

end Go.Proofs.Qxb6612252a.ArgP
