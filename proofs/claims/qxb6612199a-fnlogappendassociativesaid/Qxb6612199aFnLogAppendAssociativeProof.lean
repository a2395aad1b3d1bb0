/-
  The proof of 'Rows.FnLogAppendAssociativeSaid': the guide's frame for a law that writes nothing that was there, at three structs by value.
-/
import Derived.Test.Qxb6612199aRows
import Derived.WalkKit
import Derived.ProofKit
import Derived.OpenShut
import Derived.ShutString
import Derived.ChangeOld
import Derived.Below
import Derived.Test.Qxb6612199aLogOpen
import Derived.Test.Qxb6612199aLogAssoc
namespace Go.Proofs.Qxb6612199a.fnLogAppendAssociative
open Go.ChangeShapes Go.WideShapes Go.ChangeAt Go.RowKit
set_option linter.unusedVariables false

theorem own : ownKnob Try.prog.godebug = none := by kernel_rfl
theorem laidOut : laidOutB Try.prog = true := by kernel_rfl
theorem maxLen_i64 {n : Nat} (h : n ≤ maxLen) : n ≤ 9223372036854775807 := by simp only [maxLen] at h; omega

set_option maxRecDepth 100000 in
theorem lifted (os : Os) (started : os.Started) (H : Type) (enc : TypeId × Value → H) :
    ReturnsInHanded {} Try.checked os 4 .any (Rows.fnLogAppendAssociativeSpec.pre6 enc Try.prog Try.f4 Rows.fnLogAppendAssociativeRow.domain false) (Rows.fnLogAppendAssociativeSpec.post enc Try.prog Try.f4 false true false false) := by
  refine returnsInHanded_of_change (C := Try.checked) own started (by kernel_rfl) Try.func4
    (ChangeSpec.witness6 (enc := enc) (C := Try.checked) false ⟨#[], #[.agg #[.int .i64 0, .slice none 0 0, .slice none 0 0], .agg #[.int .i64 0, .slice none 0 0, .slice none 0 0], .agg #[.int .i64 0, .slice none 0 0, .slice none 0 0]], []⟩ 8 (by kernel_rfl) (by kernel_rfl) (by kernel_rfl) (by kernel_rfl)) ?_
  intro W base args ds gs before hval0 hW hcnd _
  have hval : ∀ (j : Nat) t v, Try.f4.params[j]? = some t → args[j]? = some v → Value.okWide Try.prog W .any base t v := hval0
  have hW' := hW
  obtain ⟨p, q, hA0, hV, rfl, hfz, hnd⟩ := hW
  have hA : DataW.TrodAll enc Try.prog W 0 (fun _ => true) true Try.f4.params.toList args.toList ds p := hA0
  rw [Try.params4] at hA hval
  obtain ⟨v0, vs0, d0, ds0, p0, q0, hargs, rfl, rfl, h0, r0⟩ := trodAll_cons hA
  obtain ⟨v1, vs1, d1, ds1, p1, q1, rfl, rfl, rfl, h1, r1⟩ := trodAll_cons r0
  obtain ⟨v2, vs2, d2, ds2, p2, q2, rfl, rfl, rfl, h2, r2⟩ := trodAll_cons r1
  obtain ⟨rfl, rfl, rfl⟩ := trodAll_nil r2
  obtain rfl : args = #[v0, v1, v2] := by cases args; simp_all
  obtain ⟨rfl, rfl⟩ := trodVars_none hV
  have k0 := h0
  have lt0 : ∀ x ∈ p0, x.block < W.heap.size := by obtain ⟨m, hm⟩ := k0; exact DataW.trod_lt m _ _ _ hm
  have k1 := h1
  have lt1 : ∀ x ∈ p1, x.block < W.heap.size := by obtain ⟨m, hm⟩ := k1; exact DataW.trod_lt m _ _ _ hm
  have k2 := h2
  have lt2 : ∀ x ∈ p2, x.block < W.heap.size := by obtain ⟨m, hm⟩ := k2; exact DataW.trod_lt m _ _ _ hm
  obtain ⟨B1, a1, n1, c1, a2, m1, e1, f1, s1, rfl, x1, x2, E1, P1, _, _⟩ := LogP.open_log (hval 0 25 v0 rfl rfl) h0
  obtain ⟨B2, b1, n2, c2, b2, m2, e2, f2, s2, rfl, x3, x4, E2, P2, _, _⟩ := LogP.open_log (hval 1 25 v1 rfl rfl) h1
  obtain ⟨B3, g1, n3, c3, g2, m3, e3, f3, s3, rfl, x5, x6, E3, P3, _, _⟩ := LogP.open_log (hval 2 25 v2 rfl rfl) h2
  clear hA0 hval0
  refine (LogP.assoc_any B1 B2 B3 a1 a2 b1 b2 g1 g2 n1 c1 m1 e1 n2 c2 m2 e2 n3 c3 m3 e3 f1 f2 f3 s1 s2 s3 W (maxLen_i64 x1) (maxLen_i64 x2) (maxLen_i64 x3) (maxLen_i64 x4) (maxLen_i64 x5) (maxLen_i64 x6) E1 P1 E2 P2 E3 P3).mono fun e W' ⟨he, bel⟩ => ?_
  subst he
  exact ⟨_, rfl, _, _, _, [], _, [], hW', trodAll_mk1 (shut_bool Try.underlying4 _), (trodAll_cons_mk (Below.trod laidOut (by kernel_rfl) (of_decide_eq_true (by kernel_rfl)) k0 bel lt0) (trodAll_cons_mk (Below.trod laidOut (by kernel_rfl) (of_decide_eq_true (by kernel_rfl)) k1 bel lt1) (trodAll_cons_mk (Below.trod laidOut (by kernel_rfl) (of_decide_eq_true (by kernel_rfl)) k2 bel lt2) trodAll_mk0))), rfl, bel.frame _, fun h => by cases h⟩

theorem over : Rows.fnLogAppendAssociativeRow.holds Try.pinned (OpenSpec.ofChange Rows.fnLogAppendAssociativeSpec) :=
  OpenClaim.holds_of_wide 4 Try.f4 rfl rfl rfl rfl rfl rfl rfl ⟨rfl, rfl, rfl, rfl, rfl⟩ rfl rfl rfl rfl rfl (by kernel_rfl) Try.func4 (by kernel_rfl)
    (of_decide_eq_true (by kernel_rfl)) (by unfold Func.isWrapper; first | (rw [if_pos (by decide +kernel)]; kernel_rfl) | (rw [if_neg (by decide +kernel)]; exact ⟨rfl, rfl⟩))
    (fun os started H enc _ => lifted os started H enc)

/-- THE STATEMENT -/
theorem proved : Rows.FnLogAppendAssociativeSaid := over
end Go.Proofs.Qxb6612199a.fnLogAppendAssociative
