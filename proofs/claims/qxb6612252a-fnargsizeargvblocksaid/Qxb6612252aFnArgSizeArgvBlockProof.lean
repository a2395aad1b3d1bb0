/-
  The proof of 'Rows.FnArgSizeArgvBlockSaid': the guide's frame for a law that writes nothing that was there, at a slice of strings.
-/
import Derived.Test.Qxb6612252aRows
import Derived.WalkKit
import Derived.ProofKit
import Derived.OpenShut
import Derived.ShutString
import Derived.ChangeOld
import Derived.Below
import Derived.SliceStrings
import Derived.Test.Qxb6612252aBlock
namespace Go.Proofs.Qxb6612252a.fnArgSizeArgvBlock
open Go.ChangeShapes Go.WideShapes Go.ChangeAt Go.RowKit
set_option linter.unusedVariables false

theorem own : ownKnob Try.prog.godebug = none := by kernel_rfl
theorem laidOut : laidOutB Try.prog = true := by kernel_rfl
theorem cells9 : Try.prog.cellsOf 9 = 1 := by kernel_rfl
theorem maxLen_i64 {n : Nat} (h : n ≤ maxLen) : n ≤ 9223372036854775807 := by simp only [maxLen] at h; omega
theorem add_lit (b o j : Nat) : (⟨b, o, none⟩ : Addr).add j = ⟨b, o + j, none⟩ := Addr.add_lit ..

theorem strIn_of {H : Type} {enc : TypeId × Value → H} {w : World} {held : Bool} {fuel : Nat} {v : Value} {x : DataW H × List MemPlace} (h : DataW.trod enc Try.prog w 0 (fun _ => true) held fuel 22 [v] = some x) :
    ∃ a n c s, v = .slice a n c ∧ n ≤ maxLen ∧ ArgP.StrIn w a n s ∧ ∀ k, k < n → (s k).size ≤ maxLen := by
  rcases open_strings Try.underlying22 Try.underlying9 cells9 h with ⟨hcs, _⟩ | ⟨a, len, cap, ss, hcs, _, hl, hm, hss, _, hc, hsz⟩
  · simp at hcs
    exact ⟨none, 0, 0, fun _ => ByteArray.empty, hcs, Nat.zero_le _, fun k hk => absurd hk (Nat.not_lt_zero _), fun k hk => absurd hk (Nat.not_lt_zero _)⟩
  · simp at hcs hss
    refine ⟨some a, len, cap, fun k => ss.getD k ByteArray.empty, hcs, by omega, ?_, ?_⟩
    · intro k hk
      obtain ⟨b, off, spot⟩ := a
      have hs : spot = none := by simpa [Addr.add] using World.cell?_spot (hc 0 (by omega))
      subst hs
      refine ⟨b, off, rfl, ?_, ?_⟩
      · have h0 := hc 0 (by omega)
        rw [add_lit] at h0
        exact World.block_lt_of_cell? w _ h0
      · intro j hj
        have := hc j (by omega)
        rw [add_lit] at this; exact this
    · intro k hk
      apply hsz
      simp only [List.getD]
      rw [List.getElem?_eq_getElem (by omega)]
      exact List.getElem_mem _

set_option maxRecDepth 100000 in
theorem lifted (os : Os) (started : os.Started) (H : Type) (enc : TypeId × Value → H) :
    ReturnsInHanded {} Try.checked os 3 .any (Rows.fnArgSizeArgvBlockSpec.pre6 enc Try.prog Try.f3 Rows.fnArgSizeArgvBlockRow.domain false) (Rows.fnArgSizeArgvBlockSpec.post enc Try.prog Try.f3 false true false false) := by
  refine returnsInHanded_of_change (C := Try.checked) own started (by kernel_rfl) Try.func3
    (ChangeSpec.witness6 (enc := enc) (C := Try.checked) false ⟨#[], #[.slice none 0 0], []⟩ 8 (by kernel_rfl) (by kernel_rfl) (by kernel_rfl) (by kernel_rfl)) ?_
  intro W base args ds gs before hval0 hW hcnd _
  have hval : ∀ (j : Nat) t v, Try.f3.params[j]? = some t → args[j]? = some v → Value.okWide Try.prog W .any base t v := hval0
  have hW' := hW
  obtain ⟨p, q, hA0, hV, rfl, hfz, hnd⟩ := hW
  have hA : DataW.TrodAll enc Try.prog W 0 (fun _ => true) true Try.f3.params.toList args.toList ds p := hA0
  rw [Try.params3] at hA hval
  obtain ⟨v0, vs0, d0, ds0, p0, q0, hargs, rfl, rfl, h0, r0⟩ := trodAll_cons hA
  obtain ⟨rfl, rfl, rfl⟩ := trodAll_nil r0
  obtain rfl : args = #[v0] := by cases args; simp_all
  obtain ⟨rfl, rfl⟩ := trodVars_none hV
  obtain ⟨a0, len0, cap0, rfl⟩ := okWide_slice Try.underlying22 (hval 0 22 v0 rfl rfl)
  have k0 := h0
  have lt0 : ∀ x ∈ p0, x.block < W.heap.size := by obtain ⟨m, hm⟩ := k0; exact DataW.trod_lt m _ _ _ hm
  obtain ⟨fuel, hf⟩ := h0
  obtain ⟨a, n, c, s, hv, hn, hS, hz⟩ := strIn_of (by simpa [Value.cells] using hf)
  cases hv
  clear hA0 hval0
  refine (ArgP.block_any a0 len0 cap0 s W (maxLen_i64 hn) (fun k hk => maxLen_i64 (hz k hk)) hS).mono fun e W' ⟨he, bel⟩ => ?_
  subst he
  exact ⟨_, rfl, _, _, _, [], _, [], hW', trodAll_mk1 (shut_bool Try.underlying4 _), (trodAll_cons_mk (Below.trod laidOut (by kernel_rfl) (of_decide_eq_true (by kernel_rfl)) k0 bel lt0) trodAll_mk0), rfl, bel.frame _, fun h => by cases h⟩

theorem over : Rows.fnArgSizeArgvBlockRow.holds Try.pinned (OpenSpec.ofChange Rows.fnArgSizeArgvBlockSpec) :=
  OpenClaim.holds_of_wide 3 Try.f3 rfl rfl rfl rfl rfl rfl rfl ⟨rfl, rfl, rfl, rfl, rfl⟩ rfl rfl rfl rfl rfl (by kernel_rfl) Try.func3 (by kernel_rfl)
    (of_decide_eq_true (by kernel_rfl)) (by unfold Func.isWrapper; first | (rw [if_pos (by decide +kernel)]; kernel_rfl) | (rw [if_neg (by decide +kernel)]; exact ⟨rfl, rfl⟩))
    (fun os started H enc _ => lifted os started H enc)

/-- THE STATEMENT -/
theorem proved : Rows.FnArgSizeArgvBlockSaid := over
end Go.Proofs.Qxb6612252a.fnArgSizeArgvBlock
