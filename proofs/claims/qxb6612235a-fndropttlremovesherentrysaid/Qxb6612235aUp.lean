import Derived.Test.Qxb6612235aSwap
import Derived.Deep.DeepCutAuto
namespace Go.Proofs.Qxb6612235a
open Go.RowKit Go.Maps HP
theorem par_div (k : Nat) : ((k : Int) - 1).tdiv 2 = ((par k : Nat) : Int) := by
  unfold par
  rcases Nat.eq_zero_or_pos k with h | h
  · subst h; decide
  · obtain ⟨q, rfl⟩ : ∃ q, k = q + 1 := ⟨k - 1, by omega⟩
    have e : (((q + 1 : Nat) : Int) - 1) = (q : Int) := by omega
    rw [e, Int.tdiv_eq_ediv_of_nonneg (by omega)]
    simp
theorem Qu.drew {w : World} {b0 b m g cap n : Nat} {f : Nat → E} (h : Qu w b0 b m g cap n f) : Qu w.drew b0 b m g cap n f := ⟨h.cE, h.cM, h.fE, h.row, h.map, h.wf, h.bm, h.bg, h.mg, h.lb, h.lm, h.lg, h.n4⟩
set_option maxHeartbeats 2000000 in
theorem up_walk {w : World} {b0 b m g cap N n : Nat} {f : Nat → E} (h : Qu w b0 b m g cap N f) {j : Nat} (hj : j < n) (hN : n ≤ N) (hH : HUp f n j) {S : E → Prop} (hC : Con S f N) :
    Calls Try.prog 17 #[.iface 58 (.pointer (some ⟨b, 14, none⟩)), .int .i64 j] w fun e w' => e = .returned (.tuple #[]) ∧ ∃ f', Qu w' b0 b m g cap N f' ∧ Heap f' n ∧ Con S f' N ∧ Kp w w' b m g ∧ ∀ k, n ≤ k → f' k = f k := by
  go_enter Try.func17, Try.ntmps17
  go_wp2
  go_loopw [1] (fun jv wr => ∃ (k : Nat) (f' : Nat → E), jv = .int .i64 k ∧ k < n ∧ Qu wr b0 b m g cap N f' ∧ HUp f' n k ∧ Con S f' N ∧ Kp w wr b m g ∧ ∀ k, n ≤ k → f' k = f k) (fun jv _ => (intOf jv).toNat)
  case atStart => exact ⟨j, f, rfl, hj, h, hH, hC, Kp.refl _ _ _ _, fun _ _ => rfl⟩
  case round =>
    obtain ⟨k, f', rfl, hk, hQ, hU, hC', hK, hV⟩ := hrel
    have n4 := hQ.n4
    have HQ : Hid (Qu wr b0 b m g cap N f' ∧ HUp f' n k ∧ Con S f' N ∧ Kp w wr b m g ∧ ∀ k, n ≤ k → f' k = f k) := ⟨hQ, hU, hC', hK, hV⟩
    clear hQ hU hC' hK hV h hH hC
    go_upto_region 1 with fail
    have hp : par k ≤ k := by unfold par; omega
    have hp0 : par k = k → k = 0 := by unfold par; omega
    rw [par_div]
    obtain ⟨p, hpp⟩ : ∃ p, p = par k := ⟨_, rfl⟩
    have HP : Hid (p = par k) := hpp
    rw [← hpp] at hp hp0 ⊢
    clear hpp
    have ml : ∀ w : World, (method 214 58 (.pointer (some ⟨b, 14, none⟩)) "Less").run Try.prog w = .ok (39, .pointer (some ⟨b, 14, none⟩)) w := fun _ => by kernel_rfl
    have ms : ∀ w : World, (method 214 58 (.pointer (some ⟨b, 14, none⟩)) "Swap").run Try.prog w = .ok (42, .pointer (some ⟨b, 14, none⟩)) w := fun _ => by kernel_rfl
    obtain ⟨hQ, hU, hC', hK, hV⟩ := HQ.out
    have hpn : p < n := by omega
    have hL := less_walk hQ (Nat.lt_of_lt_of_le hk hN) (Nat.lt_of_lt_of_le hpn hN)
    have hS := fun (hne : p ≠ k) => swap_walk hQ.drew (Nat.lt_of_lt_of_le hpn hN) (Nat.lt_of_lt_of_le hk hN) hne
    clear hQ hU hC' hK hV
    have hdone : (p = k ∨ ¬ (f' k).dl < (f' p).dl) → Heap f' n := fun hd => by
      obtain ⟨hQ, hU, hC', hK, hV⟩ := HQ.out
      have hpe := HP.out
      refine hU.done ?_
      rcases hd with h | h
      · exact .inl (hp0 h)
      · exact .inr (by rw [← hpe]; omega)
    have hstep : p ≠ k → (f' k).dl < (f' p).dl → HUp (sw f' p k) n p ∧ Con S (sw f' p k) N := fun hne hl => by
      obtain ⟨hQ, hU, hC', hK, hV⟩ := HQ.out
      have hpe := HP.out
      refine ⟨?_, hC'.sw (Nat.lt_of_lt_of_le hpn hN) (Nat.lt_of_lt_of_le hk hN)⟩
      have h1 : 1 ≤ k := by
        rcases Nat.eq_zero_or_pos k with h | h
        · subst h; simp at hp; exact absurd hp hne
        · exact h
      have := hU.step h1 hk (by rw [← hpe]; exact hl)
      rw [← hpe] at this
      exact this
    have HD : Hid _ := hdone
    have HT : Hid _ := hstep
    clear hdone hstep
    by_cases hl : (f' k).dl < (f' p).dl
    · rw [decide_eq_true hl] at hL
      go_wp2_with (first | (go_at_call 39; refine hL.mono ?_; rintro e w1 ⟨rfl, rfl⟩) | (go_at_call 42; refine (hS (by omega)).mono ?_; rintro e w1 ⟨rfl, hQ1, hK1⟩))
      · go_end0
        obtain ⟨hQ, hU, hC', hK, hV⟩ := HQ.out
        exact ⟨rfl, f', hQ, HD.out (.inl (by omega)), hC', hK, hV⟩
      · go_roundw
        case rel =>
          obtain ⟨hQ, hU, hC', hK, hV⟩ := HQ.out
          obtain ⟨h1, h2⟩ := HT.out (by omega) hl
          exact ⟨p, sw f' p k, rfl, hpn, hQ1, h1, h2, hK.drew.trans hK1, fun x hx => by rw [sw_o f' (by omega) (by omega)]; exact hV x hx⟩
        case measure => simp [intOf]; omega
    · rw [decide_eq_false hl] at hL
      go_wp2_with (first | (go_at_call 39; refine hL.mono ?_; rintro e w1 ⟨rfl, rfl⟩) | (go_at_call 42; refine (hS (by omega)).mono ?_; rintro e w1 ⟨rfl, hQ1, hK1⟩))
      · go_end0
        obtain ⟨hQ, hU, hC', hK, hV⟩ := HQ.out
        exact ⟨rfl, f', hQ, HD.out (.inl (by omega)), hC', hK, hV⟩
      · go_end0
        obtain ⟨hQ, hU, hC', hK, hV⟩ := HQ.out
        exact ⟨rfl, f', hQ.drew, HD.out (.inr hl), hC', hK.drew, hV⟩
end Go.Proofs.Qxb6612235a
