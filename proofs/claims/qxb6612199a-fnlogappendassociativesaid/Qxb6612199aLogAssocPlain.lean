/-
  The plain half of FnLogAppendAssociative: appending is associative, on sequences; nothing of the dump.
-/
import Derived.Test.Qxb6612199aLogWalks5
namespace Go.Proofs.Qxb6612199a.LogP

theorem cnt_shift (f : Nat → E) (d m : Nat) : cnt (fun k => f (d + k)) m = cnt f (d + m) - cnt f d := by
  have := cnt_add f d m; omega

theorem cnt_cat (n m : Nat) (f g : Nat → E) : cnt (cat n f g) (n + m) = cnt f n + cnt g m := by
  rw [cnt_add]
  congr 1
  · exact cnt_congr n fun k hk => by unfold cat; rw [if_pos hk]
  · exact cnt_congr m fun k hk => by unfold cat; rw [if_neg (by omega), Nat.add_sub_cancel_left]
theorem cnt_cat_lt (n k : Nat) (f g : Nat → E) (h : k ≤ n) : cnt (cat n f g) k = cnt f k :=
  cnt_congr k fun j hj => by unfold cat; rw [if_pos (by omega)]

section
variable (nl nt nu ml mt mu d1 d3 : Nat) (fl ft fu : Nat → E) (pl pt pu : Nat → Int)

/-- The tail's carried entries, counted. -/
theorem tail_cnt (hmt : mt = cnt ft nt) (hmu : mu = cnt fu nu) : mt + (mu - cnt fu (min d3 nu)) = cnt (cat nt ft (fun k => fu (d3 + k))) (nt + (nu - d3)) := by
  rw [cnt_cat, cnt_shift, ← hmt]
  by_cases h : d3 ≤ nu
  · rw [Nat.min_eq_left h, show d3 + (nu - d3) = nu by omega, hmu]
  · rw [Nat.min_eq_right (by omega), show nu - d3 = 0 by omega, Nat.add_zero, hmu]; omega

/-- How many carried entries of 't then u' l has already. -/
theorem q4_eq (hmt : mt = cnt ft nt) : cnt (cat nt ft (fun k => fu (d3 + k))) (min d1 (nt + (nu - d3))) =
    if d1 ≤ nt then cnt ft (min d1 nt) else mt + (cnt fu (min (d3 + (d1 - nt)) nu) - cnt fu (min d3 nu)) := by
  split
  · rename_i h
    rw [Nat.min_eq_left (by omega), Nat.min_eq_left h, cnt_cat_lt _ _ _ _ h]
  · rename_i h
    rw [show min d1 (nt + (nu - d3)) = nt + min (d1 - nt) (nu - d3) by omega, cnt_cat, cnt_shift, ← hmt]
    by_cases h3 : d3 ≤ nu
    · rw [Nat.min_eq_left h3, show d3 + min (d1 - nt) (nu - d3) = min (d3 + (d1 - nt)) nu by omega]
    · rw [Nat.min_eq_right (show nu ≤ d3 by omega), Nat.min_eq_right (show nu ≤ d3 + (d1 - nt) by omega), show min (d1 - nt) (nu - d3) = 0 by omega, Nat.add_zero]; omega

theorem assoc_len : nl + (nt - d1) + (nu - (d3 + (d1 - nt))) = nl + (nt + (nu - d3) - d1) := by omega

theorem assoc_ev (k : Nat) : cat (nl + (nt - d1)) (cat nl fl (fun k => ft (d1 + k))) (fun k => fu (d3 + (d1 - nt) + k)) k = cat nl fl (fun k => cat nt ft (fun k => fu (d3 + k)) (d1 + k)) k := by
  unfold cat
  by_cases h1 : k < nl
  · rw [if_pos (by omega), if_pos h1, if_pos h1]
  · rw [if_neg h1, if_neg h1]
    by_cases h2 : k < nl + (nt - d1)
    · rw [if_pos h2]
      simp only
      rw [if_pos (by omega)]
    · rw [if_neg h2]
      simp only
      rw [if_neg (by omega)]
      congr 1
      omega

theorem assoc_calen (hmt : mt = cnt ft nt) (hmu : mu = cnt fu nu) (q1 q2 q3 q4 : Nat) (h1 : q1 = cnt ft (min d1 nt)) (h2 : q2 = cnt fu (min (d3 + (d1 - nt)) nu)) (h3 : q3 = cnt fu (min d3 nu)) (h4 : q4 = cnt (cat nt ft (fun k => fu (d3 + k))) (min d1 (nt + (nu - d3)))) :
    ml + (mt - q1) + (mu - q2) = ml + (mt + (mu - q3) - q4) := by
  rw [q4_eq nt nu mt d1 d3 ft fu hmt] at h4
  have m23 : q3 ≤ q2 := by rw [h2, h3]; exact cnt_mono fu _ _ (by omega)
  have m2u : q2 ≤ mu := by rw [h2, hmu]; exact cnt_mono fu _ _ (by omega)
  have m1t : q1 ≤ mt := by rw [h1, hmt]; exact cnt_mono ft _ _ (by omega)
  by_cases h : d1 ≤ nt
  · rw [if_pos h] at h4
    have e : q2 = q3 := by rw [h2, h3, show d1 - nt = 0 by omega, Nat.add_zero]
    omega
  · rw [if_neg h] at h4
    have e : q1 = mt := by rw [h1, hmt, Nat.min_eq_right (by omega)]
    omega

theorem assoc_ca (hmt : mt = cnt ft nt) (q1 q2 q3 q4 : Nat) (h1 : q1 = cnt ft (min d1 nt)) (h2 : q2 = cnt fu (min (d3 + (d1 - nt)) nu)) (h3 : q3 = cnt fu (min d3 nu)) (h4 : q4 = cnt (cat nt ft (fun k => fu (d3 + k))) (min d1 (nt + (nu - d3)))) (j : Nat) :
    cat (ml + (mt - q1)) (cat ml pl (fun k => pt (q1 + k))) (fun k => pu (q2 + k)) j = cat ml pl (fun k => cat mt pt (fun k => pu (q3 + k)) (q4 + k)) j := by
  rw [q4_eq nt nu mt d1 d3 ft fu hmt] at h4
  have m23 : q3 ≤ q2 := by rw [h2, h3]; exact cnt_mono fu _ _ (by omega)
  have m1t : q1 ≤ mt := by rw [h1, hmt]; exact cnt_mono ft _ _ (by omega)
  have hq : (q4 = q1 ∧ q2 = q3) ∨ (q1 = mt ∧ q4 = mt + (q2 - q3)) := by
    by_cases h : d1 ≤ nt
    · rw [if_pos h] at h4
      exact Or.inl ⟨by omega, by rw [h2, h3, show d1 - nt = 0 by omega, Nat.add_zero]⟩
    · rw [if_neg h] at h4
      exact Or.inr ⟨by rw [h1, hmt, Nat.min_eq_right (by omega)], by omega⟩
  unfold cat
  by_cases c1 : j < ml
  · rw [if_pos (by omega), if_pos c1, if_pos c1]
  · rw [if_neg c1, if_neg c1]
    by_cases c2 : j < ml + (mt - q1)
    · rw [if_pos c2]
      simp only
      rw [if_pos (by omega)]
      congr 1
      omega
    · rw [if_neg c2]
      simp only
      rw [if_neg (by omega)]
      congr 1
      omega
end

end Go.Proofs.Qxb6612199a.LogP
