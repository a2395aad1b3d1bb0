/-
  The walks of grow (at events, at carried entries) and of Log.Suffix.
-/
import Derived.Test.Qxb6612199aLogWalks1
import Derived.Test.Qxb6612199aLogLaws
import Derived.Deep.RegionHeld3
namespace Go.Proofs.Qxb6612199a.LogP
open Go.RowKit
set_option linter.unusedVariables false
theorem info43 : (Try.prog.info? 43).map (fun i => (i.zero, i.size, i.bytes)) = some (some (.agg #[.int .u8 0, .int .i64 0, .int .i64 0]), 3, 24) := by kernel_rfl
theorem info46 : (Try.prog.info? 46).map (fun i => (i.zero, i.size, i.bytes)) = some (some (.agg #[.int .u32 0, .nilIface]), 2, 24) := by kernel_rfl

set_option maxHeartbeats 400000 in
theorem growE_big (g n c m c2 : Nat) (ad : Addr) (xs news : List Value) (w : World) (hn : n ≤ 1048576) (hm : m ≤ 1048576) (hc : c ≤ 8388608) (hgt : c < n + m)
    (hown : w.ownsRow 0 43 3 (.slice (some ⟨g, 0, none⟩) n c) n xs) (hx1 : ∀ u ∈ xs, u.oneCell' = true)
    (hl : news.length = m * 3) (hnews : ∀ j u, news[j]? = some u → w.cell? (ad.add j) = some u) (hw1 : ∀ u ∈ news, u.oneCell' = true) (hfar : ad.block < w.heap.size) :
    Calls Try.prog 22 #[.slice (some ⟨g, 0, none⟩) n c, .slice (some ad) m c2] w fun e w' => ∃ c', e = .returned (.slice (some ⟨w.heap.size, 0, none⟩) (n + m) c') ∧ w'.ownsRow 0 43 3 (.slice (some ⟨w.heap.size, 0, none⟩) (n + m) c') (n + m) (xs ++ news) ∧ c' ≤ 2 * c + n + m + 8 ∧ w.grownBy w' none := by
  obtain ⟨i0, hi, hz0, hz1, hz2⟩ := info_parts info43
  have hlt : g < w.heap.size := (hown.lt g rfl).2
  have hxc := hown.cells (g := g) rfl
  obtain ⟨q, hq⟩ : ∃ q : Nat, (if (n : Int) + m < 2 * c then 2 * (c : Int) else (n : Int) + m) = q := ⟨(if (n : Int) + m < 2 * c then 2 * (c : Int) else (n : Int) + m).toNat, by split <;> omega⟩
  have hq1 : n + m ≤ q ∧ q ≤ 2 * c + n + m := by split at hq <;> omega
  obtain ⟨q2, hq2⟩ : ∃ q2 : Nat, (if (q : Int) < 8 then (8 : Int) else q) = q2 := ⟨(if (q : Int) < 8 then (8 : Int) else q).toNat, by split <;> omega⟩
  have hq3 : n + m ≤ q2 ∧ q2 ≤ 2 * c + n + m + 8 := by split at hq2 <;> omega
  go_enter Try.func22, Try.ntmps22
  go_wp2_with (at_make; refine wpList_make_len _ rfl _ _ 29 rfl 0 43 i0 _ 3 24 Try.underlying29 hi hz0 hz1 hz2 _ _ _ n rfl rfl (by omega) (by omega) (by omega) (Nat.zero_le _) ?_)
  intro cc w1 ys hcc hown1 hgrow1
  have hcc0 : cc = q2 := by omega
  subst hcc0
  clear hcc hq hq2
  have hxc1 : ∀ j u, xs[j]? = some u → w1.cell? ((⟨g, 0, none⟩ : Addr).add j) = some u := fun j u hu => by
    have := hxc j u hu; rw [add_lit] at this ⊢; exact hgrow1.cell this (by simp)
  obtain ⟨w2, hrun, hown2, hgrow2⟩ := run_copy_all (P := Try.prog) w1 29 3 0 43 i0 3 Try.underlying29 hi hz1 w.heap.size n cc ys hown1 ⟨g, 0, none⟩ c xs hown.1 hxc1 hx1
  have hnews2 : ∀ j u, news[j]? = some u → w2.cell? (ad.add j) = some u := fun j u hu => by
    have hb : (ad.add j).block = ad.block := by unfold Addr.add; split <;> rfl
    exact hgrow2.cell (hgrow1.cell (hnews j u hu) (by simp)) (by rw [hb]; intro e; have := Option.some.inj e; omega)
  clear hnews hxc hxc1
  go_wp2_with (at_builtin; refine wpList_append_fits _ rfl _ _ 29 rfl 0 43 i0 3 Try.underlying29 hi hz1 w.heap.size n cc xs rfl hown2 ad m c2 news rfl hl hnews2 hw1 hq3.1 ?_)
  intro w3 hown3 hgrow3
  clear hrun
  go_wp2
  go_ret
  exact ⟨cc, rfl, hown3, hq3.2, grownBy_trans_new (grownBy_trans_new hgrow1 hgrow2 (by simp)) hgrow3 (by simp)⟩

set_option maxHeartbeats 400000 in
theorem growE_zero (g n c c2 : Nat) (ad : Addr) (xs : List Value) (w : World) (hn : n ≤ 1048576) (hc : c ≤ 8388608) (hle : n ≤ c)
    (hown : w.ownsRow 0 43 3 (.slice (some ⟨g, 0, none⟩) n c) n xs) :
    Calls Try.prog 22 #[.slice (some ⟨g, 0, none⟩) n c, .slice (some ad) 0 c2] w fun e w' => e = .returned (.slice (some ⟨g, 0, none⟩) n c) ∧ w' = w := by
  obtain ⟨i0, hi, hz0, hz1, hz2⟩ := info_parts info43
  have hgt : ¬ ((c : Int) < (n : Int)) := by omega
  go_enter Try.func22, Try.ntmps22
  go_wp2_with (at_builtin; refine wpList_append_zero _ rfl _ _ 29 rfl 0 43 i0 3 Try.underlying29 hi hz1 g n c xs rfl hown ad c2 rfl ?_)
  go_ret
  exact ⟨rfl, rfl⟩

set_option maxHeartbeats 400000 in
theorem growE_room (g n c m c2 : Nat) (ad : Addr) (xs news : List Value) (w : World) (hn : n ≤ 1048576) (hm : m ≤ 1048576) (hc : c ≤ 8388608) (hle : n + m ≤ c)
    (hown : w.ownsRow 0 43 3 (.slice (some ⟨g, 0, none⟩) n c) n xs)
    (hl : news.length = m * 3) (hnews : ∀ j u, news[j]? = some u → w.cell? (ad.add j) = some u) (hw1 : ∀ u ∈ news, u.oneCell' = true) :
    Calls Try.prog 22 #[.slice (some ⟨g, 0, none⟩) n c, .slice (some ad) m c2] w fun e w' => e = .returned (.slice (some ⟨g, 0, none⟩) (n + m) c) ∧ w'.ownsRow 0 43 3 (.slice (some ⟨g, 0, none⟩) (n + m) c) (n + m) (xs ++ news) ∧ w.grownBy w' (some g) := by
  obtain ⟨i0, hi, hz0, hz1, hz2⟩ := info_parts info43
  have hgt : ¬ ((c : Int) < (n : Int) + (m : Int)) := by omega
  go_enter Try.func22, Try.ntmps22
  go_wp2_with (at_builtin; refine wpList_append_fits _ rfl _ _ 29 rfl 0 43 i0 3 Try.underlying29 hi hz1 g n c xs rfl hown ad m c2 news rfl hl hnews hw1 hle ?_)
  intro w3 hown3 hgrow3
  go_wp2
  go_ret
  exact ⟨rfl, hown3, hgrow3⟩

/-- grow at events: the row s with the tail's cells behind it, in its own array (where it may be written: H ≤ g) or in a new one. -/
theorem growE (H g n c m c2 : Nat) (ad : Addr) (xs news : List Value) (w : World) (hn : n ≤ 1048576) (hm : m ≤ 1048576) (hc : c ≤ 8388608) (hnc : n ≤ c)
    (hown : w.ownsRow 0 43 3 (.slice (some ⟨g, 0, none⟩) n c) n xs) (hx1 : ∀ u ∈ xs, u.oneCell' = true)
    (hl : news.length = m * 3) (hnews : ∀ j u, news[j]? = some u → w.cell? (ad.add j) = some u) (hw1 : ∀ u ∈ news, u.oneCell' = true) (hfar : ad.block < w.heap.size)
    (hfree : c = n ∨ H ≤ g) (hH : H ≤ w.heap.size) :
    Calls Try.prog 22 #[.slice (some ⟨g, 0, none⟩) n c, .slice (some ad) m c2] w fun e w' => ∃ g' c' row, e = .returned (.slice (some ⟨g', 0, none⟩) (n + m) c') ∧ w'.ownsRow 0 43 3 (.slice (some ⟨g', 0, none⟩) (n + m) c') (n + m) (xs ++ news) ∧ c' ≤ 2 * c + n + m + 8 ∧ (c' = n + m ∨ H ≤ g') ∧ (g' = g ∨ w.heap.size ≤ g') ∧ w.grownBy w' row ∧ (∀ k, row = some k → k = g ∧ H ≤ g) := by
  by_cases hgt : c < n + m
  · refine (growE_big g n c m c2 ad xs news w hn hm hc hgt hown hx1 hl hnews hw1 hfar).mono ?_
    rintro e w' ⟨c', rfl, h1, h2, h3⟩
    exact ⟨_, c', none, rfl, h1, h2, Or.inr hH, Or.inr (Nat.le_refl _), h3, fun k hk => by cases hk⟩
  · by_cases hm0 : m = 0
    · subst hm0
      have hnil : news = [] := List.eq_nil_of_length_eq_zero (by simpa using hl)
      subst hnil
      refine (growE_zero g n c c2 ad xs w hn hc hnc hown).mono ?_
      rintro e w' ⟨rfl, rfl⟩
      exact ⟨g, c, none, rfl, by simpa using hown, by omega, by simpa using hfree, Or.inl rfl, World.grownBy.refl _ _, fun k hk => by cases hk⟩
    · have hHg : H ≤ g := by rcases hfree with h | h
                             · omega
                             · exact h
      refine (growE_room g n c m c2 ad xs news w hn hm hc (by omega) hown hl hnews hw1).mono ?_
      rintro e w' ⟨rfl, h1, h2⟩
      exact ⟨g, c, some g, rfl, h1, by omega, Or.inr hHg, Or.inl rfl, h2, fun k hk => ⟨(Option.some.inj hk).symm, hHg⟩⟩

set_option maxHeartbeats 400000 in
theorem growC_big (g n c m c2 : Nat) (ad : Addr) (xs news : List Value) (w : World) (hn : n ≤ 1048576) (hm : m ≤ 1048576) (hc : c ≤ 8388608) (hgt : c < n + m)
    (hown : w.ownsRow 0 46 2 (.slice (some ⟨g, 0, none⟩) n c) n xs) (hx1 : ∀ u ∈ xs, u.oneCell' = true)
    (hl : news.length = m * 2) (hnews : ∀ j u, news[j]? = some u → w.cell? (ad.add j) = some u) (hw1 : ∀ u ∈ news, u.oneCell' = true) (hfar : ad.block < w.heap.size) :
    Calls Try.prog 23 #[.slice (some ⟨g, 0, none⟩) n c, .slice (some ad) m c2] w fun e w' => ∃ c', e = .returned (.slice (some ⟨w.heap.size, 0, none⟩) (n + m) c') ∧ w'.ownsRow 0 46 2 (.slice (some ⟨w.heap.size, 0, none⟩) (n + m) c') (n + m) (xs ++ news) ∧ c' ≤ 2 * c + n + m + 8 ∧ w.grownBy w' none := by
  obtain ⟨i0, hi, hz0, hz1, hz2⟩ := info_parts info46
  have hlt : g < w.heap.size := (hown.lt g rfl).2
  have hxc := hown.cells (g := g) rfl
  obtain ⟨q, hq⟩ : ∃ q : Nat, (if (n : Int) + m < 2 * c then 2 * (c : Int) else (n : Int) + m) = q := ⟨(if (n : Int) + m < 2 * c then 2 * (c : Int) else (n : Int) + m).toNat, by split <;> omega⟩
  have hq1 : n + m ≤ q ∧ q ≤ 2 * c + n + m := by split at hq <;> omega
  obtain ⟨q2, hq2⟩ : ∃ q2 : Nat, (if (q : Int) < 8 then (8 : Int) else q) = q2 := ⟨(if (q : Int) < 8 then (8 : Int) else q).toNat, by split <;> omega⟩
  have hq3 : n + m ≤ q2 ∧ q2 ≤ 2 * c + n + m + 8 := by split at hq2 <;> omega
  go_enter Try.func23, Try.ntmps23
  go_wp2_with (at_make; refine wpList_make_len _ rfl _ _ 30 rfl 0 46 i0 _ 2 24 Try.underlying30 hi hz0 hz1 hz2 _ _ _ n rfl rfl (by omega) (by omega) (by omega) (Nat.zero_le _) ?_)
  intro cc w1 ys hcc hown1 hgrow1
  have hcc0 : cc = q2 := by omega
  subst hcc0
  clear hcc hq hq2
  have hxc1 : ∀ j u, xs[j]? = some u → w1.cell? ((⟨g, 0, none⟩ : Addr).add j) = some u := fun j u hu => by
    have := hxc j u hu; rw [add_lit] at this ⊢; exact hgrow1.cell this (by simp)
  obtain ⟨w2, hrun, hown2, hgrow2⟩ := run_copy_all (P := Try.prog) w1 30 3 0 46 i0 2 Try.underlying30 hi hz1 w.heap.size n cc ys hown1 ⟨g, 0, none⟩ c xs hown.1 hxc1 hx1
  have hnews2 : ∀ j u, news[j]? = some u → w2.cell? (ad.add j) = some u := fun j u hu => by
    have hb : (ad.add j).block = ad.block := by unfold Addr.add; split <;> rfl
    exact hgrow2.cell (hgrow1.cell (hnews j u hu) (by simp)) (by rw [hb]; intro e; have := Option.some.inj e; omega)
  clear hnews hxc hxc1
  go_wp2_with (at_builtin; refine wpList_append_fits _ rfl _ _ 30 rfl 0 46 i0 2 Try.underlying30 hi hz1 w.heap.size n cc xs rfl hown2 ad m c2 news rfl hl hnews2 hw1 hq3.1 ?_)
  intro w3 hown3 hgrow3
  clear hrun
  go_wp2
  go_ret
  exact ⟨cc, rfl, hown3, hq3.2, grownBy_trans_new (grownBy_trans_new hgrow1 hgrow2 (by simp)) hgrow3 (by simp)⟩

set_option maxHeartbeats 400000 in
theorem growC_zero (g n c c2 : Nat) (ad : Addr) (xs : List Value) (w : World) (hn : n ≤ 1048576) (hc : c ≤ 8388608) (hle : n ≤ c)
    (hown : w.ownsRow 0 46 2 (.slice (some ⟨g, 0, none⟩) n c) n xs) :
    Calls Try.prog 23 #[.slice (some ⟨g, 0, none⟩) n c, .slice (some ad) 0 c2] w fun e w' => e = .returned (.slice (some ⟨g, 0, none⟩) n c) ∧ w' = w := by
  obtain ⟨i0, hi, hz0, hz1, hz2⟩ := info_parts info46
  have hgt : ¬ ((c : Int) < (n : Int)) := by omega
  go_enter Try.func23, Try.ntmps23
  go_wp2_with (at_builtin; refine wpList_append_zero _ rfl _ _ 30 rfl 0 46 i0 2 Try.underlying30 hi hz1 g n c xs rfl hown ad c2 rfl ?_)
  go_ret
  exact ⟨rfl, rfl⟩

set_option maxHeartbeats 400000 in
theorem growC_room (g n c m c2 : Nat) (ad : Addr) (xs news : List Value) (w : World) (hn : n ≤ 1048576) (hm : m ≤ 1048576) (hc : c ≤ 8388608) (hle : n + m ≤ c)
    (hown : w.ownsRow 0 46 2 (.slice (some ⟨g, 0, none⟩) n c) n xs)
    (hl : news.length = m * 2) (hnews : ∀ j u, news[j]? = some u → w.cell? (ad.add j) = some u) (hw1 : ∀ u ∈ news, u.oneCell' = true) :
    Calls Try.prog 23 #[.slice (some ⟨g, 0, none⟩) n c, .slice (some ad) m c2] w fun e w' => e = .returned (.slice (some ⟨g, 0, none⟩) (n + m) c) ∧ w'.ownsRow 0 46 2 (.slice (some ⟨g, 0, none⟩) (n + m) c) (n + m) (xs ++ news) ∧ w.grownBy w' (some g) := by
  obtain ⟨i0, hi, hz0, hz1, hz2⟩ := info_parts info46
  have hgt : ¬ ((c : Int) < (n : Int) + (m : Int)) := by omega
  go_enter Try.func23, Try.ntmps23
  go_wp2_with (at_builtin; refine wpList_append_fits _ rfl _ _ 30 rfl 0 46 i0 2 Try.underlying30 hi hz1 g n c xs rfl hown ad m c2 news rfl hl hnews hw1 hle ?_)
  intro w3 hown3 hgrow3
  go_wp2
  go_ret
  exact ⟨rfl, hown3, hgrow3⟩

/-- grow at carried entries: the row s with the tail's cells behind it, in its own array (where it may be written: H ≤ g) or in a new one. -/
theorem growC (H g n c m c2 : Nat) (ad : Addr) (xs news : List Value) (w : World) (hn : n ≤ 1048576) (hm : m ≤ 1048576) (hc : c ≤ 8388608) (hnc : n ≤ c)
    (hown : w.ownsRow 0 46 2 (.slice (some ⟨g, 0, none⟩) n c) n xs) (hx1 : ∀ u ∈ xs, u.oneCell' = true)
    (hl : news.length = m * 2) (hnews : ∀ j u, news[j]? = some u → w.cell? (ad.add j) = some u) (hw1 : ∀ u ∈ news, u.oneCell' = true) (hfar : ad.block < w.heap.size)
    (hfree : c = n ∨ H ≤ g) (hH : H ≤ w.heap.size) :
    Calls Try.prog 23 #[.slice (some ⟨g, 0, none⟩) n c, .slice (some ad) m c2] w fun e w' => ∃ g' c' row, e = .returned (.slice (some ⟨g', 0, none⟩) (n + m) c') ∧ w'.ownsRow 0 46 2 (.slice (some ⟨g', 0, none⟩) (n + m) c') (n + m) (xs ++ news) ∧ c' ≤ 2 * c + n + m + 8 ∧ (c' = n + m ∨ H ≤ g') ∧ (g' = g ∨ w.heap.size ≤ g') ∧ w.grownBy w' row ∧ (∀ k, row = some k → k = g ∧ H ≤ g) := by
  by_cases hgt : c < n + m
  · refine (growC_big g n c m c2 ad xs news w hn hm hc hgt hown hx1 hl hnews hw1 hfar).mono ?_
    rintro e w' ⟨c', rfl, h1, h2, h3⟩
    exact ⟨_, c', none, rfl, h1, h2, Or.inr hH, Or.inr (Nat.le_refl _), h3, fun k hk => by cases hk⟩
  · by_cases hm0 : m = 0
    · subst hm0
      have hnil : news = [] := List.eq_nil_of_length_eq_zero (by simpa using hl)
      subst hnil
      refine (growC_zero g n c c2 ad xs w hn hc hnc hown).mono ?_
      rintro e w' ⟨rfl, rfl⟩
      exact ⟨g, c, none, rfl, by simpa using hown, by omega, by simpa using hfree, Or.inl rfl, World.grownBy.refl _ _, fun k hk => by cases hk⟩
    · have hHg : H ≤ g := by rcases hfree with h | h
                             · omega
                             · exact h
      refine (growC_room g n c m c2 ad xs news w hn hm hc (by omega) hown hl hnews hw1).mono ?_
      rintro e w' ⟨rfl, h1, h2⟩
      exact ⟨g, c, some g, rfl, h1, by omega, Or.inr hHg, Or.inl rfl, h2, fun k hk => ⟨(Option.some.inj hk).symm, hHg⟩⟩

theorem bcell {B : Nat} {W w1 : World} (hb : Below B W w1) : (∀ b o, b < B → w1.cell? ⟨b, o, none⟩ = W.cell? ⟨b, o, none⟩) ∧ (∀ b o, b < B → w1.frozen? ⟨b, o, none⟩ = W.frozen? ⟨b, o, none⟩) :=
  ⟨fun b o h => hb.cell (p := ⟨b, o, none⟩) h, fun b o h => hb.frozen (p := ⟨b, o, none⟩) h⟩
/-- Where a tail of a slice lies: Go does not point behind an array's end. -/
def tailAt (b c q s : Nat) : Addr := if c = q then ⟨b, 0, none⟩ else ⟨b, q * s, none⟩
set_option maxHeartbeats 400000 in
theorem suffix_any (B : Int) (h1 h2 n c1 m c2 d q : Nat) (i : Int) (f : Nat → E) (w : World) (hn : n ≤ 1048576) (hm : m ≤ 1048576) (hnc : n ≤ c1) (_hmc : m ≤ c2)
   (_hB0 : 0 ≤ B) (_hB : B ≤ 1099511627776) (hi : i = B + d) (hd : d < n) (hb1 : h1 < w.heap.size)
    (hc : EvAt w h1 0 n f) (hcm : q + cnt (fun k => f (d + k)) (n - d) = m) :
    Calls Try.prog 21 #[.agg #[.int .i64 B, .slice (some ⟨h1, 0, none⟩) n c1, .slice (some ⟨h2, 0, none⟩) m c2], .int .i64 i] w fun e w' => e = .returned (.agg #[.int .i64 i, .slice (some ⟨h1, d * 3, none⟩) (n - d) (c1 - d), .slice (some (tailAt h2 c2 q 2)) (m - q) (c2 - q)]) ∧ Below w.heap.size w w' := by
  subst hi
  have e1 : (B + d - B : Int) = d := by omega
  obtain ⟨g, hg⟩ : ∃ g : Nat → E, g = fun k => f (d + k) := ⟨_, rfl⟩
  have hc' : EvAt w h1 (d * 3) (n - d) g := by have := hc.drop d; rw [Nat.zero_add] at this; rw [hg]; exact this
  rw [← hg] at hcm
  clear hg
  have hw : IntKind.i64.wrap ((m : Int) - (cnt g (n - d) : Int)) = (q : Int) := by rw [IntKind.wrap_i64]; omega
  have hq : q ≤ m := by omega
  clear hcm
  go_enter Try.func21, Try.ntmps21
  go_wp2
  go_region_held3 (fun w' => w'.cell? ⟨w.heap.size, 2, none⟩ = some (.slice (some ⟨h2, 0, none⟩) m c2)) (first | go_keep | ((rw [hbl.cell (p := ⟨w.heap.size, 2, none⟩) (by simp; omega)]; go_keep)))
    ((go_at_call 25; refine (sentIn_any h1 (d * 3) (n - d) (c1 - d) g _ (by omega) (by simp; omega) (hc'.below hb1 (bel2 (Below.refl _ _) (Nat.le_refl _) _ _).drew)).mono ?_; rintro e w1 ⟨rfl, hbl⟩))
  obtain ⟨hc1, hf1⟩ := bcell hbl
  have hz := hbl.size
  simp at hz hc1 hf1
  go_wp2
  · refine bodyPost_ret (v := .agg #[.int .i64 (B + d), .slice (some ⟨h1, d * 3, none⟩) (n - d) (c1 - d), .slice (some ⟨h2, 0, none⟩) (m - q) 0]) (by simp [results, Try.results21, go_sem, hc1]) rfl ⟨?_, ?_⟩
    · rw [tailAt, if_pos rfl]
    · exact ((((bel2 (Below.refl _ _) (Nat.le_refl _) _ _).drew.trans (hbl.mono (by simp; omega))).setCell (by simp) _).setCell (by simp) _).setCell (by simp) _
  · have h : ¬ c2 = q := by assumption
    refine bodyPost_ret (v := .agg #[.int .i64 (B + d), .slice (some ⟨h1, d * 3, none⟩) (n - d) (c1 - d), .slice (some ⟨h2, q * 2, none⟩) (m - q) (c2 - q)]) (by simp [results, Try.results21, go_sem, hc1]) rfl ⟨?_, ?_⟩
    · rw [tailAt, if_neg h]
    · exact ((((bel2 (Below.refl _ _) (Nat.le_refl _) _ _).drew.trans (hbl.mono (by simp; omega))).setCell (by simp) _).setCell (by simp) _).setCell (by simp) _

end Go.Proofs.Qxb6612199a.LogP
