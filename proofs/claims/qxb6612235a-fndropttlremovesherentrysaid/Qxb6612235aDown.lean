import Derived.Test.Qxb6612235aUp
namespace Go.Proofs.Qxb6612235a
open Go.RowKit Go.Maps HP

/-- What the walk may rest on at the smaller child c; what at the end. -/
def Nd (f : Nat → E) (n i0 i : Nat) : Prop := (i ≠ i0 → Heap f n) ∧ (i = i0 → HUp f n i0)
def Nx (f f0 : Nat → E) (n N i0 i c : Nat) (S : E → Prop) : Prop :=
  ((f c).dl < (f i).dl → HDown (sw f i c) n i0 c ∧ Con S (sw f i c) N ∧ ∀ k, n ≤ k → sw f i c k = f0 k) ∧ (¬ (f c).dl < (f i).dl → Nd f n i0 i)
theorem down_child {f f0 : Nat → E} {N n i0 i c : Nat} {S : E → Prop} (hU : HDown f n i0 i) (hC : Con S f N) (hi0 : i0 ≤ i) (hN : n ≤ N) (hin : i < n) (hcn : c < n) (hpc : c = 2 * i + 1 ∨ c = 2 * i + 2)
    (hmin : ∀ k, k < n → k = 2 * i + 1 ∨ k = 2 * i + 2 → (f c).dl ≤ (f k).dl) (hV : ∀ k, n ≤ k → f k = f0 k) : Nx f f0 n N i0 i c S := by
  have hp : ∀ k, 1 ≤ k → (par k = i ↔ (k = 2 * i + 1 ∨ k = 2 * i + 2)) := fun k hk => by unfold par; omega
  refine ⟨fun hl => ⟨hU.step hi0 ((hp c (by omega)).2 hpc) (by omega) hcn (fun k h1 hk hpk => hmin k hk ((hp k h1).1 hpk)) hl, hC.sw (by omega) (by omega), fun k hk => ?_⟩, fun hl => hU.done (fun k h1 hk hpk => ?_)⟩
  · rw [sw_o f (by omega) (by omega)]; exact hV k hk
  · have := hmin k hk ((hp k h1).1 hpk)
    omega
theorem down_one {f f0 : Nat → E} {N n i0 i j1 : Nat} {S : E → Prop} (hU : HDown f n i0 i) (hC : Con S f N) (hi0 : i0 ≤ i) (hN : n ≤ N) (hin : i < n) (hj : j1 = 2 * i + 1) (h1 : j1 < n) (h2 : j1 + 1 < n → ¬ (f (j1 + 1)).dl < (f j1).dl) (hV : ∀ k, n ≤ k → f k = f0 k) : Nx f f0 n N i0 i j1 S := by
  refine down_child hU hC hi0 hN hin h1 (.inl hj) (fun k hk h => ?_) hV
  rcases h with h | h
  · rw [h, ← hj]; omega
  · have e : k = j1 + 1 := by omega
    subst e
    have := h2 hk
    omega
theorem down_two {f f0 : Nat → E} {N n i0 i j1 : Nat} {S : E → Prop} (hU : HDown f n i0 i) (hC : Con S f N) (hi0 : i0 ≤ i) (hN : n ≤ N) (hin : i < n) (hj : j1 = 2 * i + 1) (h1 : j1 + 1 < n) (h2 : (f (j1 + 1)).dl < (f j1).dl) (hV : ∀ k, n ≤ k → f k = f0 k) : Nx f f0 n N i0 i (j1 + 1) S := by
  refine down_child hU hC hi0 hN hin h1 (.inr (by omega)) (fun k hk h => ?_) hV
  rcases h with h | h
  · rw [h, ← hj]; omega
  · have e : k = j1 + 1 := by omega
    subst e
    omega
theorem down_none {f : Nat → E} {n i0 i : Nat} (hU : HDown f n i0 i) (h : n ≤ 2 * i + 1) : Nd f n i0 i := by
  refine hU.done (fun k h1 hk hpk => ?_)
  have : k = 2 * i + 1 ∨ k = 2 * i + 2 := by unfold par at hpk; omega
  omega
def DownPost (w : World) (b0 b m g cap N n i0 : Nat) (f : Nat → E) (S : E → Prop) (e : Ending) (W : World) : Prop :=
  ∃ v, e = .returned (.bool v) ∧ ∃ f', Qu W b0 b m g cap N f' ∧ (v = true → Heap f' n) ∧ (v = false → HUp f' n i0) ∧ Con S f' N ∧ Kp w W b m g ∧ ∀ k, n ≤ k → f' k = f k
theorem down_fin {w W : World} {b0 b m g cap N n i0 i : Nat} {f f' : Nat → E} {S : E → Prop} (h1 : Qu W b0 b m g cap N f') (h2 : Con S f' N ∧ Kp w W b m g ∧ ∀ k, n ≤ k → f' k = f k) (h3 : Nd f' n i0 i) (hi : i0 ≤ i) {e : Ending} (he : e = .returned (.bool (decide (i0 < i)))) :
    DownPost w b0 b m g cap N n i0 f S e W := by
  subst he
  exact ⟨_, rfl, f', h1, fun e => h3.1 (by simp at e; omega), fun e => h3.2 (by simp at e; omega), h2.1, h2.2.1, h2.2.2⟩
theorem less_at {w : World} {b0 b m g cap n : Nat} {f : Nat → E} (h : Qu w b0 b m g cap n f) {i j : Nat} (hi : i < n) (hj : j < n) {x y : Int} (hx : x = i) (hy : y = j) {v : Bool} (hv : decide ((f i).dl < (f j).dl) = v) :
    Calls Try.prog 39 #[.pointer (some ⟨b, 14, none⟩), .int .i64 x, .int .i64 y] w fun e w' => e = .returned (.bool v) ∧ w' = w.drew := by
  subst hx hy hv; exact less_walk h hi hj
theorem swap_at {w : World} {b0 b m g cap n : Nat} {f : Nat → E} (h : Qu w b0 b m g cap n f) {i j : Nat} (hi : i < n) (hj : j < n) (hij : i ≠ j) {x y : Int} (hx : x = i) (hy : y = j) :
    Calls Try.prog 42 #[.pointer (some ⟨b, 14, none⟩), .int .i64 x, .int .i64 y] w fun e w' => e = .returned (.tuple #[]) ∧ Qu w' b0 b m g cap n (HP.sw f i j) ∧ Kp w w' b m g := by
  subst hx hy; exact swap_walk h hi hj hij

set_option maxHeartbeats 4000000 in
theorem down_walk {w : World} {b0 b m g cap N n : Nat} {f : Nat → E} (h : Qu w b0 b m g cap N f) {i0 : Nat} (hi : i0 < n) (hN : n ≤ N) (hH : HDown f n i0 i0) {S : E → Prop} (hC : Con S f N) :
    Calls Try.prog 19 #[.iface 58 (.pointer (some ⟨b, 14, none⟩)), .int .i64 i0, .int .i64 n] w (DownPost w b0 b m g cap N n i0 f S) := by
  have ml : ∀ w : World, (method 214 58 (.pointer (some ⟨b, 14, none⟩)) "Less").run Try.prog w = .ok (39, .pointer (some ⟨b, 14, none⟩)) w := fun _ => by kernel_rfl
  have ms : ∀ w : World, (method 214 58 (.pointer (some ⟨b, 14, none⟩)) "Swap").run Try.prog w = .ok (42, .pointer (some ⟨b, 14, none⟩)) w := fun _ => by kernel_rfl
  have n4 := h.n4
  go_enter Try.func19, Try.ntmps19
  go_wp2
  go_loopw [7] (fun iv wr => ∃ (i : Nat) (f' : Nat → E), iv = .int .i64 i ∧ i0 ≤ i ∧ i < n ∧ Qu wr b0 b m g cap N f' ∧ HDown f' n i0 i ∧ Con S f' N ∧ Kp w wr b m g ∧ ∀ k, n ≤ k → f' k = f k) (fun iv _ => n - (intOf iv).toNat)
  case atStart => exact ⟨i0, f, rfl, Nat.le_refl _, hi, h, hH, hC, Kp.refl _ _ _ _, fun _ _ => rfl⟩
  case round =>
    obtain ⟨i, f', rfl, hi0, hin, hQ, hU, hC', hK, hV⟩ := hrel
    obtain ⟨j1, hj1⟩ : ∃ j1, j1 = 2 * i + 1 := ⟨_, rfl⟩
    have HF1 : Hid (j1 < n → (j1 + 1 < n → ¬ (f' (j1 + 1)).dl < (f' j1).dl) → Nx f' f n N i0 i j1 S) := fun h1 h2 => down_one hU hC' hi0 hN hin hj1 h1 h2 hV
    have HF2 : Hid (j1 + 1 < n → (f' (j1 + 1)).dl < (f' j1).dl → Nx f' f n N i0 i (j1 + 1) S) := fun h1 h2 => down_two hU hC' hi0 hN hin hj1 h1 h2 hV
    have HE : Hid (n ≤ j1 → Nd f' n i0 i) := fun h => down_none hU (by omega)
    have HV : Hid (Con S f' N ∧ Kp w wr b m g ∧ ∀ k, n ≤ k → f' k = f k) := ⟨hC', hK, hV⟩
    have hij : i < j1 := by omega
    clear hU hC' hK hV h hH hC
    have HJ : Hid (j1 = 2 * i + 1) := hj1
    clear hj1
    go_upto_region 3 with fail
    rw [show 2 * (i : Int) + 1 = (j1 : Int) by have := HJ.out; omega]
    by_cases hA : j1 < n
    · by_cases hB : j1 + 1 < n
      · by_cases l2 : (f' (j1 + 1)).dl < (f' j1).dl
        · go_wp2_with fail
          refine (less_at hQ (i := j1 + 1) (j := j1) (by omega) (by omega) (by omega) (by omega) (v := true) (by simp; omega)).mono ?_
          rintro e w1 ⟨rfl, rfl⟩
          have hF := HF2.out hB l2
          have HG : Hid _ := hF
          clear hF
          by_cases lc : (f' (j1 + 1)).dl < (f' i).dl
          · go_wp2_with fail
            refine (less_at hQ.drew (i := (j1 + 1)) (j := i) (by omega) (by omega) (by omega) (by omega) (v := true) (by simp; omega)).mono ?_
            rintro e w1 ⟨rfl, rfl⟩
            go_wp2_with fail
            refine (swap_at hQ.drew.drew (i := i) (j := (j1 + 1)) (by omega) (by omega) (by omega) (by omega) (by omega)).mono ?_
            rintro e w1 ⟨rfl, hQ1, hK1⟩
            go_wp2_with fail
            go_roundw
            case rel =>
              obtain ⟨h1, h2, h3⟩ := HG.out.1 lc
              exact ⟨(j1 + 1), sw f' i (j1 + 1), by first | rfl | go_num, by omega, by omega, hQ1, h1, h2, (HV.out.2.1.drew.drew).trans hK1, h3⟩
            case measure => simp [intOf]; omega
          · go_wp2_with fail
            refine (less_at hQ.drew (i := (j1 + 1)) (j := i) (by omega) (by omega) (by omega) (by omega) (v := false) (by simp; omega)).mono ?_
            rintro e w1 ⟨rfl, rfl⟩
            go_wp2_with fail
            go_ret
            exact down_fin hQ.drew.drew ⟨HV.out.1, HV.out.2.1.drew.drew, HV.out.2.2⟩ (HG.out.2 lc) hi0 rfl
        · go_wp2_with fail
          refine (less_at hQ (i := j1 + 1) (j := j1) (by omega) (by omega) (by omega) (by omega) (v := false) (by simp; omega)).mono ?_
          rintro e w1 ⟨rfl, rfl⟩
          have hF := HF1.out hA (fun _ => l2)
          have HG : Hid _ := hF
          clear hF
          by_cases lc : (f' j1).dl < (f' i).dl
          · go_wp2_with fail
            refine (less_at hQ.drew (i := j1) (j := i) (by omega) (by omega) (by omega) (by omega) (v := true) (by simp; omega)).mono ?_
            rintro e w1 ⟨rfl, rfl⟩
            go_wp2_with fail
            refine (swap_at hQ.drew.drew (i := i) (j := j1) (by omega) (by omega) (by omega) (by omega) (by omega)).mono ?_
            rintro e w1 ⟨rfl, hQ1, hK1⟩
            go_wp2_with fail
            go_roundw
            case rel =>
              obtain ⟨h1, h2, h3⟩ := HG.out.1 lc
              exact ⟨j1, sw f' i j1, by first | rfl | go_num, by omega, by omega, hQ1, h1, h2, (HV.out.2.1.drew.drew).trans hK1, h3⟩
            case measure => simp [intOf]; omega
          · go_wp2_with fail
            refine (less_at hQ.drew (i := j1) (j := i) (by omega) (by omega) (by omega) (by omega) (v := false) (by simp; omega)).mono ?_
            rintro e w1 ⟨rfl, rfl⟩
            go_wp2_with fail
            go_ret
            exact down_fin hQ.drew.drew ⟨HV.out.1, HV.out.2.1.drew.drew, HV.out.2.2⟩ (HG.out.2 lc) hi0 rfl
      · have hF := HF1.out hA (fun h => absurd h hB)
        have HG : Hid _ := hF
        clear hF
        by_cases lc : (f' j1).dl < (f' i).dl
        · go_wp2_with fail
          refine (less_at hQ (i := j1) (j := i) (by omega) (by omega) (by omega) (by omega) (v := true) (by simp; omega)).mono ?_
          rintro e w1 ⟨rfl, rfl⟩
          go_wp2_with fail
          refine (swap_at hQ.drew (i := i) (j := j1) (by omega) (by omega) (by omega) (by omega) (by omega)).mono ?_
          rintro e w1 ⟨rfl, hQ1, hK1⟩
          go_wp2_with fail
          go_roundw
          case rel =>
            obtain ⟨h1, h2, h3⟩ := HG.out.1 lc
            exact ⟨j1, sw f' i j1, by first | rfl | go_num, by omega, by omega, hQ1, h1, h2, (HV.out.2.1.drew).trans hK1, h3⟩
          case measure => simp [intOf]; omega
        · go_wp2_with fail
          refine (less_at hQ (i := j1) (j := i) (by omega) (by omega) (by omega) (by omega) (v := false) (by simp; omega)).mono ?_
          rintro e w1 ⟨rfl, rfl⟩
          go_wp2_with fail
          go_ret
          exact down_fin hQ.drew ⟨HV.out.1, HV.out.2.1.drew, HV.out.2.2⟩ (HG.out.2 lc) hi0 rfl
    · go_wp2_with fail
      go_ret
      exact down_fin hQ ⟨HV.out.1, HV.out.2.1, HV.out.2.2⟩ (HE.out (by omega)) hi0 rfl
end Go.Proofs.Qxb6612235a
