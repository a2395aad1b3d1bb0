import Derived.Test.Qxb6612235aPush
namespace Go.Proofs.Qxb6612235a
open Go.RowKit Go.Maps HP

theorem Kp.below {w w' : World} {b m g b0 : Nat} (h : Kp w w' b m g) (hb : b0 ≤ b) (hm : b0 ≤ m) (hg : b0 ≤ g) (hs : b0 ≤ w.heap.size) : Below b0 w w' :=
  ⟨h.os, h.tape, h.output, h.size, fun k hk => h.block k (by omega) (by omega) (by omega) (by omega)⟩
theorem Qu.size {w : World} {b0 b m g cap n : Nat} {f : Nat → E} (h : Qu w b0 b m g cap n f) : b0 ≤ w.heap.size := by
  have := cell_lt h.cE; have := h.lb; omega
theorem Qu.below {w w' : World} {b0 b m g cap n : Nat} {f : Nat → E} (h : Qu w b0 b m g cap n f) (k : Kp w w' b m g) : Below b0 w w' := k.below h.lb h.lm h.lg h.size

set_option maxHeartbeats 4000000 in
theorem heapPush_walk {w : World} {b0 b m n cap : Nat} {p : Option Addr} {f : Nat → E} (h : Qo w b0 b m n f p cap) (hn : n < 8192) {e : E} {S : E → Prop} (hf : ∀ x, S x → x.id ≠ e.id) (hw : (Lit.int .u32 e.id).wf = true) (hH : Heap f n) (hC : Con S f n) :
    Calls Try.prog 15 #[.iface 58 (.pointer (some ⟨b, 14, none⟩)), .iface 60 (.agg #[.int .u32 e.id, .int .i64 e.ttl, .int .i64 e.dl])] w fun r w' => r = .returned (.tuple #[]) ∧ (∃ g' cap' f', Qu w' b0 b m g' cap' (n + 1) f' ∧ Heap f' (n + 1) ∧ Con (fun x => S x ∨ x = e) f' (n + 1)) ∧ Below b0 w w' := by
  have ml : ∀ w : World, (method 214 58 (.pointer (some ⟨b, 14, none⟩)) "Len").run Try.prog w = .ok (38, .pointer (some ⟨b, 14, none⟩)) w := fun _ => by kernel_rfl
  have mp : ∀ w : World, (method 214 58 (.pointer (some ⟨b, 14, none⟩)) "Push").run Try.prog w = .ok (41, .pointer (some ⟨b, 14, none⟩)) w := fun _ => by kernel_rfl
  have hP := push_walk h hn (e := e) (fun k hk => hf _ (hC.1 k hk)) hw
  have HU : Hid (HUp (HP.snoc f n e) (n + 1) n ∧ Con (fun x => S x ∨ x = e) (HP.snoc f n e) (n + 1)) := ⟨hH.snoc e, hC.snoc hf⟩
  clear h hf hH hC
  go_enter Try.func15, Try.ntmps15
  go_wp2_with fail
  refine hP.mono ?_
  rintro r w1 ⟨rfl, ⟨g', cap', hQ⟩, hB⟩
  have hL := len_walk hQ
  have hUp := up_walk hQ (j := n) (n := n + 1) (Nat.lt_succ_self n) (Nat.le_refl _) HU.out.1 HU.out.2
  have HQ : Hid (Qu w1 b0 b m g' cap' (n + 1) (HP.snoc f n e) ∧ Below b0 w w1) := ⟨hQ, hB⟩
  clear hQ hB hP
  go_wp2_with fail
  refine hL.mono ?_
  rintro r w2 ⟨rfl, rfl⟩
  go_wp2_with fail
  refine hUp.mono ?_
  rintro r w3 ⟨rfl, f', hQ', hH', hC', hK', _⟩
  go_wp2_with fail
  go_end0
  obtain ⟨hQ, hB⟩ := HQ.out
  exact ⟨rfl, ⟨g', cap', f', hQ', hH', hC'⟩, hB.trans (hQ.below hK')⟩

theorem Heap.less {f : Nat → E} {n : Nat} (h : Heap f (n + 1)) : Heap f n := fun k h1 hk => h k h1 (by omega)

/-- What Remove leaves. -/
def Removed (w : World) (b0 b m g cap n : Nat) (S : E → Prop) (a : Int) (w' : World) : Prop :=
  ∃ f', Qu w' b0 b m g cap n f' ∧ Heap f' n ∧ Con (fun x => S x ∧ x.id ≠ a) f' n ∧ Kp w w' b m g

set_option maxHeartbeats 4000000 in
theorem remove_last {w : World} {b0 b m g cap n : Nat} {f : Nat → E} (h : Qu w b0 b m g cap (n + 1) f) {S : E → Prop} (hH : Heap f (n + 1)) (hC : Con S f (n + 1)) :
    Calls Try.prog 18 #[.iface 58 (.pointer (some ⟨b, 14, none⟩)), .int .i64 n] w fun r w' => (∃ v, r = .returned v) ∧ Removed w b0 b m g cap n S (f n).id w' := by
  have ml : ∀ w : World, (method 214 58 (.pointer (some ⟨b, 14, none⟩)) "Len").run Try.prog w = .ok (38, .pointer (some ⟨b, 14, none⟩)) w := fun _ => by kernel_rfl
  have mp : ∀ w : World, (method 214 58 (.pointer (some ⟨b, 14, none⟩)) "Pop").run Try.prog w = .ok (40, .pointer (some ⟨b, 14, none⟩)) w := fun _ => by kernel_rfl
  have n4 := h.n4
  have hL := len_walk h
  have hP := pop_walk h
  have HC : Hid (Heap f n ∧ Con (fun x => S x ∧ x.id ≠ (f n).id) f n) := ⟨Heap.less hH, hC.strike⟩
  clear h hH hC
  go_enter Try.func18, Try.ntmps18
  go_wp2_with fail
  refine hL.mono ?_
  rintro r w2 ⟨rfl, rfl⟩
  go_wp2_with fail
  refine hP.mono ?_
  rintro r w3 ⟨rfl, hQ, hK⟩
  go_wp2_with fail
  go_ret
  exact ⟨⟨_, rfl⟩, f, hQ, HC.out.1, HC.out.2, hK⟩

set_option maxHeartbeats 4000000 in
theorem remove_inner {w : World} {b0 b m g cap n i : Nat} {f : Nat → E} (h : Qu w b0 b m g cap (n + 1) f) (hi : i < n) {S : E → Prop} (hH : Heap f (n + 1)) (hC : Con S f (n + 1)) :
    Calls Try.prog 18 #[.iface 58 (.pointer (some ⟨b, 14, none⟩)), .int .i64 i] w fun r w' => (∃ v, r = .returned v) ∧ Removed w b0 b m g cap n S (f i).id w' := by
  have ml : ∀ w : World, (method 214 58 (.pointer (some ⟨b, 14, none⟩)) "Len").run Try.prog w = .ok (38, .pointer (some ⟨b, 14, none⟩)) w := fun _ => by kernel_rfl
  have ms : ∀ w : World, (method 214 58 (.pointer (some ⟨b, 14, none⟩)) "Swap").run Try.prog w = .ok (42, .pointer (some ⟨b, 14, none⟩)) w := fun _ => by kernel_rfl
  have mp : ∀ w : World, (method 214 58 (.pointer (some ⟨b, 14, none⟩)) "Pop").run Try.prog w = .ok (40, .pointer (some ⟨b, 14, none⟩)) w := fun _ => by kernel_rfl
  have n4 := h.n4
  have hL := len_walk h
  have hS := swap_walk h (i := i) (j := n) (by omega) (by omega) (by omega)
  have HC : Hid (HDown (sw f i n) n i i ∧ Con S (sw f i n) (n + 1)) := ⟨hH.cut hi, hC.sw (by omega) (by omega)⟩
  clear h hH hC
  go_enter Try.func18, Try.ntmps18
  go_wp2_with fail
  refine hL.mono ?_
  rintro r w2 ⟨rfl, rfl⟩
  go_wp2_with fail
  refine hS.mono ?_
  rintro r w3 ⟨rfl, hQ3, hK3⟩
  have hD := down_walk hQ3 hi (Nat.le_succ n) HC.out.1 HC.out.2
  clear hQ3
  have HK : Hid (Kp w2 w3 b m g) := hK3
  clear hK3
  go_wp2_with fail
  refine hD.mono ?_
  rintro r w4 ⟨v, rfl, f4, hQ4, hH4, hU4, hC4, hK4, hV4⟩
  have e4 : (f4 n).id = (f i).id := by rw [hV4 n (Nat.le_refl _), sw_j]
  cases v
  · have hU := hU4 rfl
    have hUp := up_walk hQ4 hi (Nat.le_succ n) hU hC4
    have HE : Hid ((f4 n).id = (f i).id ∧ Kp w2 w4 b m g) := ⟨e4, HK.out.trans hK4⟩
    clear e4 hV4 hH4 hU4 hU hC4 hK4 hQ4
    go_wp2_with fail
    refine hUp.mono ?_
    rintro r w5 ⟨rfl, f5, hQ5, hH5, hC5, hK5, hV5⟩
    have hP := pop_walk hQ5
    have HF : Hid (Heap f5 n ∧ Con (fun x => S x ∧ x.id ≠ (f i).id) f5 n ∧ Kp w2 w5 b m g) := by
      have h1 := hC5.strike
      rw [hV5 n (Nat.le_refl _), HE.out.1] at h1
      exact ⟨hH5, h1, HE.out.2.trans hK5⟩
    clear hQ5 hH5 hC5 hK5 hV5
    go_wp2_with fail
    refine hP.mono ?_
    rintro r w6 ⟨rfl, hQ, hK⟩
    go_wp2_with fail
    go_ret
    exact ⟨⟨_, rfl⟩, f5, hQ, HF.out.1, HF.out.2.1, HF.out.2.2.trans hK⟩
  · have hHp := hH4 rfl
    have hP := pop_walk hQ4
    have HF : Hid (Heap f4 n ∧ Con (fun x => S x ∧ x.id ≠ (f i).id) f4 n ∧ Kp w2 w4 b m g) := by
      have h1 := hC4.strike
      rw [e4] at h1
      exact ⟨hHp, h1, HK.out.trans hK4⟩
    clear e4 hV4 hH4 hU4 hHp hC4 hK4 hQ4
    go_wp2_with fail
    refine hP.mono ?_
    rintro r w6 ⟨rfl, hQ, hK⟩
    go_wp2_with fail
    go_ret
    exact ⟨⟨_, rfl⟩, f4, hQ, HF.out.1, HF.out.2.1, HF.out.2.2.trans hK⟩

theorem remove_walk {w : World} {b0 b m g cap n i : Nat} {f : Nat → E} (h : Qu w b0 b m g cap (n + 1) f) (hi : i < n + 1) {S : E → Prop} (hH : Heap f (n + 1)) (hC : Con S f (n + 1)) :
    Calls Try.prog 18 #[.iface 58 (.pointer (some ⟨b, 14, none⟩)), .int .i64 i] w fun r w' => (∃ v, r = .returned v) ∧ Removed w b0 b m g cap n S (f i).id w' := by
  by_cases e : i = n
  · subst e; exact remove_last h hH hC
  · exact remove_inner h (by omega) hH hC
end Go.Proofs.Qxb6612235a
