import Derived.Test.Qxb6612371aShow
namespace Go.Proofs.Qxb6612371a
open Go.Conc Go.RowKit

theorem bytes32 : ∃ i, Try.prog.info? 32 = some i ∧ i.bytes = 0 := by
  have h : (Try.prog.info? 32).map (·.bytes) = some 0 := by kernel_rfl
  obtain ⟨i, hi, hb⟩ := Option.map_eq_some_iff.1 h
  exact ⟨i, hi, hb⟩
theorem mkc (n : Nat) (w : World) (hn : n ≤ 1024) : (Instr.makeChan 40 (.int .i64 n)).run Try.prog w = .ok (.chan (some w.heap.size)) (w.alloc (.chan n #[] false 0 0 false)) := by
  obtain ⟨i, hi, hb⟩ := bytes32
  simpa using run_makeChan (P := Try.prog) (w := w) Try.underlying40 hi .i64 n (by omega) (by rw [hb]; omega)

/-- The helper's block as it is laid, and its channel. -/
theorem Hp.made (w : World) (hd : Int) (n : Nat) : Hp ((w.alloc (.cells #[.slice none 0 0, .int .u64 hd, .int .u64 0, .int .u64 0, .int .u64 0, .int .u32 0, .chan (some (w.heap.size + 1)), .int .u32 0] 42)).alloc (.chan n #[] false 0 0 false)) w.heap.size hd 0 false false (some (w.heap.size + 1)) n 0 := by
  obtain ⟨W, hW⟩ : ∃ W : World, W = w.alloc (.cells #[.slice none 0 0, .int .u64 hd, .int .u64 0, .int .u64 0, .int .u64 0, .int .u32 0, .chan (some (w.heap.size + 1)), .int .u32 0] 42) := ⟨_, rfl⟩
  rw [← hW]
  have hz : W.heap.size = w.heap.size + 1 := by rw [hW]; simp
  have e : ∀ i, (W.alloc (.chan n #[] false 0 0 false)).cell? ⟨w.heap.size, i, none⟩ = W.cell? ⟨w.heap.size, i, none⟩ := fun i => World.cell?_alloc_old W _ _ (by simp [hz])
  refine ⟨(e 1).trans ?_, (e 2).trans ?_, (e 5).trans ?_, (e 6).trans ?_, (e 7).trans ?_, fun i => ?_, ?_, fun h => by cases h⟩
  · rw [hW]; simp [go_sem]
  · rw [hW]; simp [go_sem]
  · rw [hW]; simp [go_sem, bi]
  · rw [hW]; simp [go_sem]
  · rw [hW]; simp [go_sem, bi]
  · have hb : Below W.heap.size W (W.alloc (.chan n #[] false 0 0 false)) := (Below.refl _ _).alloc (Nat.le_refl _) _
    rw [hb.frozen (p := ⟨w.heap.size, i, none⟩) (by simp [hz]), hW]
    simp [go_sem]
  · intro C hC
    obtain rfl : w.heap.size + 1 = C := by simpa using hC
    refine ⟨by omega, #[], 0, 0, rfl, ?_⟩
    rw [← hz]
    exact heap_alloc_new _ _

theorem Hp.bare (w : World) (hd : Int) : Hp (w.alloc (.cells #[.slice none 0 0, .int .u64 hd, .int .u64 0, .int .u64 0, .int .u64 0, .int .u32 0, .chan none, .int .u32 0] 42)) w.heap.size hd 0 false false none 0 0 := by
  refine ⟨?_, ?_, ?_, ?_, ?_, fun i => ?_, (fun C h => by cases h), fun _ => Nat.le_refl _⟩
  all_goals simp [go_sem, bi]

set_option maxHeartbeats 2000000 in
theorem helper_chan {w : World} (hd sh : Int) (sl st : Bool) (cap len : Nat) (hcap : cap ≤ 1024) (hlen : len ≤ cap) :
    Calls Try.prog 7 #[.int .u64 hd, .int .u64 sh, .bool sl, .bool st, .int .i64 cap, .int .i64 len] w fun e w' => e = .returned (.pointer (some ⟨w.heap.size, 0, none⟩)) ∧ Hp w' w.heap.size hd sh sl st (some (w.heap.size + 1)) cap len ∧ Below w.heap.size w w' ∧ w.heap.size + 1 < w'.heap.size := by
  have hmk := fun v => mkc cap v hcap
  have hge : (0 : Int) ≤ cap := by omega
  go_enter Try.func7, Try.ntmps7
  go_wp2
  obtain ⟨W, hW⟩ : ∃ W : World, W = (w.alloc (.cells #[.slice none 0 0, .int .u64 hd, .int .u64 0, .int .u64 0, .int .u64 0, .int .u32 0, .chan (some (w.heap.size + 1)), .int .u32 0] 42)).alloc (.chan cap #[] false 0 0 false) := ⟨_, rfl⟩
  have hp0 := Hp.made w hd cap
  have hb0 : Below w.heap.size w W := by rw [hW]; exact ((Below.refl _ _).alloc (Nat.le_refl _) _).alloc (by simp) _
  have hz0 : w.heap.size + 1 < W.heap.size := by rw [hW]; simp
  rw [← hW] at hp0 ⊢
  clear hW
  go_loopw [14] (fun i wr => ∃ k : Nat, k ≤ len ∧ i = .int .i64 k ∧ Hp wr w.heap.size hd 0 false false (some (w.heap.size + 1)) cap k ∧ Below w.heap.size w wr ∧ w.heap.size + 1 < wr.heap.size) (fun i _ => len - (intOf i).toNat)
  case atStart => exact ⟨0, Nat.zero_le _, rfl, hp0, hb0, hz0⟩
  case round =>
    obtain ⟨k, hk, rfl, hp, hb, hz⟩ := hrel
    clear hp0 hb0 hz0
    by_cases hlt : k < len
    · obtain ⟨hne, buf, s, r, hbs, hC⟩ := hp.hc _ rfl
      have g6 := hp.h6
      repeat (first | (with_reducible refine wp_of_sems (id := 7) ?_) | go_values | go_skip | go_guarded | go_step | go_upon | go_back)
      rename_i K hK
      change Sems _ _ _ [0, 1, 2, 3, 4, 5] _ _
      refine sems_same (v := .pointer (some ⟨w.heap.size, 0, none⟩)) rfl rfl (by simp [go_sem, execOp, Act.eval]) ?_
      refine sems_same (v := .pointer (some ⟨w.heap.size, 0, none⟩)) rfl rfl (by simp [go_sem, execOp, Act.eval, Act.put]) ?_
      refine sems_same (v := .pointer (some ⟨w.heap.size, 6, none⟩)) rfl rfl (by simp [go_sem, execOp, Act.eval, Act.put]) ?_
      refine sems_same (v := .chan (some (w.heap.size + 1))) rfl rfl (by simp [go_sem, execOp, Act.eval, Act.put, g6]) ?_
      refine sems_same (v := .agg #[]) rfl rfl (by simp [go_sem, execOp, Act.eval, Act.put]) ?_
      refine Sems.send (c := w.heap.size + 1) (v := .agg #[]) (z := .tuple #[]) (w₁ := wr) rfl rfl (by simp [go_sem, execOp, scase, Act.eval, Act.put]) hC (by omega) ?_
      have hp2 := hp.sent (buf := buf.push (.agg #[])) (s := s + 1) (r := r) (by simp [hbs])
      have hb2 := below_setChan hb (Nat.le_succ _) cap (buf.push (.agg #[])) false (s + 1) r false
      have hz2 := size_setChan wr (w.heap.size + 1) cap (buf.push (.agg #[])) false (s + 1) r false
      rw [← hz2] at hz
      generalize World.setChan wr (w.heap.size + 1) cap (buf.push (.agg #[])) false (s + 1) r false = w2 at *
      refine Sems.of_ops (hK _ _ ?_)
      clear hK K
      simp only [Act.put]
      go_wp2
      go_roundw
      case rel => exact ⟨k + 1, by omega, by go_num, hp2, hb2, hz⟩
      case measure => simp [intOf]; omega
    · obtain rfl : k = len := by omega
      have h1 := hp.set2 sh
      have h2 := (h1.set5 sl).drew
      have h3 := (h2.set7 st).drew
      go_wp2_with (first | (go_at_call 10; refine (store64_walk _ 2 sh hp.h2 (hp.fz 2)).mono ?_; rintro _ _ ⟨rfl, rfl⟩) | (go_at_call_of 11 (Value.pointer (some ⟨w.heap.size, 5, none⟩)); refine (storeB_walk _ 5 sl h1.h5 (h1.fz 5)).mono ?_; rintro _ _ ⟨rfl, rfl⟩) | (go_at_call 11; refine (storeB_walk _ 7 st h2.h7 (h2.fz 7)).mono ?_; rintro _ _ ⟨rfl, rfl⟩))
      go_ret
      exact ⟨rfl, h3, ((((hb.setCell (p := ⟨w.heap.size, 2, none⟩) (Nat.le_refl _) _).setCell (p := ⟨w.heap.size, 5, none⟩) (Nat.le_refl _) _).drew).setCell (p := ⟨w.heap.size, 7, none⟩) (Nat.le_refl _) _).drew, by simpa using hz⟩

theorem helper_nil {w : World} (hd sh : Int) (sl st : Bool) :
    Calls Try.prog 7 #[.int .u64 hd, .int .u64 sh, .bool sl, .bool st, .int .i64 (-1), .int .i64 0] w fun e w' => e = .returned (.pointer (some ⟨w.heap.size, 0, none⟩)) ∧ Hp w' w.heap.size hd sh sl st none 0 0 ∧ Below w.heap.size w w' ∧ w.heap.size < w'.heap.size := by
  have hp := Hp.bare w hd
  have hb : Below w.heap.size w (w.alloc (.cells #[.slice none 0 0, .int .u64 hd, .int .u64 0, .int .u64 0, .int .u64 0, .int .u32 0, .chan none, .int .u32 0] 42)) := (Below.refl _ _).alloc (Nat.le_refl _) _
  have hz : w.heap.size < (w.alloc (.cells #[.slice none 0 0, .int .u64 hd, .int .u64 0, .int .u64 0, .int .u64 0, .int .u32 0, .chan none, .int .u32 0] 42)).heap.size := by simp
  go_enter Try.func7, Try.ntmps7
  go_wp2
  generalize w.alloc (.cells #[.slice none 0 0, .int .u64 hd, .int .u64 0, .int .u64 0, .int .u64 0, .int .u32 0, .chan none, .int .u32 0] 42) = W at *
  go_loopw [14] (fun i wr => i = .int .i64 0 ∧ wr = W) (fun _ _ => 0)
  case atStart => exact ⟨rfl, rfl⟩
  case round =>
    obtain ⟨rfl, rfl⟩ := hrel
    have h1 := hp.set2 sh
    have h2 := (h1.set5 sl).drew
    have h3 := (h2.set7 st).drew
    go_wp2_with (first | (go_at_call 10; refine (store64_walk _ 2 sh hp.h2 (hp.fz 2)).mono ?_; rintro _ _ ⟨rfl, rfl⟩) | (go_at_call_of 11 (Value.pointer (some ⟨w.heap.size, 5, none⟩)); refine (storeB_walk _ 5 sl h1.h5 (h1.fz 5)).mono ?_; rintro _ _ ⟨rfl, rfl⟩) | (go_at_call 11; refine (storeB_walk _ 7 st h2.h7 (h2.fz 7)).mono ?_; rintro _ _ ⟨rfl, rfl⟩))
    go_ret
    exact ⟨rfl, h3, ((((hb.setCell (p := ⟨w.heap.size, 2, none⟩) (Nat.le_refl _) _).setCell (p := ⟨w.heap.size, 5, none⟩) (Nat.le_refl _) _).drew).setCell (p := ⟨w.heap.size, 7, none⟩) (Nat.le_refl _) _).drew, by simpa using hz⟩

/-- What the law lets through: the channel's room and the tokens that lie in it. -/
def fits (wc wl : Int) (ch : Option Nat) (cap len : Nat) (B : Nat) : Prop :=
  wl = len ∧ len ≤ cap ∧ ((wc = -1 ∧ ch = none ∧ cap = 0) ∨ (wc = cap ∧ ch = some (B + 1) ∧ cap ≤ 1024))

theorem helper_walk {w : World} (hd sh : Int) (sl st : Bool) {wc wl : Int} {ch : Option Nat} {cap len : Nat} (h : fits wc wl ch cap len w.heap.size) :
    Calls Try.prog 7 #[.int .u64 hd, .int .u64 sh, .bool sl, .bool st, .int .i64 wc, .int .i64 wl] w fun e w' => e = .returned (.pointer (some ⟨w.heap.size, 0, none⟩)) ∧ Hp w' w.heap.size hd sh sl st ch cap len ∧ Below w.heap.size w w' ∧ w.heap.size < w'.heap.size := by
  obtain ⟨rfl, hl, h | h⟩ := h
  · obtain ⟨rfl, rfl, rfl⟩ := h
    obtain rfl : len = 0 := by omega
    exact helper_nil hd sh sl st
  · obtain ⟨rfl, rfl, hc⟩ := h
    refine (helper_chan hd sh sl st cap len hc hl).mono ?_
    rintro _ _ ⟨rfl, h1, h2, h3⟩
    exact ⟨rfl, h1, h2, by omega⟩
end Go.Proofs.Qxb6612371a
