import Derived.Test.Qxb6612371aLaw
namespace Go.Proofs.Qxb6612371a
open Go.Conc Go.RowKit

theorem model_awake {w : World} (hd : Int) (st : Bool) (wc wl : Int) :
    Calls Try.prog 6 #[.agg #[.int .u64 hd, .int .u64 hd, .bool false, .bool st, .int .i64 wl], .int .u64 hd, .bool false, .bool st, .int .i64 wc, .int .i64 wl] w fun e w' => e = .returned (.bool true) ∧ Below w.heap.size w w' := by
  have hh : (hd == hd) = true := by simp
  have hs : (st == st) = true := by simp
  have hl : (wl == wl) = true := by simp
  go_enter Try.func6, Try.ntmps6
  go_wp2
  go_ret
  exact ⟨by simp, (Below.refl _ _).alloc (Nat.le_refl _) _⟩
theorem model_more {w : World} (hd : Int) (st : Bool) (wc wl n2 : Int) (h : wl < wc) (hw : IntKind.i64.wrap (wl + 1) = n2) :
    Calls Try.prog 6 #[.agg #[.int .u64 hd, .int .u64 hd, .bool false, .bool st, .int .i64 n2], .int .u64 hd, .bool true, .bool st, .int .i64 wc, .int .i64 wl] w fun e w' => e = .returned (.bool true) ∧ Below w.heap.size w w' := by
  have hh : (hd == hd) = true := by simp
  have hs : (st == st) = true := by simp
  have hl : (n2 == n2) = true := by simp
  go_enter Try.func6, Try.ntmps6
  go_wp2
  go_ret
  exact ⟨by simp, (Below.refl _ _).alloc (Nat.le_refl _) _⟩
theorem model_same {w : World} (hd : Int) (st : Bool) (wc wl : Int) (h : ¬ wl < wc) :
    Calls Try.prog 6 #[.agg #[.int .u64 hd, .int .u64 hd, .bool false, .bool st, .int .i64 wl], .int .u64 hd, .bool true, .bool st, .int .i64 wc, .int .i64 wl] w fun e w' => e = .returned (.bool true) ∧ Below w.heap.size w w' := by
  have hh : (hd == hd) = true := by simp
  have hs : (st == st) = true := by simp
  have hl : (wl == wl) = true := by simp
  go_enter Try.func6, Try.ntmps6
  go_wp2
  go_ret
  exact ⟨by simp, (Below.refl _ _).alloc (Nat.le_refl _) _⟩

theorem model_walk {w : World} (hd : Int) (sl st : Bool) (wc wl : Int) {ch : Option Nat} {cap len n2 : Nat} (hf : fits wc wl ch cap len w.heap.size) (hn : tok sl cap len = n2) :
    Calls Try.prog 6 #[.agg #[.int .u64 hd, .int .u64 hd, .bool false, .bool st, .int .i64 n2], .int .u64 hd, .bool sl, .bool st, .int .i64 wc, .int .i64 wl] w fun e w' => e = .returned (.bool true) ∧ Below w.heap.size w w' := by
  obtain ⟨rfl, hl, hf⟩ := hf
  have hcap : cap ≤ 1024 := by rcases hf with h | h <;> omega
  have hwc : (len : Int) < wc ↔ len < cap := by rcases hf with h | h <;> omega
  cases sl with
  | false => obtain rfl : len = n2 := by simpa [tok] using hn
             exact model_awake _ _ _ _
  | true =>
    by_cases hlt : len < cap
    · obtain rfl : len + 1 = n2 := by simpa [tok, hlt] using hn
      exact model_more _ _ _ _ _ (hwc.2 hlt) (by rw [IntKind.wrap_i64]; omega)
    · obtain rfl : len = n2 := by simpa [tok, hlt] using hn
      exact model_same _ _ _ _ (fun h => hlt (hwc.1 h))

def V5 (W : World) (g : Nat) (hd : Int) (st : Bool) (n2 : Nat) : Prop :=
  g < W.heap.size ∧ W.cell? ⟨g, 0, none⟩ = some (.int .u64 hd) ∧ W.cell? ⟨g, 1, none⟩ = some (.int .u64 hd) ∧ W.cell? ⟨g, 2, none⟩ = some (.bool false) ∧ W.cell? ⟨g, 3, none⟩ = some (.bool st) ∧ W.cell? ⟨g, 4, none⟩ = some (.int .i64 n2)
theorem V5.new (w : World) (hd : Int) (st : Bool) (n2 : Nat) : V5 (w.alloc (.cells #[.int .u64 hd, .int .u64 hd, .bool false, .bool st, .int .i64 n2] 24)) w.heap.size hd st n2 := by
  refine ⟨by simp, ?_, ?_, ?_, ?_, ?_⟩
  all_goals simp [go_sem]
theorem V5.step {W W' : World} {g : Nat} {hd : Int} {st : Bool} {n2 : Nat} (h : V5 W g hd st n2) (b : Below W.heap.size W W') : V5 W' g hd st n2 := by
  obtain ⟨hg, c0, c1, c2, c3, c4⟩ := h
  have e : ∀ i, W'.cell? ⟨g, i, none⟩ = W.cell? ⟨g, i, none⟩ := fun i => b.cell (p := ⟨g, i, none⟩) hg
  exact ⟨Nat.lt_of_lt_of_le hg b.size, (e 0).trans c0, (e 1).trans c1, (e 2).trans c2, (e 3).trans c3, (e 4).trans c4⟩
theorem V5.alloc {W : World} {g : Nat} {hd : Int} {st : Bool} {n2 : Nat} (h : V5 W g hd st n2) (o : Obj) : V5 (W.alloc o) g hd st n2 :=
  h.step ((Below.refl _ _).alloc (Nat.le_refl _) _)
theorem law_bel {w w2 w3 w4 : World} {o1 o2 : Obj} (b2 : Below w.heap.size w w2) (b3 : Below (w2.alloc o1).heap.size (w2.alloc o1) w3) (b4 : Below (w3.alloc o2).heap.size (w3.alloc o2) w4) : Below w.heap.size w w4 := by
  have z2 := b2.size
  have z3 := b3.size
  simp at z3
  exact (((b2.alloc z2 _).trans (b3.mono (by simp; omega))).alloc (by omega) _).trans (b4.mono (by simp; omega))

set_option maxHeartbeats 2000000 in
theorem law_main {w : World} (hd sh : Int) (sl st : Bool) (wc wl : Int) (cap len n2 : Nat) (hf : ∀ B, ∃ ch, fits wc wl ch cap len B) (hn : tok sl cap len = n2) (h1 : ¬ wc < -1) (h2 : ¬ 1024 < wc) (h3 : ¬ wl < 0) (h4 : wc < 0 → ¬ 0 < wl) (h5 : ¬ wc < 0 → ¬ wc < wl) :
    Calls Try.prog 3 #[.int .u64 hd, .int .u64 sh, .bool sl, .bool st, .int .i64 wc, .int .i64 wl] w fun e w' => e = .returned (.bool true) ∧ Below w.heap.size w w' := by
  have hh : (hd == hd) = true := by simp
  have hs : (st == st) = true := by simp
  have hl : ((n2 : Int) == (n2 : Int)) = true := by simp
  by_cases hneg : wc < 0
  · have h4' := h4 hneg
    clear h4 h5
    go_enter Try.func3, Try.ntmps3
    go_wp2_with (first
      | (go_at_call 4; refine (once_walk hd sh sl st hf hn).mono ?_; rintro _ w2 ⟨rfl, b2⟩; have v0 := V5.new w2 hd st n2)
      | (go_at_call 5; refine (twice_walk hd sh sl st hf hn).mono ?_; rintro _ w3 ⟨rfl, b3⟩; have v1 := (v0.step b3).alloc (.cells #[.int .u64 hd, .int .u64 hd, .bool false, .bool st, .int .i64 n2] 24); have v2 := V5.new w3 hd st n2)
      | (go_at_call 6; obtain ⟨ch, hf1⟩ := hf _; refine (model_walk hd sl st wc wl hf1 hn).mono ?_; rintro _ w4 ⟨rfl, b4⟩; obtain ⟨_, x0, x1, x2, x3, x4⟩ := v1.step b4; obtain ⟨_, y0, y1, y2, y3, y4⟩ := v2.step b4))
    go_ret
    exact ⟨by simp, law_bel b2 b3 b4⟩
  · have h5' := h5 hneg
    clear h4 h5
    go_enter Try.func3, Try.ntmps3
    go_wp2_with (first
      | (go_at_call 4; refine (once_walk hd sh sl st hf hn).mono ?_; rintro _ w2 ⟨rfl, b2⟩; have v0 := V5.new w2 hd st n2)
      | (go_at_call 5; refine (twice_walk hd sh sl st hf hn).mono ?_; rintro _ w3 ⟨rfl, b3⟩; have v1 := (v0.step b3).alloc (.cells #[.int .u64 hd, .int .u64 hd, .bool false, .bool st, .int .i64 n2] 24); have v2 := V5.new w3 hd st n2)
      | (go_at_call 6; obtain ⟨ch, hf1⟩ := hf _; refine (model_walk hd sl st wc wl hf1 hn).mono ?_; rintro _ w4 ⟨rfl, b4⟩; obtain ⟨_, x0, x1, x2, x3, x4⟩ := v1.step b4; obtain ⟨_, y0, y1, y2, y3, y4⟩ := v2.step b4))
    go_ret
    exact ⟨by simp, law_bel b2 b3 b4⟩

theorem law_walk (hd sh : Int) (sl st : Bool) (wc wl : Int) (w : World) :
    Calls Try.prog 3 #[.int .u64 hd, .int .u64 sh, .bool sl, .bool st, .int .i64 wc, .int .i64 wl] w fun e w' => e = .returned (.bool true) ∧ Below w.heap.size w w' := by
  by_cases h1 : wc < -1
  · go_enter Try.func3, Try.ntmps3
    go_wp2
    go_ret
    exact ⟨rfl, Below.refl _ _⟩
  by_cases h2 : 1024 < wc
  · go_enter Try.func3, Try.ntmps3
    go_wp2
    go_ret
    exact ⟨rfl, Below.refl _ _⟩
  by_cases h3 : wl < 0
  · by_cases hneg : wc < 0 <;>
    · go_enter Try.func3, Try.ntmps3
      go_wp2
      go_ret
      exact ⟨rfl, Below.refl _ _⟩
  by_cases hneg : wc < 0
  · by_cases h4 : 0 < wl
    · go_enter Try.func3, Try.ntmps3
      go_wp2
      go_ret
      exact ⟨rfl, Below.refl _ _⟩
    · exact law_main hd sh sl st wc wl 0 0 (tok sl 0 0) (fun B => ⟨none, by omega, Nat.le_refl _, .inl ⟨by omega, rfl, rfl⟩⟩) rfl h1 h2 h3 (fun _ => h4) (fun h => absurd hneg h)
  · by_cases h4 : wc < wl
    · go_enter Try.func3, Try.ntmps3
      go_wp2
      go_ret
      exact ⟨rfl, Below.refl _ _⟩
    · exact law_main hd sh sl st wc wl wc.toNat wl.toNat _ (fun B => ⟨some (B + 1), by omega, by omega, .inr ⟨by omega, rfl, by omega⟩⟩) rfl h1 h2 h3 (fun h => absurd h hneg) (fun _ => h4)
end Go.Proofs.Qxb6612371a
