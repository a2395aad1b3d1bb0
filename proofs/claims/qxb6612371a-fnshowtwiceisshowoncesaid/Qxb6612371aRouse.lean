import Derived.Test.Qxb6612371aLeafs
namespace Go.Proofs.Qxb6612371a
open Go.Conc Go.RowKit

/-- The helper at block B: handed, shown, asleep, stop, and its channel (nil or a block of its own) with room for cap and len in it. -/
structure Hp (w : World) (B : Nat) (hd sh : Int) (sl st : Bool) (ch : Option Nat) (cap len : Nat) : Prop where
  h1 : w.cell? ⟨B, 1, none⟩ = some (.int .u64 hd)
  h2 : w.cell? ⟨B, 2, none⟩ = some (.int .u64 sh)
  h5 : w.cell? ⟨B, 5, none⟩ = some (.int .u32 (bi sl))
  h6 : w.cell? ⟨B, 6, none⟩ = some (.chan ch)
  h7 : w.cell? ⟨B, 7, none⟩ = some (.int .u32 (bi st))
  fz : ∀ i, w.frozen? ⟨B, i, none⟩ = false
  hc : ∀ C, ch = some C → C ≠ B ∧ ∃ buf s r, buf.size = len ∧ w.heap[C]? = some (.chan cap buf false s r false)
  hn : ch = none → cap ≤ len

section
variable {w : World} {B : Nat} {hd sh : Int} {sl st : Bool} {ch : Option Nat} {cap len : Nat}
theorem Hp.drew (h : Hp w B hd sh sl st ch cap len) : Hp w.drew B hd sh sl st ch cap len := ⟨h.h1, h.h2, h.h5, h.h6, h.h7, h.fz, h.hc, h.hn⟩

theorem other {w : World} {B i j : Nat} {v u : Value} (hij : i ≠ j) (h : w.cell? ⟨B, j, none⟩ = some v) : (w.setCell ⟨B, i, none⟩ u).cell? ⟨B, j, none⟩ = some v := by
  exact (World.cell?_setCell_other w ⟨B, i, none⟩ ⟨B, j, none⟩ u (by intro e; injection e; contradiction)).trans h

theorem Hp.chans (h : Hp w B hd sh sl st ch cap len) (i : Nat) (u : Value) : ∀ C, ch = some C → C ≠ B ∧ ∃ buf s r, buf.size = len ∧ (w.setCell ⟨B, i, none⟩ u).heap[C]? = some (.chan cap buf false s r false) := by
  intro C hC
  obtain ⟨hne, buf, s, r, hb, hw⟩ := h.hc C hC
  exact ⟨hne, buf, s, r, hb, by rw [heap_setCell_other _ _ _ _ hne]; exact hw⟩

theorem Hp.set2 (h : Hp w B hd sh sl st ch cap len) (x : Int) : Hp (w.setCell ⟨B, 2, none⟩ (.int .u64 x)) B hd x sl st ch cap len :=
  ⟨other (by decide) h.h1, World.cell?_setCell_same _ _ _ h.h2, other (by decide) h.h5, other (by decide) h.h6, other (by decide) h.h7, fun i => by rw [World.frozen?_setCell]; exact h.fz i, h.chans 2 _, h.hn⟩
theorem Hp.set5 (h : Hp w B hd sh sl st ch cap len) (x : Bool) : Hp (w.setCell ⟨B, 5, none⟩ (.int .u32 (bi x))) B hd sh x st ch cap len :=
  ⟨other (by decide) h.h1, other (by decide) h.h2, World.cell?_setCell_same _ _ _ h.h5, other (by decide) h.h6, other (by decide) h.h7, fun i => by rw [World.frozen?_setCell]; exact h.fz i, h.chans 5 _, h.hn⟩
theorem Hp.set7 (h : Hp w B hd sh sl st ch cap len) (x : Bool) : Hp (w.setCell ⟨B, 7, none⟩ (.int .u32 (bi x))) B hd sh sl x ch cap len :=
  ⟨other (by decide) h.h1, other (by decide) h.h2, other (by decide) h.h5, other (by decide) h.h6, World.cell?_setCell_same _ _ _ h.h7, fun i => by rw [World.frozen?_setCell]; exact h.fz i, h.chans 7 _, h.hn⟩

theorem heap_setChan_other (w : World) (c cap : Nat) (buf : Array Value) (cl : Bool) (s r : Nat) (tm : Bool) {k : Nat} (h : k ≠ c) : (w.setChan c cap buf cl s r tm).heap[k]? = w.heap[k]? := by
  simp only [World.setChan]; rw [Array.getElem?_setIfInBounds_ne (by omega)]

theorem Hp.sent {C : Nat} {buf : Array Value} {s r : Nat} (h : Hp w B hd sh sl st (some C) cap len) (hb : buf.size = len + 1) : Hp (w.setChan C cap buf false s r false) B hd sh sl st (some C) cap (len + 1) := by
  obtain ⟨hne, buf0, s0, r0, hb0, hw0⟩ := h.hc C rfl
  have hB : (w.setChan C cap buf false s r false).heap[B]? = w.heap[B]? := heap_setChan_other _ _ _ _ _ _ _ _ (Ne.symm hne)
  have hcell : ∀ i, (w.setChan C cap buf false s r false).cell? ⟨B, i, none⟩ = w.cell? ⟨B, i, none⟩ := fun i => World.cell?_of_block (w := w) (by exact hB)
  have hlt : C < w.heap.size := by
    rcases Nat.lt_or_ge C w.heap.size with h | h
    · exact h
    · simp [Array.getElem?_eq_none h] at hw0
  refine ⟨(hcell 1).trans h.h1, (hcell 2).trans h.h2, (hcell 5).trans h.h5, (hcell 6).trans h.h6, (hcell 7).trans h.h7, fun i => (World.frozen?_of_block (w := w) (by exact hB)).trans (h.fz i), ?_, fun h => by cases h⟩
  intro C' hC'
  obtain rfl : C = C' := by simpa using hC'
  exact ⟨hne, buf, s, r, hb, heap_setChan _ _ _ _ _ _ _ _ hlt⟩
end


theorem sems_same {P : Program} {ops : Array Oper} {Q : Exit → Act → World → Prop} {a : Act} {w : World} {o : Oper} {i : Nat} {rest : List Nat} {v : Value} (ho : ops[i]? = some o) (hw : Region.wanted o (yielded ops a.tmps) = true) (hr : (execOp a.eval o).run P w = .ok (.value v) w)
    (h : Sems P ops Q rest (a.put o.dst v) w) : Sems P ops Q (i :: rest) a w := Sems.value ho hw hr h

/-- rouse, at a helper that sleeps: the nil channel. -/
theorem rouse_nil {w : World} {B : Nat} {hd sh : Int} {st : Bool} {cap len : Nat} (h : Hp w B hd sh true st none cap len) :
    Calls Try.prog 13 #[.pointer (some ⟨B, 0, none⟩)] w fun e w' => e = .returned (.tuple #[]) ∧ w' = (w.setCell ⟨B, 5, none⟩ (.int .u32 (bi false))).drew := by
  have h' := (h.set5 false).drew
  have g6 := h'.h6
  go_enter Try.func13, Try.ntmps13
  repeat (first | (go_at_call 19; refine (casB_walk _ _ h.h5 (h.fz 5)).mono ?_; rintro _ _ ⟨rfl, rfl⟩; dsimp only) | (with_reducible refine wp_of_sems (id := 3) ?_) | go_values | go_skip | go_guarded | go_step | go_upon | go_back)
  rename_i K hK
  change Sems _ _ _ [0, 1, 2] _ _
  refine Sems.sel_nil (v := .agg #[]) (z := .agg #[]) (w₁ := (w.setCell ⟨B, 5, none⟩ (.int .u32 (bi false))).drew) rfl rfl (by simp [go_sem, execOp, scaseNil, Act.eval]) ?_
  refine sems_same (v := goInt (-1)) rfl rfl (by simp [go_sem, execOp, Act.eval, Act.put]) ?_
  refine sems_same (v := .bool false) rfl rfl (by simp [go_sem, execOp, Act.eval, Act.put]) ?_
  refine Sems.of_ops (hK _ _ ?_)
  clear hK K
  simp only [Act.put]
  go_wp2
  go_end0
  exact ⟨rfl, rfl⟩

/-- rouse, at a helper that sleeps: its channel is full. -/
theorem rouse_full {w : World} {B C : Nat} {hd sh : Int} {st : Bool} {cap len : Nat} (h : Hp w B hd sh true st (some C) cap len) (hl : cap ≤ len) :
    Calls Try.prog 13 #[.pointer (some ⟨B, 0, none⟩)] w fun e w' => e = .returned (.tuple #[]) ∧ w' = (w.setCell ⟨B, 5, none⟩ (.int .u32 (bi false))).drew := by
  have h' := (h.set5 false).drew
  have g6 := h'.h6
  obtain ⟨hne, buf, s, r, hb, hC⟩ := h'.hc C rfl
  go_enter Try.func13, Try.ntmps13
  repeat (first | (go_at_call 19; refine (casB_walk _ _ h.h5 (h.fz 5)).mono ?_; rintro _ _ ⟨rfl, rfl⟩; dsimp only) | (with_reducible refine wp_of_sems (id := 3) ?_) | go_values | go_skip | go_guarded | go_step | go_upon | go_back)
  rename_i K hK
  change Sems _ _ _ [0, 1, 2] _ _
  refine Sems.sel_full (c := C) (v := .agg #[]) (z := .agg #[]) (w₁ := (w.setCell ⟨B, 5, none⟩ (.int .u32 (bi false))).drew) rfl rfl (by simp [go_sem, execOp, scase, Act.eval]) hC (by omega) ?_
  refine sems_same (v := goInt (-1)) rfl rfl (by simp [go_sem, execOp, Act.eval, Act.put]) ?_
  refine sems_same (v := .bool false) rfl rfl (by simp [go_sem, execOp, Act.eval, Act.put]) ?_
  refine Sems.of_ops (hK _ _ ?_)
  clear hK K
  simp only [Act.put]
  go_wp2
  go_end0
  exact ⟨rfl, rfl⟩

/-- rouse, at a helper that sleeps: its channel has room. -/
theorem rouse_room {w : World} {B C : Nat} {hd sh : Int} {st : Bool} {cap len : Nat} (h : Hp w B hd sh true st (some C) cap len) (hl : len < cap) :
    Calls Try.prog 13 #[.pointer (some ⟨B, 0, none⟩)] w fun e w' => e = .returned (.tuple #[]) ∧ ∃ buf s r, buf.size = len + 1 ∧ w' = (w.setCell ⟨B, 5, none⟩ (.int .u32 (bi false))).drew.setChan C cap buf false s r false := by
  have h' := (h.set5 false).drew
  have g6 := h'.h6
  obtain ⟨hne, buf, s, r, hb, hC⟩ := h'.hc C rfl
  go_enter Try.func13, Try.ntmps13
  repeat (first | (go_at_call 19; refine (casB_walk _ _ h.h5 (h.fz 5)).mono ?_; rintro _ _ ⟨rfl, rfl⟩; dsimp only) | (with_reducible refine wp_of_sems (id := 3) ?_) | go_values | go_skip | go_guarded | go_step | go_upon | go_back)
  rename_i K hK
  change Sems _ _ _ [0, 1, 2] _ _
  refine Sems.sel_room (c := C) (v := .agg #[]) (z := .agg #[]) (w₁ := (w.setCell ⟨B, 5, none⟩ (.int .u32 (bi false))).drew) rfl rfl (by simp [go_sem, execOp, scase, Act.eval]) hC (by omega) ?_
  generalize hw2 : World.setChan _ C cap _ false _ _ false = w2
  refine sems_same (v := goInt (0)) rfl rfl (by simp [go_sem, execOp, Act.eval, Act.put]) ?_
  refine sems_same (v := .bool true) rfl rfl (by simp [go_sem, execOp, Act.eval, Act.put]) ?_
  refine Sems.of_ops (hK _ _ ?_)
  clear hK K
  simp only [Act.put]
  go_wp2
  go_end0
  exact ⟨rfl, buf.push (.agg #[]), by simp [hb], s + 1, r, hw2.symm⟩

/-- rouse, at a helper that sleeps. -/
theorem rouse_walk {w : World} {B b0 : Nat} {hd sh : Int} {st : Bool} {ch : Option Nat} {cap len : Nat} (h : Hp w B hd sh true st ch cap len) (hB : b0 ≤ B) (hC : ∀ C, ch = some C → b0 ≤ C) :
    Calls Try.prog 13 #[.pointer (some ⟨B, 0, none⟩)] w fun e w' => e = .returned (.tuple #[]) ∧ Hp w' B hd sh false st ch cap (if len < cap then len + 1 else len) ∧ Below b0 w w' := by
  have h' := (h.set5 false).drew
  have b' : Below b0 w (w.setCell ⟨B, 5, none⟩ (.int .u32 (bi false))).drew := ((Below.refl b0 w).setCell (p := ⟨B, 5, none⟩) hB _).drew
  cases ch with
  | none =>
    refine (rouse_nil h).mono ?_
    rintro _ _ ⟨rfl, rfl⟩
    have := h.hn rfl
    rw [if_neg (by omega)]
    exact ⟨rfl, h', b'⟩
  | some C =>
    by_cases hl : len < cap
    · refine (rouse_room h hl).mono ?_
      rintro _ _ ⟨rfl, buf, s, r, hb, rfl⟩
      rw [if_pos hl]
      exact ⟨rfl, h'.sent hb, below_setChan b' (hC C rfl) _ _ _ _ _ _⟩
    · refine (rouse_full h (by omega)).mono ?_
      rintro _ _ ⟨rfl, rfl⟩
      rw [if_neg hl]
      exact ⟨rfl, h', b'⟩
end Go.Proofs.Qxb6612371a
