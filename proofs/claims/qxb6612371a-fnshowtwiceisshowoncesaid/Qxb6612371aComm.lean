import Derived.Conc.LoneSelect
import Derived.Conc.LoneSelectN
namespace Go.Proofs.Qxb6612371a
open Go.Conc Go.RowKit

/-! ### Regions that communicate, in the run of one goroutine: laws for the walk's own 'Code.wp' -/
section
variable {P : Program} {ops : Array Oper} {Q : Exit → Act → World → Prop} {a : Act} {w : World} {o : Oper} {i : Nat} {rest : List Nat}

/-- From the operations l on, the machine of one comes to the region's end, as Q asks. -/
def Sems (P : Program) (ops : Array Oper) (Q : Exit → Act → World → Prop) (l : List Nat) (a : Act) (w : World) : Prop :=
  ∀ (b : Frame) (k : List Item) (cs : List Frame), ∃ e a' w', Q e a' w' ∧ Arrives P (lone (b.at a (.inRegion ops l :: k)) cs w) b k cs e a' w'

theorem wp_of_sems {id : Nat} (h : Sems P ops Q (List.range ops.size) a w) : (Code.region id ops false).wp P Q a w :=
  fun b k cs => let ⟨e, a', w', q, r⟩ := h b k cs; ⟨e, a', w', q, .of_steps (.one step_region) r⟩

theorem Sems.of_ops {l : List Nat} (h : wpOps P ops Q l a w) : Sems P ops Q l a w := wp_ops l a w h

theorem Sems.step {a' : Act} {w' : World} (hs : ∀ (b : Frame) (k : List Item) (cs : List Frame), step P (lone (b.at a (.inRegion ops (i :: rest) :: k)) cs w) = .next (lone (b.at a' (.inRegion ops rest :: k)) cs w'))
    (h : Sems P ops Q rest a' w') : Sems P ops Q (i :: rest) a w :=
  fun b k cs => let ⟨e, a₂, w₂, q, r⟩ := h b k cs; ⟨e, a₂, w₂, q, .of_steps (.one (hs b k cs)) r⟩

theorem Sems.value {v : Value} {w' : World} (ho : ops[i]? = some o) (hw : Region.wanted o (yielded ops a.tmps) = true) (hr : (execOp a.eval o).run P w = .ok (.value v) w')
    (h : Sems P ops Q rest (a.put o.dst v) w') : Sems P ops Q (i :: rest) a w := by
  refine .step (fun b k cs => ?_) h
  refine step_lone_go ?_
  have hf : (b.at a (.inRegion ops (i :: rest) :: k)).finish v = b.at (a.put o.dst v) (.inRegion ops rest :: k) := by rw [Frame.finish_at, ho]; rfl
  rw [stepG_op ho hw, ← hf]
  simp [stepG.apply, hr]

theorem sems_skip {w' : World} (ho : ops[i]? = some o) (hw : Region.wanted o (yielded ops a.tmps) = true) (hr : (execOp a.eval o).run P w = .ok .skip w')
    (h : Sems P ops Q rest (a.put o.dst undef) w') : Sems P ops Q (i :: rest) a w := by
  refine .step (fun b k cs => ?_) h
  refine step_lone_go ?_
  have hf : (b.at a (.inRegion ops (i :: rest) :: k)).finish undef = b.at (a.put o.dst undef) (.inRegion ops rest :: k) := by rw [Frame.finish_at, ho]; rfl
  rw [stepG_op ho hw, ← hf]
  simp [stepG.apply, hr]

theorem stepG_comm' {b : Frame} {k : List Item} {cs : List Frame} {cases : Array CommCase} {blocking : Bool} {shape : CommShape} {w' : World} (ho : ops[i]? = some o) (hw : Region.wanted o (yielded ops a.tmps) = true)
    (hr : (execOp a.eval o).run P w = .ok (.comm cases blocking shape) w') :
    ∃ es, stepG P true (G (b.at a (.inRegion ops (i :: rest) :: k)) cs) w = .comm (G (b.at a (.inRegion ops (i :: rest) :: k)) cs) cases blocking shape w' es := by
  rw [stepG_oper ho hw]
  cases hk : (b.kind == CallKind.early) <;> simp [stepG.apply, hr, G, Frame.at, GStep.after, hk]

variable {c cap s r : Nat} {buf : Array Value} {z v : Value} {tm : Bool} {w₁ : World}
theorem Sems.send (ho : ops[i]? = some o) (hw : Region.wanted o (yielded ops a.tmps) = true) (hr : (execOp a.eval o).run P w = .ok (.comm #[scase c v z] true .send) w₁)
    (hc : w₁.heap[c]? = some (.chan cap buf false s r tm)) (hroom : buf.size < cap)
    (h : Sems P ops Q rest (a.put o.dst undef) (w₁.setChan c cap (buf.push v) false (s + 1) r tm)) : Sems P ops Q (i :: rest) a w := by
  refine .step (fun b k cs => ?_) h
  obtain ⟨es, he⟩ := stepG_comm' (b := b) (k := k) (cs := cs) (rest := rest) ho hw hr
  have := step_lone_send_room he hc hroom
  rw [Frame.finish_at, ho] at this
  exact this

theorem Sems.sel_room (ho : ops[i]? = some o) (hw : Region.wanted o (yielded ops a.tmps) = true) (hr : (execOp a.eval o).run P w = .ok (.comm #[scase c v z] false .select) w₁)
    (hc : w₁.heap[c]? = some (.chan cap buf false s r tm)) (hroom : buf.size < cap)
    (h : Sems P ops Q rest (a.put o.dst (.tuple #[goInt 0, .bool false])) (w₁.setChan c cap (buf.push v) false (s + 1) r tm)) : Sems P ops Q (i :: rest) a w := by
  refine .step (fun b k cs => ?_) h
  obtain ⟨es, he⟩ := stepG_comm' (b := b) (k := k) (cs := cs) (rest := rest) ho hw hr
  have := step_lone_select_send_room he hc hroom
  rw [Frame.finish_at, ho] at this
  exact this

theorem Sems.sel_full (ho : ops[i]? = some o) (hw : Region.wanted o (yielded ops a.tmps) = true) (hr : (execOp a.eval o).run P w = .ok (.comm #[scase c v z] false .select) w₁)
    (hc : w₁.heap[c]? = some (.chan cap buf false s r tm)) (hfull : cap ≤ buf.size)
    (h : Sems P ops Q rest (a.put o.dst (.tuple #[goInt (-1), .bool false])) w₁) : Sems P ops Q (i :: rest) a w := by
  refine .step (fun b k cs => ?_) h
  obtain ⟨es, he⟩ := stepG_comm' (b := b) (k := k) (cs := cs) (rest := rest) ho hw hr
  have := step_lone_select_send_full he hc hfull
  rw [Frame.finish_at, ho] at this
  exact this

theorem Sems.sel_nil (ho : ops[i]? = some o) (hw : Region.wanted o (yielded ops a.tmps) = true) (hr : (execOp a.eval o).run P w = .ok (.comm #[scaseNil v z] false .select) w₁)
    (h : Sems P ops Q rest (a.put o.dst (.tuple #[goInt (-1), .bool false])) w₁) : Sems P ops Q (i :: rest) a w := by
  refine .step (fun b k cs => ?_) h
  obtain ⟨es, he⟩ := stepG_comm' (b := b) (k := k) (cs := cs) (rest := rest) ho hw hr
  have := step_lone_select_send_nil he
  rw [Frame.finish_at, ho] at this
  exact this
end
end Go.Proofs.Qxb6612371a
