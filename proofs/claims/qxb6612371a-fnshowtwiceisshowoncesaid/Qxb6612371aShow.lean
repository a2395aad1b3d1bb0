import Derived.Test.Qxb6612371aRouse
import Derived.Deep.RegionHeld3
namespace Go.Proofs.Qxb6612371a
open Go.Conc Go.RowKit

/-- How many tokens lie in the channel once a helper has been shown its jobs. -/
def tok (sl : Bool) (cap len : Nat) : Nat := if sl = true ∧ len < cap then len + 1 else len

theorem show_awake {w : World} {B b0 : Nat} {hd sh : Int} {st : Bool} {ch : Option Nat} {cap len : Nat} (h : Hp w B hd sh false st ch cap len) (hB : b0 ≤ B) :
    Calls Try.prog 8 #[.pointer (some ⟨B, 0, none⟩)] w fun e w' => e = .returned (.tuple #[]) ∧ Hp w' B hd hd false st ch cap len ∧ Below b0 w w' := by
  have h' := h.drew.set2 hd
  have b' : Below b0 w (w.drew.setCell ⟨B, 2, none⟩ (.int .u64 hd)) := ((Below.refl b0 w).drew.setCell (p := ⟨B, 2, none⟩) hB _)
  have g1 : w.drew.cell? ⟨B, 1, none⟩ = some (.int .u64 hd) := h.h1
  go_enter Try.func8, Try.ntmps8
  go_wp2_with fail
  go_region_with (go_at_call 10; refine (store64_walk B 2 hd h.drew.h2 (h.drew.fz 2)).mono ?_; rintro _ _ ⟨rfl, rfl⟩)
  all_goals
    go_wp2_with (go_at_call 12; refine (loadB_walk B 5 (t := false) h'.h5).mono ?_; rintro _ _ ⟨rfl, rfl⟩)
    go_end0
    exact ⟨rfl, h', b'⟩

theorem show_asleep {w : World} {B b0 : Nat} {hd sh : Int} {st : Bool} {ch : Option Nat} {cap len n2 : Nat} (h : Hp w B hd sh true st ch cap len) (hB : b0 ≤ B) (hC : ∀ C, ch = some C → b0 ≤ C) (hn : (if len < cap then len + 1 else len) = n2) :
    Calls Try.prog 8 #[.pointer (some ⟨B, 0, none⟩)] w fun e w' => e = .returned (.tuple #[]) ∧ Hp w' B hd hd false st ch cap n2 ∧ Below b0 w w' := by
  have h' := h.drew.set2 hd
  have b' : Below b0 w (w.drew.setCell ⟨B, 2, none⟩ (.int .u64 hd)) := ((Below.refl b0 w).drew.setCell (p := ⟨B, 2, none⟩) hB _)
  have g1 : w.drew.cell? ⟨B, 1, none⟩ = some (.int .u64 hd) := h.h1
  have hr := rouse_walk (b0 := b0) h' hB hC
  rw [hn] at hr
  clear hn
  go_enter Try.func8, Try.ntmps8
  go_wp2_with fail
  go_region_with (go_at_call 10; refine (store64_walk B 2 hd h.drew.h2 (h.drew.fz 2)).mono ?_; rintro _ _ ⟨rfl, rfl⟩)
  all_goals
    go_wp2_with (first | (go_at_call 12; refine (loadB_walk B 5 (t := true) h'.h5).mono ?_; rintro _ _ ⟨rfl, rfl⟩) | (go_at_call 13; refine Calls.mono hr ?_; rintro _ w2 ⟨rfl, h2, b2⟩))
    go_end0
    exact ⟨rfl, h2, b'.trans b2⟩

theorem show_walk {w : World} {B b0 : Nat} {hd sh : Int} {sl st : Bool} {ch : Option Nat} {cap len n2 : Nat} (h : Hp w B hd sh sl st ch cap len) (hB : b0 ≤ B) (hC : ∀ C, ch = some C → b0 ≤ C) (hn : tok sl cap len = n2) :
    Calls Try.prog 8 #[.pointer (some ⟨B, 0, none⟩)] w fun e w' => e = .returned (.tuple #[]) ∧ Hp w' B hd hd false st ch cap n2 ∧ Below b0 w w' := by
  cases sl with
  | false => obtain rfl : len = n2 := by simpa [tok] using hn
             exact show_awake h hB
  | true => exact show_asleep h hB hC (by simpa [tok] using hn)

def SS (w w' : World) (B : Nat) (hd sh : Int) (sl st : Bool) (ch : Option Nat) (cap len : Nat) : Prop :=
  (Below w.heap.size w w' ∧ Hp w' B hd sh sl st ch cap len) ∧ w'.cell? ⟨B, 1, none⟩ = some (.int .u64 hd) ∧ w'.cell? ⟨B, 6, none⟩ = some (.chan ch) ∧ (∀ ty, (Builtin.len_ #[40] ty #[.chan ch]).run Try.prog w' = .ok (.int .i64 len) w')
theorem SS.hp {w w' : World} {B : Nat} {hd sh : Int} {sl st : Bool} {ch : Option Nat} {cap len : Nat} (h : SS w w' B hd sh sl st ch cap len) : Hp w' B hd sh sl st ch cap len := h.1.2

theorem Hp.below {w w' : World} {B b0 : Nat} {hd sh : Int} {sl st : Bool} {ch : Option Nat} {cap len : Nat} (h : Hp w B hd sh sl st ch cap len) (hb : Below b0 w w') (hB : B < b0) (hC : ∀ C, ch = some C → C < b0) : Hp w' B hd sh sl st ch cap len := by
  have e : ∀ i, w'.cell? ⟨B, i, none⟩ = w.cell? ⟨B, i, none⟩ := fun i => hb.cell (p := ⟨B, i, none⟩) hB
  refine ⟨(e 1).trans h.h1, (e 2).trans h.h2, (e 5).trans h.h5, (e 6).trans h.h6, (e 7).trans h.h7, fun i => (hb.frozen (p := ⟨B, i, none⟩) hB).trans (h.fz i), ?_, h.hn⟩
  intro C hC'
  obtain ⟨hne, buf, s, r, hs, hw⟩ := h.hc C hC'
  exact ⟨hne, buf, s, r, hs, (hb.block C (hC C hC')).trans hw⟩

theorem Hp.chan_lt {w : World} {B : Nat} {hd sh : Int} {sl st : Bool} {ch : Option Nat} {cap len : Nat} (h : Hp w B hd sh sl st ch cap len) : ∀ C, ch = some C → C < w.heap.size := by
  intro C hC
  obtain ⟨hne, buf, s, r, hs, hw⟩ := h.hc C hC
  rcases Nat.lt_or_ge C w.heap.size with h | h
  · exact h
  · simp [Array.getElem?_eq_none h] at hw

theorem SS.new {w : World} {B : Nat} {hd sh : Int} {sl st : Bool} {ch : Option Nat} {cap len : Nat} (h : Hp w B hd sh sl st ch cap len) (h0 : ch = none → len = 0) (hB : B < w.heap.size) (o : Obj) : SS w (w.alloc o).drew B hd sh sl st ch cap len := by
  have hb : Below w.heap.size w (w.alloc o).drew := ((Below.refl _ _).alloc (Nat.le_refl _) _).drew
  have hp := h.below hb hB h.chan_lt
  refine ⟨⟨hb, hp⟩, hp.h1, hp.h6, ?_⟩
  intro ty
  cases ch with
  | none => obtain rfl : len = 0 := h0 rfl
            simp [Builtin.len_, run_underlying Try.underlying40]; rfl
  | some C =>
    obtain ⟨hne, buf, s, r, hs, hw⟩ := hp.hc C rfl
    rw [run_len_chan 40 ty Try.underlying40 hw, hs]
    rfl

set_option maxHeartbeats 4000000 in
/-- zzHelperOf reads. -/
theorem of_walk {w : World} {B : Nat} {hd sh : Int} {sl st : Bool} {ch : Option Nat} {cap len : Nat} (h : Hp w B hd sh sl st ch cap len) (h0 : ch = none → len = 0) (hB : B < w.heap.size) :
    Calls Try.prog 9 #[.pointer (some ⟨B, 0, none⟩)] w fun e w' => e = .returned (.agg #[.int .u64 hd, .int .u64 sh, .bool sl, .bool st, .int .i64 len]) ∧ Below w.heap.size w w' := by
  have hS := SS.new h h0 hB
  clear h
  go_enter Try.func9, Try.ntmps9
  go_wp2_with fail
  go_region_held3 (fun w' => (Below w.heap.size w w' ∧ Hp w' B hd sh sl st ch cap len) ∧ w'.cell? ⟨B, 1, none⟩ = some (.int .u64 hd) ∧ w'.cell? ⟨B, 6, none⟩ = some (.chan ch) ∧ (∀ ty, (Builtin.len_ #[40] ty #[.chan ch]).run Try.prog w' = .ok (.int .i64 len) w'))
    (first | exact hS _ | assumption)
    ((first | (go_at_call 14; refine (load64_walk B 2 (SS.hp (w := w) (B := B) (hd := hd) (sh := sh) (sl := sl) (st := st) (ch := ch) (cap := cap) (len := len) (by assumption)).h2).mono ?_; rintro _ _ ⟨rfl, hq⟩; (have hq' := hq.symm; subst hq')) | (go_at_call_of 12 (Value.pointer (some ⟨B, 5, none⟩)); refine (loadB_walk B 5 (SS.hp (w := w) (B := B) (hd := hd) (sh := sh) (sl := sl) (st := st) (ch := ch) (cap := cap) (len := len) (by assumption)).h5).mono ?_; rintro _ _ ⟨rfl, hq⟩; (have hq' := hq.symm; subst hq')) | (go_at_call 12; refine (loadB_walk B 7 (SS.hp (w := w) (B := B) (hd := hd) (sh := sh) (sl := sl) (st := st) (ch := ch) (cap := cap) (len := len) (by assumption)).h7).mono ?_; rintro _ _ ⟨rfl, hq⟩; (have hq' := hq.symm; subst hq'))))
  go_wp2_with fail
  refine bodyPost_ret (v := .agg #[.int .u64 hd, .int .u64 sh, .bool sl, .bool st, .int .i64 len]) (by simp [results, Try.results9, go_sem]) rfl ⟨rfl, (hS _).1.1⟩
end Go.Proofs.Qxb6612371a
