import Derived.Test.Qxb6612371aRows
import Derived.Test.Qxb6612371aComm
import Derived.WalkKit
import Derived.ProofKit
import Derived.Laws.Pointers
import Derived.Laws.LoneSync
import Derived.RegionCalls
import Derived.Deep.RegionWith
namespace Go.Proofs.Qxb6612371a
open Go.Conc Go.RowKit

def bi (b : Bool) : Int := if b then 1 else 0

section
variable {ad : Addr} {w : World}

theorem st64 (ad : Addr) (w : World) (x : Int) {u : Value} (hc : w.cell? ad = some u) (hz : w.frozen? ad = false) :
    (callFunc 15 #[.pointer (some ad), .int .u64 x]).run Try.prog w = .ok (.value (.tuple #[])) (w.setCell ad (.int .u64 x)) :=
  run_call_store (P := Try.prog) Try.func15 (by kernel_rfl) (by kernel_rfl) (by kernel_rfl) (by kernel_rfl) hc hz
theorem st32 (ad : Addr) (w : World) (x : Int) {u : Value} (hc : w.cell? ad = some u) (hz : w.frozen? ad = false) :
    (callFunc 16 #[.pointer (some ad), .int .u32 x]).run Try.prog w = .ok (.value (.tuple #[])) (w.setCell ad (.int .u32 x)) :=
  run_call_store (P := Try.prog) Try.func16 (by kernel_rfl) (by kernel_rfl) (by kernel_rfl) (by kernel_rfl) hc hz
theorem ld32 (ad : Addr) (w : World) {x : Int} (hc : w.cell? ad = some (.int .u32 x)) :
    (callFunc 18 #[.pointer (some ad)]).run Try.prog w = .ok (.value (.int .u32 x)) w :=
  run_call_load (P := Try.prog) Try.func18 (by kernel_rfl) (by kernel_rfl) (by kernel_rfl) .u32 (by kernel_rfl) hc
theorem ld64 (ad : Addr) (w : World) {x : Int} (hc : w.cell? ad = some (.int .u64 x)) :
    (callFunc 20 #[.pointer (some ad)]).run Try.prog w = .ok (.value (.int .u64 x)) w :=
  run_call_load (P := Try.prog) Try.func20 (by kernel_rfl) (by kernel_rfl) (by kernel_rfl) .u64 (by kernel_rfl) hc
theorem cas_hit (ad : Addr) (w : World) {x y : Int} (hc : w.cell? ad = some (.int .u32 x)) (hz : w.frozen? ad = false) :
    (callFunc 21 #[.pointer (some ad), .int .u32 x, .int .u32 y]).run Try.prog w = .ok (.value (.bool true)) (w.setCell ad (.int .u32 y)) :=
  run_call_cas_hit (P := Try.prog) Try.func21 (by kernel_rfl) (by kernel_rfl) (by kernel_rfl) .u32 (by kernel_rfl) hc hz

/-- b32. -/
theorem b32_walk (b : Bool) (w : World) : Calls Try.prog 17 #[.bool b] w fun e w' => e = .returned (.int .u32 (bi b)) ∧ w' = w := by
  cases b <;>
  · go_enter Try.func17, Try.ntmps17
    go_wp2
    go_ret
    exact ⟨rfl, rfl⟩

theorem store64_walk (b off : Nat) (x : Int) {u : Value} (hc : w.cell? ⟨b, off, none⟩ = some u) (hz : w.frozen? ⟨b, off, none⟩ = false) :
    Calls Try.prog 10 #[.pointer (some ⟨b, off, none⟩), .int .u64 x] w fun e w' => e = .returned (.tuple #[]) ∧ w' = w.setCell ⟨b, off, none⟩ (.int .u64 x) := by
  have hs := st64 ⟨b, off, none⟩ w x hc hz
  go_enter Try.func10, Try.ntmps10
  go_wp2
  go_end0
  exact ⟨rfl, rfl⟩

theorem load64_walk (b off : Nat) {x : Int} (hc : w.cell? ⟨b, off, none⟩ = some (.int .u64 x)) :
    Calls Try.prog 14 #[.pointer (some ⟨b, off, none⟩)] w fun e w' => e = .returned (.int .u64 x) ∧ w' = w := by
  have hs := ld64 ⟨b, off, none⟩ w hc
  go_enter Try.func14, Try.ntmps14
  go_wp2
  go_ret
  exact ⟨rfl, rfl⟩

theorem loadB_walk (b off : Nat) {t : Bool} (hc : w.cell? ⟨b, off, none⟩ = some (.int .u32 (bi t))) :
    Calls Try.prog 12 #[.pointer (some ⟨b, off, none⟩)] w fun e w' => e = .returned (.bool t) ∧ w' = w := by
  have hs := ld32 ⟨b, off, none⟩ w hc
  cases t <;>
  · simp only [bi] at hs
    go_enter Try.func12, Try.ntmps12
    go_wp2
    go_ret
    exact ⟨by simp, rfl⟩

theorem storeB_walk (b off : Nat) (t : Bool) {u : Value} (hc : w.cell? ⟨b, off, none⟩ = some u) (hz : w.frozen? ⟨b, off, none⟩ = false) :
    Calls Try.prog 11 #[.pointer (some ⟨b, off, none⟩), .bool t] w fun e w' => e = .returned (.tuple #[]) ∧ w' = (w.setCell ⟨b, off, none⟩ (.int .u32 (bi t))).drew := by
  have hs := fun v : World => fun h1 h2 => st32 ⟨b, off, none⟩ v (bi t) (u := u) h1 h2
  have hcd : w.drew.cell? ⟨b, off, none⟩ = some u := hc
  have hzd : w.drew.frozen? ⟨b, off, none⟩ = false := hz
  have hs1 := hs w.drew hcd hzd
  go_enter Try.func11, Try.ntmps11
  go_wp2
  go_region_with (go_at_call 17; refine (b32_walk _ _).mono ?_; rintro _ _ ⟨rfl, rfl⟩)
  all_goals (go_end0; exact ⟨rfl, rfl⟩)

theorem casB_walk (b off : Nat) (hc : w.cell? ⟨b, off, none⟩ = some (.int .u32 (bi true))) (hz : w.frozen? ⟨b, off, none⟩ = false) :
    Calls Try.prog 19 #[.pointer (some ⟨b, off, none⟩), .bool true, .bool false] w fun e w' => e = .returned (.bool true) ∧ w' = (w.setCell ⟨b, off, none⟩ (.int .u32 (bi false))).drew := by
  have hs1 := cas_hit ⟨b, off, none⟩ w.drew (x := bi true) (y := bi false) hc hz
  go_enter Try.func19, Try.ntmps19
  go_wp2
  go_region_with (go_at_call 17; refine (b32_walk _ _).mono ?_; rintro _ _ ⟨rfl, rfl⟩)
  all_goals (go_wp2; go_ret; exact ⟨rfl, rfl⟩)
end
end Go.Proofs.Qxb6612371a
