/-
  The walk of FnArgSizeArgvBlock.
-/
import Derived.Test.Qxb6612252aArgWalks
import Derived.Deep.AppendLies
namespace Go.Proofs.Qxb6612252a.ArgP
open Go.RowKit
set_option linter.unusedVariables false

theorem keepS {B : Nat} {w w' : World} (h : Below B w w') {a : Addr} {v : Value} (hlt : a.block < B) (hc : w.cell? a = some v) : w'.cell? a = some v := (h.cell hlt).trans hc

/-- The bytes of the first k strings. -/
def tot (s : Nat → ByteArray) : Nat → Nat
  | 0 => 0
  | k + 1 => tot s k + (s k).size
theorem tot_succ (s : Nat → ByteArray) (k : Nat) : tot s (k + 1) = tot s k + (s k).size := rfl
theorem tot_mono (s : Nat → ByteArray) (k n : Nat) (h : k ≤ n) : tot s k ≤ tot s n := by
  induction n with
  | zero => have : k = 0 := by omega
            subst this; exact Nat.le_refl _
  | succ n ih =>
    by_cases e : k = n + 1
    · subst e; exact Nat.le_refl _
    · have := ih (by omega); rw [tot_succ]; omega

/-- n strings that came in: where there are any they lie somewhere. -/
def StrIn (w : World) (a : Option Addr) (n : Nat) (s : Nat → ByteArray) : Prop := ∀ k, k < n → ∃ b off, a = some ⟨b, off, none⟩ ∧ b < w.heap.size ∧ ∀ j, j < n → w.cell? ⟨b, off + j, none⟩ = some (.string (s j))

set_option maxHeartbeats 1000000 in
theorem bytes_any (a : Option Addr) (n c : Nat) (s : Nat → ByteArray) (w : World) (hn : n ≤ 9223372036854775807) (hs : ∀ k, k < n → (s k).size ≤ 9223372036854775807) (h : StrIn w a n s) :
    Calls Try.prog 5 #[.slice a n c] w fun e w' => ∃ t : Bool, e = .returned (.bool t) ∧ (t = true → n + tot s n ≤ 1048576) ∧ w' = w := by
  by_cases hn1 : n ≤ 1048576
  · go_enter Try.func5, Try.ntmps5
    go_wp2
    go_loop [3, 4] (fun z i => ∃ k : Nat, k ≤ n ∧ i = .int .i64 k ∧ n + tot s k ≤ 1048576 ∧ z = .int .i64 ((n + tot s k : Nat) : Int)) (fun _ i => n - (intOf i).toNat)
    case atStart => exact ⟨0, Nat.zero_le _, rfl, by simpa [tot] using hn1, by simp [tot]⟩
    case round =>
      obtain ⟨k, hk, rfl, hle, rfl⟩ := hrel
      by_cases hlt : k < n
      · obtain ⟨b, off, rfl, hb, hc⟩ := h k hlt
        have h0 := hc k hlt
        have hsk := hs k hlt
        have HT : Hid (tot s (k + 1) = tot s k + (s k).size) := tot_succ s k
        obtain ⟨z, hz⟩ : ∃ z, z = tot s k := ⟨_, rfl⟩
        rw [← hz] at hle HT ⊢
        clear hc hs h
        go_wp2
        · go_ret; first | exact Or.inl ⟨rfl, rfl⟩ | exact ⟨false, rfl, (fun h => by cases h), rfl⟩
        · go_ret; first | exact Or.inl ⟨rfl, rfl⟩ | exact ⟨false, rfl, (fun h => by cases h), rfl⟩
        · go_round
          case rel => exact ⟨k + 1, by omega, by go_num, by rw [HT.out]; omega, by rw [HT.out]; go_num⟩
          case measure => simp [intOf]; omega
      · go_wp2
        go_ret
        have : k = n := by omega
        subst this
        first | exact Or.inr ⟨rfl, hle, rfl⟩ | exact ⟨true, rfl, (fun _ => hle), rfl⟩
  · go_enter Try.func5, Try.ntmps5
    go_wp2
    go_ret
    first | exact Or.inl ⟨rfl, rfl⟩ | exact ⟨false, rfl, (fun h => by cases h), rfl⟩

theorem info5 : (Try.prog.info? 5).map (fun i => (i.zero, i.size, i.bytes)) = some (some (.int .u8 0), 1, 1) := by kernel_rfl

set_option maxHeartbeats 2000000 in
theorem block_any (a : Option Addr) (n c : Nat) (s : Nat → ByteArray) (w : World) (hn : n ≤ 9223372036854775807) (hs : ∀ k, k < n → (s k).size ≤ 9223372036854775807) (h : StrIn w a n s) :
    Calls Try.prog 3 #[.slice a n c] w fun e w' => e = .returned (.bool true) ∧ Below w.heap.size w w' := by
  obtain ⟨i5, hi, hx0, hx1, hx2⟩ := info_parts info5
  go_enter Try.func3, Try.ntmps3
  go_wp2_with (go_at_call 5; refine (bytes_any a n c s _ hn hs h).mono ?_; rintro e w1 ⟨t, rfl, ht, hw1⟩; cases t)
  · go_ret
    exact ⟨rfl, Below.refl _ _⟩
  · go_ret
    exact ⟨rfl, Below.refl _ _⟩
  clear hw1 w1
  have hsum : n + tot s n ≤ 1048576 := by simpa using ht
  have h65 : n ≤ 65536 := by omega
  clear ht
  go_loop [3, 4] (fun z i => ∃ k : Nat, k ≤ n ∧ i = .int .i64 k ∧ z = .int .i64 ((8 * n + tot s k : Nat) : Int)) (fun _ i => n - (intOf i).toNat)
  case atStart => exact ⟨0, Nat.zero_le _, rfl, by simp [tot]⟩
  case round =>
    obtain ⟨k, hk, rfl, rfl⟩ := hrel
    have hmk := tot_mono s k n hk
    by_cases hlt : k < n
    · obtain ⟨b, off, rfl, hb, hc⟩ := h k hlt
      have h0 := hc k hlt
      have HT : Hid (tot s (k + 1) = tot s k + (s k).size) := tot_succ s k
      have hm1 := tot_mono s (k + 1) n (by omega)
      rw [HT.out] at hm1
      clear hc hs h
      go_wp2
      · go_ret; exact ⟨rfl, Below.refl _ _⟩
      · go_round
        case rel => exact ⟨k + 1, by omega, by go_num, by rw [HT.out]; go_num⟩
        case measure => simp [intOf]; omega
    · have hkn : k = n := by omega
      subst hkn
      go_wp2_with (at_make; refine wpList_make_own _ rfl _ _ 24 rfl 0 5 i5 _ 1 Try.underlying24 hi hx0 hx1 _ _ _ (8 * k + tot s k) rfl rfl (by omega) (by rw [hx2]; omega) (by simp only [maxLen]; omega) (Nat.zero_le _) ?_)
      intro w2 ow2 gr2
      have hW2 : Below w.heap.size w w2 := (Below.refl _ _).grown gr2 (Nat.le_refl _) (by simp)
      clear gr2
      go_wp2
      obtain ⟨g, hg⟩ : ∃ g, g = w.heap.size := ⟨_, rfl⟩
      have hgc : w.heap.size ≤ g := by omega
      rw [← hg] at ow2 ⊢
      clear hg
      go_loopw [5, 6] (fun v i wr => ∃ (j : Nat) (xs : List Value), j ≤ k ∧ i = .int .i64 j ∧ v = .slice (some ⟨g, 0, none⟩) (tot s j + j) (8 * k + tot s k) ∧ wr.ownsRow 0 5 1 (.slice (some ⟨g, 0, none⟩) (tot s j + j) (8 * k + tot s k)) (tot s j + j) xs ∧ Below w.heap.size w wr) (fun _ i _ => k - (intOf i).toNat)
      case atStart => exact ⟨0, [], Nat.zero_le _, rfl, by simp [tot], by simpa [tot] using ow2, hW2⟩
      case round =>
        obtain ⟨j, xs, hj, rfl, rfl, ow, hW⟩ := hrel
        have hmj := tot_mono s j k hj
        by_cases hlt2 : j < k
        · obtain ⟨b, off, rfl, hb, hc⟩ := h j hlt2
          have h0 := keepS hW hb (hc j hlt2)
          have hm1 := tot_mono s (j + 1) k (by omega)
          have HT : Hid (tot s (j + 1) = tot s j + (s j).size) := tot_succ s j
          rw [tot_succ] at hm1
          obtain ⟨sj, hsj⟩ : ∃ sj, sj = s j := ⟨_, rfl⟩
          rw [← hsj] at h0 hm1 HT
          clear hsj
          go_wp2
          obtain ⟨wo, hwo⟩ : ∃ wo : World, wo = wr := ⟨_, rfl⟩
          rw [← hwo] at hW ow ⊢
          clear hwo h0 hc
          go_loopw [5, 8] (fun v i wr => ∃ (q : Nat) (ys : List Value), q ≤ sj.size ∧ i = .int .i64 q ∧ v = .slice (some ⟨g, 0, none⟩) (tot s j + j + q) (8 * k + tot s k) ∧ wr.ownsRow 0 5 1 (.slice (some ⟨g, 0, none⟩) (tot s j + j + q) (8 * k + tot s k)) (tot s j + j + q) ys ∧ Below w.heap.size w wr) (fun _ i _ => sj.size - (intOf i).toNat)
          case atStart => exact ⟨0, xs, Nat.zero_le _, rfl, by simp, by simpa using ow, hW⟩
          case round =>
            obtain ⟨q, ys, hq, rfl, rfl, ow1, hW1⟩ := hrel
            by_cases hlt3 : q < sj.size
            · go_wp2_with (at_builtin; refine wpList_append_fits _ rfl _ _ 24 rfl 0 5 i5 1 Try.underlying24 hi hx1 g (tot s j + j + q) (8 * k + tot s k) ys rfl (ow1.alloc _) ⟨wr.heap.size, 0, none⟩ 1 1 [.int .u8 (sj[q].toNat : Int)] rfl rfl ?c1 ?c2 (by omega) ?_)
              case c1 => exact World.news_of_block (heap_alloc_new wr (.cells #[.int .u8 (sj[q].toNat : Int)] 5))
              case c2 => intro u hu; simp at hu; subst hu; rfl
              intro w3 ow3 gr3
              have hW3 : Below w.heap.size w w3 := (hW1.alloc hW1.size _).grown gr3 (by have := hW1.size; simp; omega) (by intro k' hk'; have := Option.some.inj hk'; omega)
              clear gr3
              go_wp2
              go_roundw
              case rel => exact ⟨q + 1, _, by omega, by go_num, by rw [← Nat.add_assoc], by rw [← Nat.add_assoc]; exact ow3, hW3⟩
              case measure => simp [intOf]; omega
            · have HQ : Hid (q = sj.size) := (show q = sj.size by omega)
              go_wp2_with (at_builtin; refine wpList_append_fits _ rfl _ _ 24 rfl 0 5 i5 1 Try.underlying24 hi hx1 g (tot s j + j + q) (8 * k + tot s k) ys rfl (ow1.alloc _) ⟨wr.heap.size, 0, none⟩ 1 1 [.int .u8 0] rfl rfl ?c3 ?c4 (by omega) ?_)
              case c3 => exact World.news_of_block (heap_alloc_new wr (.cells #[.int .u8 0] 5))
              case c4 => intro u hu; simp at hu; subst hu; rfl
              intro w3 ow3 gr3
              have hW3 : Below w.heap.size w w3 := (hW1.alloc hW1.size _).grown gr3 (by have := hW1.size; simp; omega) (by intro k' hk'; have := Option.some.inj hk'; omega)
              clear gr3
              go_wp2
              have eq1 : tot s (j + 1) + (j + 1) = tot s j + j + q + 1 := by have := HQ.out; rw [HT.out]; omega
              go_roundw
              case rel => exact ⟨j + 1, _, by omega, by go_num, by rw [eq1], by rw [eq1]; exact ow3, hW3⟩
              case measure => simp [intOf]; omega
        · have hjk : j = k := by omega
          subst hjk
          go_wp2
          have HE : Hid ((tot s j + j : Nat) = tot s j + j) := rfl
          obtain ⟨wo, hwo⟩ : ∃ wo : World, wo = wr := ⟨_, rfl⟩
          rw [← hwo] at hW ⊢
          clear hwo ow ow2 hW2
          go_loop [10, 11] (fun z i => ∃ q : Nat, q ≤ j ∧ i = .int .i64 q ∧ z = .int .i64 ((tot s q + 9 * q : Nat) : Int)) (fun _ i => j - (intOf i).toNat)
          case atStart => exact ⟨0, Nat.zero_le _, rfl, by simp [tot]⟩
          case round =>
            obtain ⟨q, hq, rfl, rfl⟩ := hrel
            have hmq := tot_mono s q j hq
            by_cases hlt3 : q < j
            · obtain ⟨b, off, rfl, hb, hc⟩ := h q hlt3
              have h0 := keepS hW hb (hc q hlt3)
              have hm1 := tot_mono s (q + 1) j (by omega)
              have HT : Hid (tot s (q + 1) = tot s q + (s q).size) := tot_succ s q
              rw [tot_succ] at hm1
              clear hc
              go_wp2_with (go_at_call 6; refine (argSize_any _ _ (by omega)).mono ?_; rintro e _ ⟨rfl, rfl⟩)
              go_round
              case rel => exact ⟨q + 1, by omega, by go_num, by rw [HT.out]; go_num⟩
              case measure => simp [intOf]; omega
            · have HQ : Hid (q = j) := (show q = j by omega)
              go_wp2
              go_ret
              exact ⟨ret_bool (by rw [beq_iff_eq]; have := HQ.out; subst this; omega), hW⟩
end Go.Proofs.Qxb6612252a.ArgP
