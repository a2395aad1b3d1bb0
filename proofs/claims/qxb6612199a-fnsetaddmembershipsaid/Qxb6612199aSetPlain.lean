/-
  The plain half of FnSetAddMembership: bits of natural numbers; nothing of the dump.
-/
import Derived.WalkKit
import Derived.Lib.BitFns
namespace Go.Proofs.Qxb6612199a.SetP

/-- What Set.Add computes. -/
def sAdd (s i : Nat) : Nat := s ||| (2 ^ min i 32 % 4294967296)
/-- The number of one bits among the low f. -/
def pop (f x : Nat) : Nat := Lib.popAux f x

theorem bit_lt (i : Nat) : 2 ^ min i 32 % 4294967296 < 4294967296 := Nat.mod_lt _ (by decide)

theorem bit_small (i : Nat) (h : i < 32) : 2 ^ min i 32 % 4294967296 = 2 ^ i := by
  rw [Nat.min_eq_left (by omega)]
  exact Nat.mod_eq_of_lt (show 2 ^ i < 2 ^ 32 from Nat.pow_lt_pow_right (by decide) h)

theorem bit_big (i : Nat) (h : 32 ≤ i) : 2 ^ min i 32 % 4294967296 = 0 := by
  rw [Nat.min_eq_right h]

theorem sAdd_lt (s i : Nat) (h : s < 4294967296) : sAdd s i < 4294967296 :=
  Nat.or_lt_two_pow (n := 32) h (bit_lt i)

theorem sAdd_twice (s i : Nat) : sAdd (sAdd s i) i = sAdd s i := by
  unfold sAdd; rw [Nat.or_assoc, Nat.or_self]

theorem sAdd_comm (s i j : Nat) : sAdd (sAdd s i) j = sAdd (sAdd s j) i := by
  unfold sAdd; rw [Nat.or_assoc, Nat.or_assoc, Nat.or_comm (2 ^ min i 32 % 4294967296)]

theorem sAdd_bit (s i m : Nat) (hm : m < 32) : (sAdd s i).testBit m = (s.testBit m || decide (m = i)) := by
  unfold sAdd
  rw [Nat.testBit_or]
  by_cases hi : i < 32
  · rw [bit_small i hi, Nat.testBit_two_pow]
    by_cases e : i = m
    · subst e; simp
    · have e' : ¬ m = i := fun h => e h.symm
      simp [e, e']
  · rw [bit_big i (by omega), Nat.zero_testBit]
    have e' : ¬ m = i := by omega
    simp [e']

theorem pop_succ (f x : Nat) : pop (f + 1) x = x % 2 + pop f (x / 2) := rfl

theorem pop_le (f x : Nat) : pop f x ≤ f := by
  induction f generalizing x with
  | zero => exact Nat.le_refl _
  | succ f ih => rw [pop_succ]; have := ih (x / 2); omega

/-- The first k bits, then the rest. -/
theorem pop_split (k f x : Nat) : pop (k + f) x = pop k x + pop f (x / 2 ^ k) := by
  induction k generalizing x with
  | zero => simp [pop, Lib.popAux]
  | succ k ih =>
    rw [show k + 1 + f = (k + f) + 1 by omega, pop_succ, pop_succ, ih, Nat.div_div_eq_div_mul, Nat.pow_succ, Nat.mul_comm 2]
    omega

theorem pop_snoc (k x : Nat) : pop (k + 1) x = pop k x + x / 2 ^ k % 2 := by
  rw [pop_split k 1 x]; simp [pop, Lib.popAux]

theorem testBit_div (x k : Nat) : (x / 2 ^ k % 2 == 1) = x.testBit k := by
  rw [Nat.testBit_eq_decide_div_mod_eq]; rfl

theorem pop_or (f : Nat) : ∀ (x i : Nat), pop f (x ||| 2 ^ i) = pop f x + (if i < f ∧ x.testBit i = false then 1 else 0) := by
  induction f with
  | zero => intro x i; simp [pop, Lib.popAux]
  | succ f ih =>
    intro x i
    rw [pop_succ, pop_succ, Nat.or_div_two]
    cases i with
    | zero =>
      have h0 : (x ||| 2 ^ 0) % 2 = 1 := by
        rw [show (2 ^ 0 : Nat) = 1 from rfl]
        have : (x ||| 1).testBit 0 = true := by rw [Nat.testBit_or]; simp
        rw [Nat.testBit_zero] at this
        exact of_decide_eq_true this
      rw [h0, show (2 ^ 0 / 2 : Nat) = 0 from rfl, Nat.or_zero, Nat.testBit_zero]
      by_cases hx : x % 2 = 1
      · simp [hx]
      · simp [hx]; omega
    | succ i =>
      have h0 : (x ||| 2 ^ (i + 1)) % 2 = x % 2 := by
        have : (x ||| 2 ^ (i + 1)).testBit 0 = x.testBit 0 := by
          rw [Nat.testBit_or, Nat.testBit_two_pow]; simp
        simp only [Nat.testBit_zero, decide_eq_decide] at this
        omega
      rw [h0, show (2 ^ (i + 1) / 2 : Nat) = 2 ^ i by rw [Nat.pow_succ]; omega, ih, Nat.testBit_succ]
      simp only [Nat.add_lt_add_iff_right]
      omega

theorem pop_add (s i : Nat) : pop 32 (sAdd s i) = pop 32 s + (if i < 32 ∧ s.testBit i = false then 1 else 0) := by
  unfold sAdd
  by_cases hi : i < 32
  · rw [bit_small i hi, pop_or]
  · rw [bit_big i (by omega), Nat.or_zero, if_neg (by omega), Nat.add_zero]

/-- Four bytes' counts. -/
theorem pop_bytes (s : Nat) : pop 32 s = pop 8 (s / 16777216) + pop 8 (s / 65536 % 256) + pop 8 (s / 256 % 256) + pop 8 (s % 256) := by
  have m8 : ∀ x, pop 8 (x % 256) = pop 8 x := by
    intro x
    have : ∀ f x, pop f (x % 2 ^ f) = pop f x := by
      intro f
      induction f with
      | zero => intro x; rfl
      | succ f ih =>
        intro x
        rw [pop_succ, pop_succ, ← ih (x / 2)]
        congr 1
        · rw [Nat.pow_succ, Nat.mul_comm, Nat.mod_mul_right_mod]
        · congr 1
          rw [Nat.pow_succ, Nat.mul_comm, Nat.mod_mul_right_div_self]
    exact this 8 x
  rw [m8, m8, m8]
  rw [show (32 : Nat) = 8 + (8 + (8 + 8)) from rfl, pop_split, pop_split, pop_split, Nat.div_div_eq_div_mul, Nat.div_div_eq_div_mul]
  simp only [show (2 ^ 8 : Nat) = 256 from rfl, show (256 * 256 : Nat) = 65536 from rfl, show (65536 * 256 : Nat) = 16777216 from rfl]
  omega

theorem pop8_of (b : Int) (h0 : 0 ≤ b) (h1 : b ≤ 255) : Lib.pop8 b = (pop 8 b.toNat : Int) := by
  have e := Lib.pop8_eq ⟨b.toNat, by omega⟩
  simp only [Int.toNat_of_nonneg h0] at e
  rw [e]
  have : ∀ n : Fin 256, Lib.onesCount n.val = pop 8 n.val := by decide +kernel
  rw [this ⟨b.toNat, by omega⟩]

theorem bits_or_u32 (a b : Nat) (ha : a < 4294967296) (hb : b < 4294967296) : bits .or .u32 (a : Int) (b : Int) = ((a ||| b : Nat) : Int) := by
  have hx : a ||| b < 2 ^ 32 := Nat.or_lt_two_pow (by omega) (by omega)
  have h1 : (BitVec.ofInt 32 (a : Int)).toNat = a := by
    rw [BitVec.ofInt_natCast, BitVec.toNat_ofNat]; exact Nat.mod_eq_of_lt (by omega)
  have h2 : (BitVec.ofInt 32 (b : Int)).toNat = b := by
    rw [BitVec.ofInt_natCast, BitVec.toNat_ofNat]; exact Nat.mod_eq_of_lt (by omega)
  show IntKind.u32.wrap ((BitVec.ofInt 32 (a : Int) ||| BitVec.ofInt 32 (b : Int)).toNat : Int) = _
  rw [BitVec.toNat_or, h1, h2, IntKind.wrap_u32]
  omega

theorem bits_and_u32 (a b : Nat) (ha : a < 4294967296) (hb : b < 4294967296) : bits .and .u32 (a : Int) (b : Int) = ((a &&& b : Nat) : Int) := by
  have hx : a &&& b < 2 ^ 32 := Nat.and_lt_two_pow _ (by omega)
  have h1 : (BitVec.ofInt 32 (a : Int)).toNat = a := by
    rw [BitVec.ofInt_natCast, BitVec.toNat_ofNat]; exact Nat.mod_eq_of_lt (by omega)
  have h2 : (BitVec.ofInt 32 (b : Int)).toNat = b := by
    rw [BitVec.ofInt_natCast, BitVec.toNat_ofNat]; exact Nat.mod_eq_of_lt (by omega)
  show IntKind.u32.wrap ((BitVec.ofInt 32 (a : Int) &&& BitVec.ofInt 32 (b : Int)).toNat : Int) = _
  rw [BitVec.toNat_and, h1, h2, IntKind.wrap_u32]
  omega

theorem add_val (s i : Nat) (hs : s < 4294967296) : bits .or .u32 (s : Int) ((2 : Int) ^ min i 32 % 4294967296) = (sAdd s i : Int) := by
  have e : ((2 : Int) ^ min i 32 % 4294967296) = ((2 ^ min i 32 % 4294967296 : Nat) : Int) := by
    rw [Int.natCast_emod, Int.natCast_pow]; rfl
  rw [e, bits_or_u32 s _ hs (bit_lt i)]; rfl

theorem and_pow (s i : Nat) : s &&& 2 ^ i = if s.testBit i then 2 ^ i else 0 := by
  apply Nat.eq_of_testBit_eq
  intro j
  rw [Nat.testBit_and, Nat.testBit_two_pow]
  by_cases e : i = j
  · subst e
    cases h : s.testBit i
    · simp
    · simp
  · cases h : s.testBit i
    · simp [e]
    · simp [e]

theorem has_val (s i : Nat) (hs : s < 4294967296) (hi : i < 32) : (bits .and .u32 (s : Int) ((2 : Int) ^ i % 4294967296) != 0) = s.testBit i := by
  have hp : 2 ^ i < 4294967296 := show 2 ^ i < 2 ^ 32 from Nat.pow_lt_pow_right (by decide) hi
  have e : ((2 : Int) ^ i % 4294967296) = ((2 ^ i : Nat) : Int) := by
    have e2 : (2 : Int) ^ i = ((2 ^ i : Nat) : Int) := by rw [Int.natCast_pow]; rfl
    rw [e2]
    generalize 2 ^ i = z at hp
    omega
  rw [e, bits_and_u32 s _ hs hp, and_pow]
  have : 0 < 2 ^ i := Nat.two_pow_pos i
  cases s.testBit i
  · simp
  · simp only [if_true, bne_iff_ne, ne_eq]; omega

theorem and255 (x : Nat) (h : x < 4294967296) : bits .and .u32 (x : Int) 255 = (x : Int) % 256 := by
  rw [show (255 : Int) = ((255 : Nat) : Int) from rfl, bits_and_u32 x 255 h (by decide)]
  rw [show (255 : Nat) = 2 ^ 8 - 1 from rfl, Nat.and_two_pow_sub_one_eq_mod]
  rfl

theorem ones_val (s : Nat) (hs : s < 4294967296) :
    ((Lib.pop8 ((s : Int) / 16777216) + Lib.pop8 ((s : Int) / 65536 % 256) + Lib.pop8 ((s : Int) / 256 % 256) + Lib.pop8 ((s : Int) % 256)) % 256) = (pop 32 s : Int) := by
  rw [pop8_of _ (by omega) (by omega), pop8_of _ (by omega) (by omega), pop8_of _ (by omega) (by omega), pop8_of _ (by omega) (by omega)]
  have h := pop_bytes s
  have hl := pop_le 32 s
  have a1 : ((s : Int) / 16777216).toNat = s / 16777216 := by omega
  have a2 : ((s : Int) / 65536 % 256).toNat = s / 65536 % 256 := by omega
  have a3 : ((s : Int) / 256 % 256).toNat = s / 256 % 256 := by omega
  have a4 : ((s : Int) % 256).toNat = s % 256 := by omega
  rw [a1, a2, a3, a4]
  omega

end Go.Proofs.Qxb6612199a.SetP
