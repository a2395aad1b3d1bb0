/-
  Plain laws of a binary heap by deadline, no Go in sight: entries as a function of their place.
-/
namespace Go.Proofs.Qxb6612235a.HP

structure E where
  id : Int
  ttl : Int
  dl : Int

def par (k : Nat) : Nat := (k - 1) / 2
def sw (f : Nat → E) (i j : Nat) : Nat → E := fun k => if k = i then f j else if k = j then f i else f k
def Heap (f : Nat → E) (n : Nat) : Prop := ∀ k, 1 ≤ k → k < n → (f (par k)).dl ≤ (f k).dl
/-- A heap but at j; j's children are no earlier than j's parent. -/
def HUp (f : Nat → E) (n j : Nat) : Prop :=
  (∀ k, 1 ≤ k → k < n → k ≠ j → (f (par k)).dl ≤ (f k).dl) ∧ (∀ k, 1 ≤ k → k < n → par k = j → 1 ≤ j → (f (par j)).dl ≤ (f k).dl)
/-- A heap but at i's children, and at i itself while i is still i0; i's children are no earlier than i's parent. -/
def HDown (f : Nat → E) (n i0 i : Nat) : Prop :=
  (∀ k, 1 ≤ k → k < n → par k ≠ i → ¬ (k = i0 ∧ i = i0) → (f (par k)).dl ≤ (f k).dl) ∧ (∀ k, 1 ≤ k → k < n → par k = i → 1 ≤ i → (f (par i)).dl ≤ (f k).dl)
/-- The first n entries are just those of S, no id twice. -/
def Con (S : E → Prop) (f : Nat → E) (n : Nat) : Prop :=
  (∀ k, k < n → S (f k)) ∧ (∀ e, S e → ∃ k, k < n ∧ f k = e) ∧ (∀ k l, k < n → l < n → (f k).id = (f l).id → k = l)

theorem sw_i (f : Nat → E) (i j : Nat) : sw f i j i = f j := by simp [sw]
theorem sw_j (f : Nat → E) (i j : Nat) : sw f i j j = f i := by
  by_cases h : j = i
  · subst h; simp [sw]
  · simp [sw, h]
theorem sw_o (f : Nat → E) {i j k : Nat} (hi : k ≠ i) (hj : k ≠ j) : sw f i j k = f k := by simp [sw, hi, hj]

theorem par_lt {k : Nat} (h : 1 ≤ k) : par k < k := by unfold par; omega

theorem Con.sw {S : E → Prop} {f : Nat → E} {n i j : Nat} (h : Con S f n) (hi : i < n) (hj : j < n) : Con S (sw f i j) n := by
  obtain ⟨h1, h2, h3⟩ := h
  have key : ∀ k, k < n → ∃ l, l < n ∧ HP.sw f i j k = f l ∧ ((k = i ∧ l = j) ∨ (k = j ∧ k ≠ i ∧ l = i) ∨ (k ≠ i ∧ k ≠ j ∧ l = k)) := by
    intro k hk
    by_cases e1 : k = i
    · exact ⟨j, hj, by rw [e1, sw_i], .inl ⟨e1, rfl⟩⟩
    · by_cases e2 : k = j
      · exact ⟨i, hi, by rw [e2, sw_j], .inr (.inl ⟨e2, e1, rfl⟩)⟩
      · exact ⟨k, hk, sw_o f e1 e2, .inr (.inr ⟨e1, e2, rfl⟩)⟩
  refine ⟨fun k hk => ?_, fun e he => ?_, fun k l hk hl hid => ?_⟩
  · obtain ⟨l, hl, e, _⟩ := key k hk
    rw [e]; exact h1 l hl
  · obtain ⟨k, hk, rfl⟩ := h2 e he
    by_cases e1 : k = i
    · exact ⟨j, hj, by rw [sw_j, e1]⟩
    · by_cases e2 : k = j
      · exact ⟨i, hi, by rw [sw_i, e2]⟩
      · exact ⟨k, hk, sw_o f e1 e2⟩
  · obtain ⟨a, ha, ea, ca⟩ := key k hk
    obtain ⟨b, hb, eb, cb⟩ := key l hl
    rw [ea, eb] at hid
    have := h3 a b ha hb hid
    omega

theorem HUp.done {f : Nat → E} {n j : Nat} (h : HUp f n j) (hd : j = 0 ∨ (f (par j)).dl ≤ (f j).dl) : Heap f n := by
  intro k hk hn
  by_cases e : k = j
  · subst e
    rcases hd with h0 | h0
    · omega
    · exact h0
  · exact h.1 k hk hn e

theorem HUp.step {f : Nat → E} {n j : Nat} (h : HUp f n j) (hj : 1 ≤ j) (hjn : j < n) (hl : (f j).dl < (f (par j)).dl) : HUp (sw f (par j) j) n (par j) := by
  have hp := par_lt hj
  refine ⟨fun k hk hn hne => ?_, fun k hk hn hpk hp1 => ?_⟩
  · by_cases e : k = j
    · subst e; rw [sw_j, sw_i]; omega
    · rw [sw_o f hne e]
      by_cases e2 : par k = j
      · rw [e2, sw_j]; exact h.2 k hk hn e2 hj
      · by_cases e3 : par k = par j
        · rw [e3, sw_i]
          have := h.1 k hk hn e
          rw [e3] at this; omega
        · rw [sw_o f e3 e2]; exact h.1 k hk hn e
  · have hpp := par_lt hp1
    rw [sw_o f (by omega) (by omega)]
    have hg := h.1 (par j) hp1 (by omega) (by omega)
    by_cases e : k = j
    · subst e; rw [sw_j]; exact hg
    · have hkp : k ≠ par j := by have := par_lt hk; omega
      rw [sw_o f hkp e]
      have := h.1 k hk hn e
      rw [hpk] at this; omega

theorem Heap.up {f : Nat → E} {n : Nat} (h : Heap f n) : HUp f (n + 1) n := by
  refine ⟨fun k hk hn hne => h k hk (by omega), fun k hk hn hpk _ => ?_⟩
  have := par_lt hk
  omega

/-- Where an entry is laid at the end. -/
def snoc (f : Nat → E) (n : Nat) (e : E) : Nat → E := fun k => if k = n then e else f k
theorem Heap.snoc {f : Nat → E} {n : Nat} (h : Heap f n) (e : E) : HUp (snoc f n e) (n + 1) n := by
  have hh : Heap (HP.snoc f n e) n := fun k hk hn => by
    have := par_lt hk
    simp only [HP.snoc]; rw [if_neg (by omega), if_neg (by omega)]; exact h k hk hn
  exact hh.up
theorem Con.snoc {S : E → Prop} {f : Nat → E} {n : Nat} (h : Con S f n) {e : E} (hid : ∀ x, S x → x.id ≠ e.id) : Con (fun x => S x ∨ x = e) (snoc f n e) (n + 1) := by
  obtain ⟨h1, h2, h3⟩ := h
  have hv : ∀ k, k < n → HP.snoc f n e k = f k := fun k hk => by simp only [HP.snoc]; rw [if_neg (by omega)]
  have hw : HP.snoc f n e n = e := by simp [HP.snoc]
  refine ⟨fun k hk => ?_, fun x hx => ?_, fun k l hk hl hkl => ?_⟩
  · by_cases e1 : k = n
    · rw [e1, hw]; exact .inr rfl
    · rw [hv k (by omega)]; exact .inl (h1 k (by omega))
  · rcases hx with hx | rfl
    · obtain ⟨k, hk, rfl⟩ := h2 x hx
      exact ⟨k, by omega, hv k hk⟩
    · exact ⟨n, by omega, hw⟩
  · by_cases e1 : k = n <;> by_cases e2 : l = n
    · omega
    · rw [e1, hw, hv l (by omega)] at hkl
      exact absurd hkl.symm (hid _ (h1 l (by omega)))
    · rw [e2, hw, hv k (by omega)] at hkl
      exact absurd hkl (hid _ (h1 k (by omega)))
    · rw [hv k (by omega), hv l (by omega)] at hkl
      exact h3 k l (by omega) (by omega) hkl

/-- Remove: the entry at i0 goes to the end, the last one to i0. -/
theorem Heap.cut {f : Nat → E} {n i0 : Nat} (h : Heap f (n + 1)) (hi : i0 < n) : HDown (sw f i0 n) n i0 i0 := by
  refine ⟨fun k hk hn hp hne => ?_, fun k hk hn hp h1 => ?_⟩
  · have := par_lt hk
    rw [sw_o f hp (by omega), sw_o f (by simpa using hne) (by omega)]
    exact h k hk (by omega)
  · have := par_lt hk
    have := par_lt h1
    rw [sw_o f (by omega) (by omega), sw_o f (by omega) (by omega)]
    have a := h i0 h1 (by omega)
    have b := h k hk (by omega)
    rw [hp] at b; omega

/-- The smaller child c of i stays below i: done. -/
theorem HDown.done {f : Nat → E} {n i0 i : Nat} (h : HDown f n i0 i) (hd : ∀ k, 1 ≤ k → k < n → par k = i → (f i).dl ≤ (f k).dl) :
    (i ≠ i0 → Heap f n) ∧ (i = i0 → HUp f n i0) := by
  have all : ∀ k, 1 ≤ k → k < n → ¬ (k = i0 ∧ i = i0) → (f (par k)).dl ≤ (f k).dl := fun k hk hn hne => by
    by_cases e : par k = i
    · rw [e]; exact hd k hk hn e
    · exact h.1 k hk hn e hne
  refine ⟨fun hne k hk hn => all k hk hn (fun h => hne h.2), fun he => ⟨fun k hk hn hne => all k hk hn (fun h => hne h.1), ?_⟩⟩
  subst he
  exact h.2

theorem HDown.step {f : Nat → E} {n i0 i c : Nat} (h : HDown f n i0 i) (hi : i0 ≤ i) (hc : par c = i) (hc1 : 1 ≤ c) (hcn : c < n) (hmin : ∀ k, 1 ≤ k → k < n → par k = i → (f c).dl ≤ (f k).dl) (hl : (f c).dl < (f i).dl) : HDown (sw f i c) n i0 c := by
  have hic : i < c := by have := par_lt hc1; omega
  refine ⟨fun k hk hn hp _ => ?_, fun k hk hn hp _ => ?_⟩
  · have hkp := par_lt hk
    by_cases e1 : k = i
    · subst e1
      rw [sw_i, sw_o f (by omega) (by omega)]
      exact h.2 c hc1 hcn hc hk
    · by_cases e2 : k = c
      · subst e2; rw [hc, sw_i, sw_j]; omega
      · rw [sw_o f e1 e2]
        by_cases e3 : par k = i
        · rw [e3, sw_i]; exact hmin k hk hn e3
        · rw [sw_o f e3 hp]
          exact h.1 k hk hn e3 (fun hh => by omega)
  · have hkp := par_lt hk
    rw [hc, sw_i, sw_o f (by omega) (by omega)]
    have := h.1 k hk hn (by omega) (fun hh => by omega)
    rw [hp] at this; exact this

/-- The last one is struck. -/
theorem Con.strike {S : E → Prop} {f : Nat → E} {n : Nat} (h : Con S f (n + 1)) : Con (fun x => S x ∧ x.id ≠ (f n).id) f n := by
  obtain ⟨h1, h2, h3⟩ := h
  refine ⟨fun k hk => ⟨h1 k (by omega), fun e => ?_⟩, fun x hx => ?_, fun k l hk hl => h3 k l (by omega) (by omega)⟩
  · have := h3 k n (by omega) (by omega) e
    omega
  · obtain ⟨k, hk, rfl⟩ := h2 x hx.1
    refine ⟨k, ?_, rfl⟩
    rcases Nat.lt_or_ge k n with h | h
    · exact h
    · obtain rfl : k = n := by omega
      exact absurd rfl hx.2
end Go.Proofs.Qxb6612235a.HP
