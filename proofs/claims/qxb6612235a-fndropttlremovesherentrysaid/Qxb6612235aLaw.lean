import Derived.Test.Qxb6612235aLawOpen
namespace Go.Proofs.Qxb6612235a
open Go.RowKit Go.Maps HP

def Held (h : Nat → E) (id : Int) (i : Nat) (v : Bool) : Prop := v = true ↔ ∃ j, j < i ∧ (h j).id = id
def HeldRel (w : World) (h : Nat → E) (id : Int) (n : Nat) (hv iv : Value) (wr : World) : Prop := ∃ (i : Nat) (v : Bool), hv = .bool v ∧ iv = .int .i64 i ∧ i ≤ n ∧ Held h id i v ∧ wr = w
theorem Held.hit {h : Nat → E} {id : Int} {i : Nat} (e : ((h i).id == id) = true) : Held h id (i + 1) true := ⟨fun _ => ⟨i, by omega, by simpa using e⟩, fun _ => rfl⟩
theorem Held.miss {h : Nat → E} {id : Int} {i : Nat} {v : Bool} (hv : Held h id i v) (e : ((h i).id == id) = false) : Held h id (i + 1) v := by
  refine ⟨fun hh => ?_, fun ⟨j, hj, e'⟩ => ?_⟩
  · obtain ⟨j, hj, e'⟩ := hv.1 hh
    exact ⟨j, by omega, e'⟩
  · refine hv.2 ⟨j, ?_, e'⟩
    rcases Nat.lt_or_ge j i with h1 | h1
    · exact h1
    · obtain rfl : j = i := by omega
      simp [e'] at e

/-- The entries pushed so far. -/
def Pd (h : Nat → E) (i : Nat) (x : E) : Prop := ∃ j, j < i ∧ x = h j
theorem Con.congr {S S' : E → Prop} {f : Nat → E} {n : Nat} (h : Con S f n) (e : ∀ x, S x ↔ S' x) : Con S' f n := ⟨fun k hk => (e _).1 (h.1 k hk), fun x hx => h.2.1 x ((e _).2 hx), h.2.2⟩
theorem Pd.next {h : Nat → E} {i : Nat} (x : E) : (Pd h i x ∨ x = h i) ↔ Pd h (i + 1) x := by
  constructor
  · rintro (⟨j, hj, e⟩ | e)
    · exact ⟨j, by omega, e⟩
    · exact ⟨i, by omega, e⟩
  · rintro ⟨j, hj, e⟩
    by_cases e1 : j = i
    · exact .inr (by rw [e, e1])
    · exact .inl ⟨j, by omega, e⟩
theorem node_new {w w' : World} {cur : Array Value} {id : Int} {t : Bool} (hw : w' = w.alloc (.cells cur 67)) (h0 : cur[0]? = some (.int .u32 id)) (h22 : cur[22]? = some (.bool t)) :
    w'.cell? ⟨w.heap.size, 0, none⟩ = some (.int .u32 id) ∧ w'.cell? ⟨w.heap.size, 22, none⟩ = some (.bool t) ∧ w'.frozen? ⟨w.heap.size, 22, none⟩ = false := by
  have e : w'.heap[w.heap.size]? = some (.cells cur 67 (0, 0)) := by rw [hw]; exact heap_alloc_new w _
  refine ⟨?_, ?_, ?_⟩
  · simp [World.cell?, e, h0]
  · simp [World.cell?, e, h22]
  · simp [World.frozen?, e]
def PushRel (w : World) (h : Nat → E) (n : Nat) (iv : Value) (wr : World) : Prop :=
  ∃ (i : Nat) (f : Nat → E) (p : Option Addr) (cap : Nat), iv = .int .i64 i ∧ i ≤ n ∧ Qo wr w.heap.size (w.heap.size + 1) w.heap.size i f p cap ∧ Heap f i ∧ Con (Pd h i) f i ∧ Below w.heap.size w wr

theorem at_any {w : World} {b0 b m W cap : Nat} {p : Option Addr} {f : Nat → E} (h : Qo w b0 b m W f p cap) {k : Nat} (hk : k < W) {x : Int} (hx : x = k) {e : E} (he : f k = e) :
    Calls Try.prog 14 #[.pointer (some ⟨b, 0, none⟩), .int .i64 x] w fun r w' => r = .returned (.tuple #[.int .u32 e.id, .int .i64 e.ttl, .int .i64 e.dl]) ∧ Qo w' b0 b m W f p cap ∧ Below b0 w w' := by
  subst hx he
  obtain ⟨g, rfl, hQ⟩ := h.qu (by omega)
  refine (ttlAt_walk hQ hk).mono ?_
  rintro r w' ⟨rfl, o, rfl⟩
  exact ⟨rfl, (h.alloc o).drew, ((Below.refl _ _).alloc h.size o).drew⟩
theorem place_has {w : World} {b0 b m W cap : Nat} {p : Option Addr} {f : Nat → E} (h : Qo w b0 b m W f p cap) {k : Nat} (hk : k < W) {a : Int} (ha : (f k).id = a) :
    Calls Try.prog 13 #[.pointer (some ⟨b, 0, none⟩), .int .u32 a] w fun r w' => r = .returned (.tuple #[.int .i64 k, .bool true]) ∧ w' = w := by
  subst ha
  obtain ⟨D, hD, hX⟩ := h.map
  exact ttlPlace_walk h.cM hD (h.wf k hk) ((hX.2.1 k hk).2 _) (hX.2.1 k hk).1
theorem place_not {w : World} {b0 b m W cap : Nat} {p : Option Addr} {f : Nat → E} (h : Qo w b0 b m W f p cap) {a : Int} (haw : (Lit.int .u32 a).wf = true) (hno : ∀ k, k < W → (f k).id ≠ a) :
    Calls Try.prog 13 #[.pointer (some ⟨b, 0, none⟩), .int .u32 a] w fun r w' => r = .returned (.tuple #[.int .i64 0, .bool false]) ∧ w' = w := by
  obtain ⟨D, hD, hX⟩ := h.map
  have hf : Maps.has D (.int .u32 a) = false := by
    rcases hb : Maps.has D (.int .u32 a) with _ | _
    · rfl
    · obtain ⟨k, hk, e⟩ := hX.2.2 a hb
      exact absurd e (hno k hk)
  exact ttlPlace_walk h.cM hD haw (Maps.atKey_of_not_has hf _) hf
theorem places_any {w : World} {b0 b m W cap : Nat} {p : Option Addr} {f : Nat → E} (h : Qo w b0 b m W f p cap) :
    Calls Try.prog 12 #[.pointer (some ⟨b, 0, none⟩)] w fun r w' => r = .returned (.int .i64 W) ∧ w' = w := by
  obtain ⟨D, hD, hX⟩ := h.map
  have := ttlPlaces_walk h.cM hD
  rw [hX.1] at this
  exact this
def ChkRel (w1 : World) (n lo b0 b m W : Nat) (f : Nat → E) (p : Option Addr) (cap : Nat) (iv : Value) (wr : World) : Prop :=
  ∃ i : Nat, iv = .int .i64 i ∧ lo ≤ i ∧ i ≤ n ∧ Qo wr b0 b m W f p cap ∧ Below b0 w1 wr

set_option maxRecDepth 100000 in
set_option maxHeartbeats 8000000 in
theorem law_main {w : World} {a : Option Addr} {n cap : Nat} {h : Nat → E} (hE : EIn w a n h) (hwf : ∀ k, k < n → (Lit.int .u32 (h k).id).wf = true) {id : Int} (t : Bool) (hn : n ≤ 4096) :
    Calls Try.prog 3 #[.slice a n cap, .int .u32 id, .bool t] w fun r w' => r = .returned (.bool true) ∧ Below w.heap.size w w' := by
  have hZ := zzBytes_walk w a n cap (by omega) id t
  rw [decide_eq_true (show n ≤ 1048576 by omega)] at hZ
  have hDi := dist_walk (cap := cap) hE (by omega)
  have HE : Hid (EIn w a n h ∧ ∀ k, k < n → (Lit.int .u32 (h k).id).wf = true) := ⟨hE, hwf⟩
  clear hE hwf
  go_enter Try.func3, Try.ntmps3
  go_wp2_with fail
  refine hZ.mono ?_
  rintro r w0 ⟨rfl, e0⟩
  have e0' := e0.symm
  subst e0'
  clear hZ e0
  go_wp2_with fail
  refine hDi.mono ?_
  rintro r w1 ⟨v, rfl, hv, hB1⟩
  cases v
  · go_wp2_with fail
    go_ret
    exact ⟨rfl, hB1⟩
  · have HD : Hid (Dist h n ∧ Below w.heap.size w w1 ∧ EIn w1 a n h) := ⟨hv rfl, hB1, HE.out.1.below (Nat.le_refl _) hB1⟩
    clear hv hB1 hDi
    go_wp2_with fail
    go_loopw [7, 8] (HeldRel w1 h id n) (fun _ iv _ => n - (intOf iv).toNat)
    case atStart => exact ⟨0, false, rfl, rfl, Nat.zero_le _, by simp [Held], rfl⟩
    case round =>
      obtain ⟨i, v, rfl, rfl, hi, hV, e1⟩ := hrel
      have HV : Hid (Held h id i v) := hV
      clear hV
      subst e1
      have hcell : i < n → ∃ eb off, a = some ⟨eb, off, none⟩ ∧ wr.cell? ⟨eb, off + i * 3, none⟩ = some (.int .u32 (h i).id) := fun hin => by
        obtain ⟨eb, off, e, _, hc⟩ := HD.out.2.2 i hin
        exact ⟨eb, off, e, (hc i hin).1⟩
      by_cases hin : i < n
      · obtain ⟨eb, off, rfl, g1⟩ := hcell hin
        clear hcell
        go_wp2_with fail
        · have hm : ((h i).id == id) = true := by assumption
          go_roundw
          case rel => exact ⟨i + 1, true, rfl, by go_num, by omega, Held.hit hm, rfl⟩
          case measure => simp [intOf]; omega
        · have hm : ((h i).id == id) = false := by assumption
          go_roundw
          case rel => exact ⟨i + 1, v, rfl, by go_num, by omega, HV.out.miss hm, rfl⟩
          case measure => simp [intOf]; omega
      · clear hcell
        obtain ⟨w1, rfl⟩ : ∃ w1 : World, w1 = wr := ⟨_, rfl⟩
        obtain rfl : i = n := by omega
        by_cases hvt : v = t
        · subst hvt
          go_wp2_with fail
          refine (newTable_walk _).mono ?_
          rintro r w2 ⟨cur, rfl, hw2, h14, h15⟩
          have HT : Hid (Qo w2 w1.heap.size (w1.heap.size + 1) w1.heap.size 0 h none 0 ∧ Below w1.heap.size w1 w2) := table_new hw2 h14 h15 h (Nat.le_refl _)
          clear hw2 h14 h15
          go_wp2_with fail
          go_loopw [10] (PushRel w1 h i) (fun iv _ => i - (intOf iv).toNat)
          case atStart => exact ⟨0, h, none, 0, rfl, Nat.zero_le _, HT.out.1, fun k h1 h2 => by omega, ⟨fun k hk => by omega, fun x ⟨j, hj, _⟩ => by omega, fun k l hk => by omega⟩, HT.out.2⟩
          case round =>
            obtain ⟨j, f, p, cp, rfl, hj, hQ, hH, hC, hB⟩ := hrel
            have HR : Hid (Qo wr w1.heap.size (w1.heap.size + 1) w1.heap.size j f p cp ∧ Heap f j ∧ Con (Pd h j) f j ∧ Below w1.heap.size w1 wr) := ⟨hQ, hH, hC, hB⟩
            clear hQ hH hC hB
            by_cases hji : j < i
            · obtain ⟨eb, off, rfl, hbl, hc⟩ := (HD.out.2.2.below (Nat.le_refl _) HR.out.2.2.2) j hji
              obtain ⟨g0, g1, g2⟩ := hc j hji
              clear hc
              have g0d : wr.drew.cell? ⟨eb, off + j * 3, none⟩ = some (.int .u32 (h j).id) := g0
              have g1d : wr.drew.cell? ⟨eb, off + j * 3 + 1, none⟩ = some (.int .i64 (h j).ttl) := g1
              have g2d : wr.drew.cell? ⟨eb, off + j * 3 + 2, none⟩ = some (.int .i64 (h j).dl) := g2
              have hP := pushTTL_walk (e := h j) HR.out.1.drew (by omega) (fun x ⟨l, hl, e⟩ ee => by
                have := HD.out.1 l j (by omega) hji (by rw [← e]; exact ee)
                omega) (HE.out.2 j hji) HR.out.2.1 HR.out.2.2.1
              go_wp2_with fail
              go_region_with (go_at_call 7; refine hP.mono ?_; rintro r w3 ⟨rfl, ⟨g', cap', f', q1, q2, q3⟩, q4⟩)
              all_goals
                go_wp2_with fail
                go_roundw
                case rel => exact ⟨j + 1, f', _, cap', by go_num, by omega, q1.qo, q2, Con.congr q3 Pd.next, HR.out.2.2.2.drew.trans q4⟩
                case measure => simp [intOf]; omega
            · obtain rfl : j = i := by omega
              go_wp2_with fail
              refine (newNode_walk _ _ _).mono ?_
              rintro r w4 ⟨cur2, rfl, hw4, n0, n22⟩
              obtain ⟨wp, rfl⟩ : ∃ wp : World, wp = wr := ⟨_, rfl⟩
              have HN : Hid (Qo w4 w1.heap.size (w1.heap.size + 1) w1.heap.size j f p cp ∧ (w4.cell? ⟨wp.heap.size, 0, none⟩ = some (.int .u32 id) ∧ w4.cell? ⟨wp.heap.size, 22, none⟩ = some (.bool v) ∧ w4.frozen? ⟨wp.heap.size, 22, none⟩ = false) ∧ Below w1.heap.size w1 w4) := by
                obtain ⟨s1, s2, s3⟩ := node_new hw4 n0 n22
                rw [hw4] at s1 s2 s3 ⊢
                exact ⟨HR.out.1.alloc _, ⟨s1, s2, s3⟩, HR.out.2.2.2.alloc HR.out.1.size _⟩
              clear hw4 n0 n22
              have hDr := drop_any HN.out.1 HR.out.2.1 HR.out.2.2.1 (id := id) (t := v) (fun e => by
                obtain ⟨l, hl, e'⟩ := HV.out.1 e
                exact ⟨h l, ⟨l, hl, rfl⟩, e'⟩) (k := wp.heap.size) HR.out.1.size (fun e => by have := cell_lt HR.out.1.cE; omega) (fun e => by have := cell_lt HR.out.1.cE; omega) (fun e => by have := (HR.out.1.own.lt _ e.symm).2; omega) HN.out.2.1.1 HN.out.2.1.2.1 HN.out.2.1.2.2
              go_wp2_with fail
              refine hDr.mono ?_
              rintro r w5 ⟨rfl, ⟨W, f', p', cap', hW1, hW2, q1, q2, q3⟩, q4, q5⟩
              clear hDr
              have hNT := nodeTTL_walk q5
              have HQ : Hid (Qo w5 w1.heap.size (w1.heap.size + 1) w1.heap.size W f' p' cap' ∧ Heap f' W ∧ Con (fun x => Pd h j x ∧ (v = true → x.id ≠ id)) f' W ∧ Below w1.heap.size w1 w5) := ⟨q1, q2, q3, HN.out.2.2.trans q4⟩
              clear q1 q2 q3 q4 q5
              go_wp2_with fail
              refine hNT.mono ?_
              rintro r w6 ⟨rfl, e6⟩
              have e6' := e6.symm
              subst e6'
              clear e6 hNT
              cases v
              · obtain rfl : W = j := hW2 rfl
                clear hW1 hW2
                have hLn := ttlLen_walk HQ.out.1.cE
                have hPl := places_any HQ.out.1
                go_wp2_with fail
                refine hLn.mono ?_
                rintro r w6 ⟨rfl, e6⟩
                have e6' := e6.symm
                subst e6'
                clear e6 hLn
                go_wp2_with fail
                refine hPl.mono ?_
                rintro r w6 ⟨rfl, e6⟩
                have e6' := e6.symm
                subst e6'
                clear e6 hPl
                go_wp2_with fail
                go_loopw [13] (ChkRel w1 (W) 0 w1.heap.size (w1.heap.size + 1) w1.heap.size W f' p' cap') (fun iv _ => W - (intOf iv).toNat)
                case atStart => exact ⟨0, rfl, Nat.zero_le _, Nat.zero_le _, HQ.out.1, HQ.out.2.2.2⟩
                case round =>
                  obtain ⟨i, rfl, _, hi, k1, k2⟩ := hrel
                  have HR : Hid (Qo wr w1.heap.size (w1.heap.size + 1) w1.heap.size W f' p' cap' ∧ Below w1.heap.size w1 wr) := ⟨k1, k2⟩
                  clear k1 k2
                  by_cases hin : i < W
                  · obtain ⟨l, hl, hfl⟩ := HQ.out.2.2.1.2.1 (h i) ⟨⟨i, hin, rfl⟩, (fun e => nomatch e)⟩
                    obtain ⟨eb, off, rfl, hbl, hc⟩ := (HD.out.2.2.below (Nat.le_refl _) HR.out.2) i hin
                    obtain ⟨g0, _, _⟩ := hc i hin
                    clear hc
                    have hPh := place_has HR.out.1 hl (congrArg E.id hfl)
                    have hAt := at_any HR.out.1 hl (x := l) rfl hfl
                    go_wp2_with fail
                    refine hPh.mono ?_
                    rintro r w7 ⟨rfl, e7⟩
                    have e7' := e7.symm
                    subst e7'
                    clear e7 hPh
                    go_wp2_with fail
                    refine hAt.mono ?_
                    rintro r w8 ⟨rfl, k1, k2⟩
                    clear hAt
                    have HS : Hid (Qo w8 w1.heap.size (w1.heap.size + 1) w1.heap.size W f' p' cap' ∧ Below w1.heap.size w1 w8) := ⟨k1, HR.out.2.trans k2⟩
                    clear k1 k2
                    obtain ⟨eb2, off2, ee, _, hc⟩ := (HD.out.2.2.below (Nat.le_refl _) HS.out.2) i hin
                    cases ee
                    obtain ⟨g3, g4, g5⟩ := hc i hin
                    clear hc
                    go_wp2_with fail
                    go_roundw
                    case rel => exact ⟨i + 1, by go_num, by omega, by omega, HS.out.1, HS.out.2⟩
                    case measure => simp [intOf]; omega
                  · obtain ⟨wq, rfl⟩ : ∃ wq : World, wq = wr := ⟨_, rfl⟩
                    go_wp2_with fail
                    go_loopw [19] (ChkRel w1 (W + 1) 1 w1.heap.size (w1.heap.size + 1) w1.heap.size W f' p' cap') (fun iv _ => W + 1 - (intOf iv).toNat)
                    case atStart => exact ⟨1, rfl, Nat.le_refl _, by omega, HR.out.1, HR.out.2⟩
                    case round =>
                      obtain ⟨k, rfl, hk1, hk, k1, k2⟩ := hrel
                      have HS : Hid (Qo wr w1.heap.size (w1.heap.size + 1) w1.heap.size W f' p' cap' ∧ Below w1.heap.size w1 wr) := ⟨k1, k2⟩
                      clear k1 k2
                      by_cases hkW : k < W
                      · have hA1 := at_any HS.out.1 hkW (x := k) rfl rfl
                        have hpk := par_lt hk1
                        have hge : ¬ (f' k).dl < (f' (par k)).dl := by have := HQ.out.2.1 k hk1 hkW; omega
                        go_wp2_with fail
                        refine hA1.mono ?_
                        rintro r w8 ⟨rfl, k1, k2⟩
                        clear hA1
                        have HX : Hid (Qo w8 w1.heap.size (w1.heap.size + 1) w1.heap.size W f' p' cap' ∧ Below w1.heap.size w1 w8) := ⟨k1, HS.out.2.trans k2⟩
                        clear k1 k2
                        have hA2 := at_any HX.out.1 (k := par k) (by omega) (x := ((k : Int) - 1) / 2) (by unfold par; omega) rfl
                        go_wp2_with fail
                        refine hA2.mono ?_
                        rintro r w9 ⟨rfl, k1, k2⟩
                        clear hA2
                        have HY : Hid (Qo w9 w1.heap.size (w1.heap.size + 1) w1.heap.size W f' p' cap' ∧ Below w1.heap.size w1 w9) := ⟨k1, HX.out.2.trans k2⟩
                        clear k1 k2
                        go_wp2_with fail
                        go_roundw
                        case rel => exact ⟨k + 1, by go_num, by omega, by omega, HY.out.1, HY.out.2⟩
                        case measure => simp [intOf]; omega
                      · go_wp2_with fail
                        go_ret
                        exact ⟨rfl, HD.out.2.1.trans (HS.out.2.mono HD.out.2.1.size)⟩
              · have e7 := hW1 rfl
                subst e7
                clear hW1 hW2
                have hLn := ttlLen_walk HQ.out.1.cE
                have hPl := places_any HQ.out.1
                go_wp2_with fail
                refine hLn.mono ?_
                rintro r w6 ⟨rfl, e6⟩
                have e6' := e6.symm
                subst e6'
                clear e6 hLn
                go_wp2_with fail
                refine hPl.mono ?_
                rintro r w6 ⟨rfl, e6⟩
                have e6' := e6.symm
                subst e6'
                clear e6 hPl
                go_wp2_with fail
                go_loopw [13] (ChkRel w1 (W + 1) 0 w1.heap.size (w1.heap.size + 1) w1.heap.size W f' p' cap') (fun iv _ => W + 1 - (intOf iv).toNat)
                case atStart => exact ⟨0, rfl, Nat.zero_le _, Nat.zero_le _, HQ.out.1, HQ.out.2.2.2⟩
                case round =>
                  obtain ⟨i, rfl, _, hi, k1, k2⟩ := hrel
                  have HR : Hid (Qo wr w1.heap.size (w1.heap.size + 1) w1.heap.size W f' p' cap' ∧ Below w1.heap.size w1 wr) := ⟨k1, k2⟩
                  clear k1 k2
                  by_cases hin : i < W + 1
                  · by_cases hm : (h i).id = id
                    · have hPn := place_not HR.out.1 (HE.out.2 i hin) (fun l hl e => (HQ.out.2.2.1.1 l hl).2 trivial (e.trans hm))
                      obtain ⟨eb, off, rfl, hbl, hc⟩ := (HD.out.2.2.below (Nat.le_refl _) HR.out.2) i hin
                      obtain ⟨g0, _, _⟩ := hc i hin
                      clear hc
                      rw [hm] at g0 hPn
                      clear hm
                      go_wp2_with fail
                      refine hPn.mono ?_
                      rintro r w7 ⟨rfl, e7⟩
                      have e7' := e7.symm
                      subst e7'
                      clear e7 hPn
                      go_wp2_with fail
                      go_roundw
                      case rel => exact ⟨i + 1, by go_num, by omega, by omega, HR.out.1, HR.out.2⟩
                      case measure => simp [intOf]; omega
                    · have hm2 : ((h i).id == id) = false := by simpa using hm
                      obtain ⟨l, hl, hfl⟩ := HQ.out.2.2.1.2.1 (h i) ⟨⟨i, hin, rfl⟩, (fun _ => hm)⟩
                      obtain ⟨eb, off, rfl, hbl, hc⟩ := (HD.out.2.2.below (Nat.le_refl _) HR.out.2) i hin
                      obtain ⟨g0, _, _⟩ := hc i hin
                      clear hc hm
                      have hPh := place_has HR.out.1 hl (congrArg E.id hfl)
                      have hAt := at_any HR.out.1 hl (x := l) rfl hfl
                      go_wp2_with fail
                      refine hPh.mono ?_
                      rintro r w7 ⟨rfl, e7⟩
                      have e7' := e7.symm
                      subst e7'
                      clear e7 hPh
                      go_wp2_with fail
                      refine hAt.mono ?_
                      rintro r w8 ⟨rfl, k1, k2⟩
                      clear hAt
                      have HS : Hid (Qo w8 w1.heap.size (w1.heap.size + 1) w1.heap.size W f' p' cap' ∧ Below w1.heap.size w1 w8) := ⟨k1, HR.out.2.trans k2⟩
                      clear k1 k2
                      obtain ⟨eb2, off2, ee, _, hc⟩ := (HD.out.2.2.below (Nat.le_refl _) HS.out.2) i hin
                      cases ee
                      obtain ⟨g3, g4, g5⟩ := hc i hin
                      clear hc
                      go_wp2_with fail
                      go_roundw
                      case rel => exact ⟨i + 1, by go_num, by omega, by omega, HS.out.1, HS.out.2⟩
                      case measure => simp [intOf]; omega
                  · obtain ⟨wq, rfl⟩ : ∃ wq : World, wq = wr := ⟨_, rfl⟩
                    go_wp2_with fail
                    go_loopw [19] (ChkRel w1 (W + 1) 1 w1.heap.size (w1.heap.size + 1) w1.heap.size W f' p' cap') (fun iv _ => W + 1 - (intOf iv).toNat)
                    case atStart => exact ⟨1, rfl, Nat.le_refl _, by omega, HR.out.1, HR.out.2⟩
                    case round =>
                      obtain ⟨k, rfl, hk1, hk, k1, k2⟩ := hrel
                      have HS : Hid (Qo wr w1.heap.size (w1.heap.size + 1) w1.heap.size W f' p' cap' ∧ Below w1.heap.size w1 wr) := ⟨k1, k2⟩
                      clear k1 k2
                      by_cases hkW : k < W
                      · have hA1 := at_any HS.out.1 hkW (x := k) rfl rfl
                        have hpk := par_lt hk1
                        have hge : ¬ (f' k).dl < (f' (par k)).dl := by have := HQ.out.2.1 k hk1 hkW; omega
                        go_wp2_with fail
                        refine hA1.mono ?_
                        rintro r w8 ⟨rfl, k1, k2⟩
                        clear hA1
                        have HX : Hid (Qo w8 w1.heap.size (w1.heap.size + 1) w1.heap.size W f' p' cap' ∧ Below w1.heap.size w1 w8) := ⟨k1, HS.out.2.trans k2⟩
                        clear k1 k2
                        have hA2 := at_any HX.out.1 (k := par k) (by omega) (x := ((k : Int) - 1) / 2) (by unfold par; omega) rfl
                        go_wp2_with fail
                        refine hA2.mono ?_
                        rintro r w9 ⟨rfl, k1, k2⟩
                        clear hA2
                        have HY : Hid (Qo w9 w1.heap.size (w1.heap.size + 1) w1.heap.size W f' p' cap' ∧ Below w1.heap.size w1 w9) := ⟨k1, HX.out.2.trans k2⟩
                        clear k1 k2
                        go_wp2_with fail
                        go_roundw
                        case rel => exact ⟨k + 1, by go_num, by omega, by omega, HY.out.1, HY.out.2⟩
                        case measure => simp [intOf]; omega
                      · go_wp2_with fail
                        go_ret
                        exact ⟨rfl, HD.out.2.1.trans (HS.out.2.mono HD.out.2.1.size)⟩
        · have hb : (!v == t) = true := by cases v <;> cases t <;> simp_all
          go_wp2_with fail
          go_ret
          exact ⟨rfl, HD.out.2.1⟩
end Go.Proofs.Qxb6612235a
