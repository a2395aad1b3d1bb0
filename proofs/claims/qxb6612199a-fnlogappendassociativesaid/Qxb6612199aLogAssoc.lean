/-
  The walk of FnLogAppendAssociative.
-/
import Derived.Test.Qxb6612199aLogAssocPlain
import Derived.Test.Qxb6612199aLogAssocW1
namespace Go.Proofs.Qxb6612199a.LogP
open Go.RowKit
set_option linter.unusedVariables false
attribute [local go_sem ↓] Go.wp_at_zero Go.wp_at_succ

theorem Hid.mk' {p : Prop} (h : p) : Hid p := h

/-- Three variables of type clock.Log that were there when world ww stood; of what lay below nothing has turned. -/
abbrev S9 (ww w' : World) (gL gT gU : Nat) (x0 x1 x2 y0 y1 y2 z0 z1 z2 : Value) : Prop :=
  Below ww.heap.size ww w' ∧ w'.cell? ⟨gL, 0, none⟩ = some x0 ∧ w'.cell? ⟨gL, 1, none⟩ = some x1 ∧ w'.cell? ⟨gL, 2, none⟩ = some x2 ∧ w'.cell? ⟨gT, 0, none⟩ = some y0 ∧ w'.cell? ⟨gT, 1, none⟩ = some y1 ∧ w'.cell? ⟨gT, 2, none⟩ = some y2 ∧
    w'.cell? ⟨gU, 0, none⟩ = some z0 ∧ w'.cell? ⟨gU, 1, none⟩ = some z1 ∧ w'.cell? ⟨gU, 2, none⟩ = some z2
theorem S9.stepB {ww W W' : World} {B gL gT gU : Nat} {x0 x1 x2 y0 y1 y2 z0 z1 z2 : Value} (hl : gL < ww.heap.size ∧ gT < ww.heap.size ∧ gU < ww.heap.size) (h : S9 ww W gL gT gU x0 x1 x2 y0 y1 y2 z0 z1 z2) (hb : Below B W W') (hB : ww.heap.size ≤ B) : S9 ww W' gL gT gU x0 x1 x2 y0 y1 y2 z0 z1 z2 := by
  obtain ⟨hb0, h0, h1, h2, h3, h4, h5, h6, h7, h8⟩ := h
  obtain ⟨a, b, c⟩ := hl
  exact ⟨hb0.trans (hb.mono hB), keepS hb (by simp; omega) h0, keepS hb (by simp; omega) h1, keepS hb (by simp; omega) h2, keepS hb (by simp; omega) h3, keepS hb (by simp; omega) h4, keepS hb (by simp; omega) h5, keepS hb (by simp; omega) h6, keepS hb (by simp; omega) h7, keepS hb (by simp; omega) h8⟩
theorem S9.step {ww W W' : World} {gL gT gU : Nat} {x0 x1 x2 y0 y1 y2 z0 z1 z2 : Value} (hl : gL < ww.heap.size ∧ gT < ww.heap.size ∧ gU < ww.heap.size) (h : S9 ww W gL gT gU x0 x1 x2 y0 y1 y2 z0 z1 z2) (hb : Below W.heap.size W W') : S9 ww W' gL gT gU x0 x1 x2 y0 y1 y2 z0 z1 z2 := h.stepB hl hb h.1.size
theorem S9.drew {ww W : World} {gL gT gU : Nat} {x0 x1 x2 y0 y1 y2 z0 z1 z2 : Value} (h : S9 ww W gL gT gU x0 x1 x2 y0 y1 y2 z0 z1 z2) : S9 ww W.drew gL gT gU x0 x1 x2 y0 y1 y2 z0 z1 z2 := ⟨h.1.drew, h.2⟩
theorem C6.newD (W : World) : C6 (W.alloc (.cells #[.int .i64 0, .slice none 0 0, .slice none 0 0] 32)).drew W.heap.size := C6.new W
theorem b1 {a b d X : Nat} (h : a + b ≤ X) : a + (b - d) ≤ X := by omega
theorem b2 {a b c : Nat} (h : c ≤ 2 * a + a + b + 8) (h' : a + b ≤ 1048576) : c ≤ 8388608 := by omega
theorem or_le {a b c d : Nat} (h : a = b ∨ c ≤ d) {e : Nat} (he : e ≤ c) : a = b ∨ e ≤ d := by omega

/-- The greater of two ints, under a name of its own. -/
def mx (a b : Int) : Int := max a b
theorem mx_any (a b : Int) (w : World) : Calls Try.prog 13 #[.int .i64 a, .int .i64 b] w fun e w' => e = .returned (.int .i64 (mx a b)) ∧ w' = w := max_any a b w

set_option maxRecDepth 40000 in
set_option maxHeartbeats 8000000 in
theorem assoc_any (Bl Bt Bu : Int) (al1 al2 at1 at2 au1 au2 : Option Addr) (nl cl1 ml cl2 nt ct1 mt ct2 nu cu1 mu cu2 : Nat) (fl ft fu : Nat → E) (pl pt pu : Nat → Int) (w : World)
    (xl1 : nl ≤ 9223372036854775807) (xl2 : ml ≤ 9223372036854775807) (xt1 : nt ≤ 9223372036854775807) (xt2 : mt ≤ 9223372036854775807) (xu1 : nu ≤ 9223372036854775807) (xu2 : mu ≤ 9223372036854775807)
    (El : EvIn w al1 nl fl) (Pl : PrIn w al2 ml pl) (Et : EvIn w at1 nt ft) (Pt : PrIn w at2 mt pt) (Eu : EvIn w au1 nu fu) (Pu : PrIn w au2 mu pu) :
    Calls Try.prog 4 #[.agg #[.int .i64 Bl, .slice al1 nl cl1, .slice al2 ml cl2], .agg #[.int .i64 Bt, .slice at1 nt ct1, .slice at2 mt ct2], .agg #[.int .i64 Bu, .slice au1 nu cu1, .slice au2 mu cu2]] w fun e w' => e = .returned (.bool true) ∧ Below w.heap.size w w' := by
  go_enter Try.func4, Try.ntmps4
  go_wp2_with (go_at_call 12; refine (bytes3_any Bl al1 al2 nl cl1 ml cl2 Bt at1 at2 nt ct1 mt ct2 Bu au1 au2 nu cu1 mu cu2 _ xl1 xl2 xt1 xt2 xu1 xu2).mono ?_; rintro e w1 ⟨t, rfl, ht, hb1⟩; cases t)
  · go_ret
    exact ⟨rfl, (bel3 (Below.refl _ _) (Nat.le_refl _) _ _ _).trans (hb1.mono (by simp; omega))⟩
  · have hS := (S3.start w _ _ _ _ _ _ _ _ _ _).step hb1
    clear hb1
    have hsum : nl + ml + nt + mt + nu + mu ≤ 1048576 := by simpa using ht
    clear ht
    have hwr1 : IntKind.i64.wrap (24 + 24 * (nl : Int) + 4 * (ml : Int) + (24 + 24 * (nt : Int) + 4 * (mt : Int))) = 24 + 24 * (nl : Int) + 4 * (ml : Int) + (24 + 24 * (nt : Int) + 4 * (mt : Int)) := by rw [IntKind.wrap_i64]; omega
    have hwr2 : IntKind.i64.wrap (24 + 24 * (nl : Int) + 4 * (ml : Int) + (24 + 24 * (nt : Int) + 4 * (mt : Int)) + (24 + 24 * (nu : Int) + 4 * (mu : Int))) = 24 + 24 * (nl : Int) + 4 * (ml : Int) + (24 + 24 * (nt : Int) + 4 * (mt : Int)) + (24 + 24 * (nu : Int) + 4 * (mu : Int)) := by rw [IntKind.wrap_i64]; omega
    go_region_held3 (fun w' => (Below w.heap.size w w' ∧ w.heap.size + 3 ≤ w'.heap.size) ∧ w'.cell? ⟨w.heap.size, 0, none⟩ = some (.int .i64 Bl) ∧ w'.cell? ⟨w.heap.size, 1, none⟩ = some (.slice al1 nl cl1) ∧ w'.cell? ⟨w.heap.size, 2, none⟩ = some (.slice al2 ml cl2) ∧ w'.cell? ⟨w.heap.size + 1, 0, none⟩ = some (.int .i64 Bt) ∧ w'.cell? ⟨w.heap.size + 1, 1, none⟩ = some (.slice at1 nt ct1) ∧ w'.cell? ⟨w.heap.size + 1, 2, none⟩ = some (.slice at2 mt ct2) ∧ w'.cell? ⟨w.heap.size + 1 + 1, 0, none⟩ = some (.int .i64 Bu) ∧ w'.cell? ⟨w.heap.size + 1 + 1, 1, none⟩ = some (.slice au1 nu cu1) ∧ w'.cell? ⟨w.heap.size + 1 + 1, 2, none⟩ = some (.slice au2 mu cu2))
      (first | exact hS.drew | exact S3.step (by assumption) hbC | exact S3.step (by assumption) hbB | exact S3.step (by assumption) hbA)
      ((first | (go_at_call_of 7 (Value.agg #[.int .i64 Bl, .slice al1 nl cl1, .slice al2 ml cl2]); refine (logBytes_bel Bl al1 al2 nl cl1 ml cl2 _ (by omega) (by omega)).mono ?_; rintro e w2 ⟨rfl, hbA⟩) | (go_at_call_of 7 (Value.agg #[.int .i64 Bt, .slice at1 nt ct1, .slice at2 mt ct2]); refine (logBytes_bel Bt at1 at2 nt ct1 mt ct2 _ (by omega) (by omega)).mono ?_; rintro e w3 ⟨rfl, hbB⟩) | (go_at_call 7; refine (logBytes_bel Bu au1 au2 nu cu1 mu cu2 _ (by omega) (by omega)).mono ?_; rintro e w4 ⟨rfl, hbC⟩)))
    have hS3 : S3 w w4 _ _ _ _ _ _ _ _ _ := ‹_›
    obtain ⟨⟨hB3, hz3⟩, s0, s1, s2, s3, s4, s5, s6, s7, s8⟩ := id hS3
    clear hbA hbB hbC hS
    go_wp2
    · go_ret; exact ⟨rfl, hB3⟩
    · go_ret; exact ⟨rfl, hB3⟩
    · go_ret; exact ⟨rfl, hB3⟩
    rotate_left
    · go_ret; exact ⟨rfl, hB3⟩
    · go_ret; exact ⟨rfl, hB3⟩
    · go_ret; exact ⟨rfl, hB3⟩
    · go_ret; exact ⟨rfl, hB3⟩
    · go_ret; exact ⟨rfl, hB3⟩
    · go_ret; exact ⟨rfl, hB3⟩
    have hle2 : Bt ≤ Bl + nl ∧ Bu ≤ Bt + nt := by assumption
    have hbs : 24 + 24 * (nl : Int) + 4 * (ml : Int) + (24 + 24 * (nt : Int) + 4 * (mt : Int)) + (24 + 24 * (nu : Int) + 4 * (mu : Int)) ≤ 1048576 := by assumption
    have hBl0 : 0 ≤ Bl := by assumption
    have hBl1 : Bl ≤ 1099511627776 := by assumption
    have hBt0 : 0 ≤ Bt := by assumption
    have hBt1 : Bt ≤ 1099511627776 := by assumption
    have hBu0 : 0 ≤ Bu := by assumption
    have hBu1 : Bu ≤ 1099511627776 := by omega
    have hq8 : ∀ nn, Calls Try.prog 8 #[.slice at1 nt ct1] (w4.drewN nn) fun e w' => e = .returned (.int .i64 (cnt ft nt)) ∧ w' = w4.drewN nn := fun nn => sentCount_in at1 nt ct1 ft _ (by omega) (Et.below (below_drewN hB3 _))
    have hq9 : ∀ nn, Calls Try.prog 8 #[.slice au1 nu cu1] (w4.drewN nn) fun e w' => e = .returned (.int .i64 (cnt fu nu)) ∧ w' = w4.drewN nn := fun nn => sentCount_in au1 nu cu1 fu _ (by omega) (Eu.below (below_drewN hB3 _))
    have HQ8 := Hid.mk' hq8
    have HQ9 := Hid.mk' hq9
    clear hq8 hq9
    by_cases hmt : ((mt : Int) != (cnt ft nt : Int)) = true
    · go_quiet ((first | (go_at_call_of 8 (Value.slice at1 nt ct1); exact Calls.quiet_of_same (HQ8.out _)) | (go_at_call 8; exact Calls.quiet_of_same (HQ9.out _))))
      go_wp2
      go_ret
      exact ⟨rfl, below_drewN hB3 _⟩
    have hmt' : ((mt : Int) != (cnt ft nt : Int)) = false := by simpa using hmt
    clear hmt
    go_quiet ((first | (go_at_call_of 8 (Value.slice at1 nt ct1); exact Calls.quiet_of_same (HQ8.out _)) | (go_at_call 8; exact Calls.quiet_of_same (HQ9.out _))))
    go_wp2_with fail
    · go_ret; exact ⟨rfl, below_drewN hB3 _⟩
    have hmu' : ((mu : Int) != (cnt fu nu : Int)) = false := by assumption
    have HMt : Hid (mt = cnt ft nt) := by
      have : (mt : Int) = (cnt ft nt : Int) := by simpa using hmt'
      exact Int.ofNat_inj.1 this
    have HMu : Hid (mu = cnt fu nu) := by
      have : (mu : Int) = (cnt fu nu : Int) := by simpa using hmu'
      exact Int.ofNat_inj.1 this
    have hS4 := hS3.drewN nq
    clear hmt' s0 s1 s2 s3 s4 s5 s6 s7 s8 HQ8 HQ9
    refine (toLog_any Bl al1 al2 nl cl1 ml cl2 fl pl _ (by omega) (by omega) (El.below hS4.bel) (Pl.below hS4.bel)).mono ?_
    rintro e w5 ⟨l1, l2, rfl, ol1, ol2, hb5⟩
    have hS5 := hS4.step hb5
    obtain ⟨⟨_, hz5⟩, s0, s1, s2, s3, s4, s5, s6, s7, s8⟩ := id hS5
    have hSa := hS5.step (bel1 (Below.refl _ _) (Nat.le_refl _) (.cells #[.int .i64 Bl, .slice (some ⟨l1, 0, none⟩) nl nl, .slice (some ⟨l2, 0, none⟩) ml ml] 32))
    have FL := LogF.new (B := Bl) ol1 ol2
    have hza : w.heap.size + 1 < w5.heap.size := by omega
    have hzb : w.heap.size + 1 + 1 < w5.heap.size := by omega
    clear hS4 hb5 hS3 ol1 ol2
    go_wp2_with fail
    refine (toLog_any Bt at1 at2 nt ct1 mt ct2 ft pt _ (by omega) (by omega) (Et.below hSa.bel) (Pt.below hSa.bel)).mono ?_
    rintro e w6 ⟨t1, t2, rfl, ot1, ot2, hb6⟩
    have FL6 := FL.step hb6
    have hS6 := hSa.step hb6
    clear s0 s1 s2 s3 s4 s5 s6 s7 s8 hza hzb FL hSa hS5 hb6
    obtain ⟨⟨_, hz6⟩, s0, s1, s2, s3, s4, s5, s6, s7, s8⟩ := id hS6
    have hSa := hS6.step (bel1 (Below.refl _ _) (Nat.le_refl _) (.cells #[.int .i64 Bt, .slice (some ⟨t1, 0, none⟩) nt nt, .slice (some ⟨t2, 0, none⟩) mt mt] 32))
    have FLa := FL6.step (bel1 (Below.refl _ _) (Nat.le_refl _) (.cells #[.int .i64 Bt, .slice (some ⟨t1, 0, none⟩) nt nt, .slice (some ⟨t2, 0, none⟩) mt mt] 32))
    have FT := LogF.new (B := Bt) ot1 ot2
    have hza : w.heap.size + 1 < w6.heap.size := by omega
    have hzb : w.heap.size + 1 + 1 < w6.heap.size := by omega
    clear FL6 ot1 ot2 hS6
    go_wp2_with fail
    refine (toLog_any Bu au1 au2 nu cu1 mu cu2 fu pu _ (by omega) (by omega) (Eu.below hSa.bel) (Pu.below hSa.bel)).mono ?_
    rintro e w7 ⟨u1, u2, rfl, ou1, ou2, hb7⟩
    have FL7 := (FLa.step hb7).step (bel1 (Below.refl _ _) (Nat.le_refl _) (.cells #[.int .i64 Bu, .slice (some ⟨u1, 0, none⟩) nu nu, .slice (some ⟨u2, 0, none⟩) mu mu] 32))
    have FT7 := (FT.step hb7).step (bel1 (Below.refl _ _) (Nat.le_refl _) (.cells #[.int .i64 Bu, .slice (some ⟨u1, 0, none⟩) nu nu, .slice (some ⟨u2, 0, none⟩) mu mu] 32))
    have FU7 := LogF.new (B := Bu) ou1 ou2
    have hS7 := (hSa.step hb7).step (bel1 (Below.refl _ _) (Nat.le_refl _) (.cells #[.int .i64 Bu, .slice (some ⟨u1, 0, none⟩) nu nu, .slice (some ⟨u2, 0, none⟩) mu mu] 32))
    clear s0 s1 s2 s3 s4 s5 s6 s7 s8 hza hzb FT FLa hSa hb7 ou1 ou2
    go_wp2_with fail
    generalize w7.alloc (.cells #[.int .i64 Bu, .slice (some ⟨u1, 0, none⟩) nu nu, .slice (some ⟨u2, 0, none⟩) mu mu] 32) = ww at FL7 FT7 FU7 hS7 ⊢
    obtain ⟨gL, hgL⟩ : ∃ g, g = w5.heap.size := ⟨_, rfl⟩
    obtain ⟨gT, hgT⟩ : ∃ g, g = w6.heap.size := ⟨_, rfl⟩
    obtain ⟨gU, hgU⟩ : ∃ g, g = w7.heap.size := ⟨_, rfl⟩
    rw [← hgL] at FL7 ⊢
    rw [← hgT] at FT7 ⊢
    rw [← hgU] at FU7 ⊢
    clear hgL hgT hgU hz5 hz6 hB3 hz3
    obtain ⟨lL, a0, a1, a2, ol1, ol2⟩ := id FL7
    obtain ⟨lT, b0, b1, b2, ot1, ot2⟩ := id FT7
    obtain ⟨lU, c0, c1, c2, ou1, ou2⟩ := id FU7
    have hlt3 : gL < ww.heap.size ∧ gT < ww.heap.size ∧ gU < ww.heap.size := ⟨lL, lT, lU⟩
    have h9 : S9 ww ww gL gT gU _ _ _ _ _ _ _ _ _ := ⟨Below.refl _ _, a0, a1, a2, b0, b1, b2, c0, c1, c2⟩
    obtain ⟨d1, hd1⟩ : ∃ d : Nat, Bl + nl = Bt + d := ⟨(Bl + nl - Bt).toNat, by omega⟩
    obtain ⟨d3, hd3⟩ : ∃ d : Nat, Bt + nt = Bu + d := ⟨(Bt + nt - Bu).toNat, by omega⟩
    obtain ⟨q1, hq1⟩ : ∃ q, q = cnt ft (min d1 nt) := ⟨_, rfl⟩
    obtain ⟨q2, hq2⟩ : ∃ q, q = cnt fu (min (d3 + (d1 - nt)) nu) := ⟨_, rfl⟩
    obtain ⟨q3, hq3⟩ : ∃ q, q = cnt fu (min d3 nu) := ⟨_, rfl⟩
    obtain ⟨q4, hq4⟩ : ∃ q, q = cnt (cat nt ft (fun k => fu (d3 + k))) (min d1 (nt + (nu - d3))) := ⟨_, rfl⟩
    have HD1 : Hid (Bl + nl = Bt + d1) := hd1
    have HD3 : Hid (Bt + nt = Bu + d3) := hd3
    have HD2 : Hid (Bl + ((nl + (nt - d1) : Nat) : Int) = Bu + ((d3 + (d1 - nt) : Nat) : Int)) := Hid.mk' (by omega)
    have HQ1 : Hid (q1 = cnt ft (min d1 nt)) := hq1
    have HQ2 : Hid (q2 = cnt fu (min (d3 + (d1 - nt)) nu)) := hq2
    have HQ3 : Hid (q3 = cnt fu (min d3 nu)) := hq3
    have HQ4 : Hid (q4 = cnt (cat nt ft (fun k => fu (d3 + k))) (min d1 (nt + (nu - d3)))) := hq4
    have HTU : Hid (mt + (mu - q3) = cnt (cat nt ft (fun k => fu (d3 + k))) (nt + (nu - d3))) := Hid.mk' (by rw [hq3]; exact tail_cnt nt nu mt mu d3 ft fu HMt.out HMu.out)
    have hnlt : nl + nt ≤ 1048576 := by omega
    have hmlt : ml + mt ≤ 1048576 := by omega
    have hnub : nu ≤ 1048576 := by omega
    have hntu : nt + nu ≤ 1048576 := by omega
    have hmtu : mt + mu ≤ 1048576 := by omega
    have hnlb : nl ≤ 1048576 := by omega
    have hmlb : ml ≤ 1048576 := by omega
    have hntb : nt ≤ 1048576 := by omega
    have hmtb : mt ≤ 1048576 := by omega
    have hbig : ∀ n : Nat, n ≤ 1048576 → n ≤ 8388608 := fun n h => by omega
    clear hd1 hd3 hq1 hq2 hq3 hq4 a0 a1 a2 b0 b1 b2 c0 c1 c2 hwr1 hwr2
    go_cut [13] (fun v13 wc => Below ww.heap.size ww wc ∧ ∃ gv, v13 = .pointer (some ⟨gv, 0, none⟩) ∧ LogV wc gv Bl (nl + (nt - d1) + (nu - (d3 + (d1 - nt)))) (cat (nl + (nt - d1)) (cat nl fl (fun k => ft (d1 + k))) (fun k => fu (d3 + (d1 - nt) + k))) (ml + (mt - q1) + (mu - q2)) (cat (ml + (mt - q1)) (cat ml pl (fun k => pt (q1 + k))) (fun k => pu (q2 + k))))
    case first =>
      go_region_held3 (fun w' => Below ww.heap.size ww w' ∧ w'.cell? ⟨gL, 0, none⟩ = some (.int .i64 Bl) ∧ w'.cell? ⟨gL, 1, none⟩ = some (.slice (some ⟨l1, 0, none⟩) nl nl) ∧ w'.cell? ⟨gL, 2, none⟩ = some (.slice (some ⟨l2, 0, none⟩) ml ml) ∧ w'.cell? ⟨gT, 0, none⟩ = some (.int .i64 Bt) ∧ w'.cell? ⟨gT, 1, none⟩ = some (.slice (some ⟨t1, 0, none⟩) nt nt) ∧ w'.cell? ⟨gT, 2, none⟩ = some (.slice (some ⟨t2, 0, none⟩) mt mt) ∧ w'.cell? ⟨gU, 0, none⟩ = some (.int .i64 Bu) ∧ w'.cell? ⟨gU, 1, none⟩ = some (.slice (some ⟨u1, 0, none⟩) nu nu) ∧ w'.cell? ⟨gU, 2, none⟩ = some (.slice (some ⟨u2, 0, none⟩) mu mu))
        (first | (with_reducible exact h9.drew) | (with_reducible exact S9.stepB hlt3 (by assumption) hbB (Nat.le_refl _)) | (with_reducible exact S9.step hlt3 (by assumption) hbA) | (with_reducible exact S9.step hlt3 (by assumption) (bel1 (Below.refl _ _) (Nat.le_refl _) _)) | (with_reducible exact S9.step hlt3 hS8 (bel1 (Below.refl _ _) (Nat.le_refl _) _)) | (with_reducible exact S9.stepB hlt3 hS8 ((((Below.refl ww.heap.size _).setCell z8 _).setCell z8 _).setCell z8 _) (Nat.le_refl _)) | (with_reducible exact S9.stepB hlt3 hS8 ((((Below.refl ww.heap.size _).setCell (Nat.le_refl _) _).setCell (Nat.le_refl _) _).setCell (Nat.le_refl _) _) (Nat.le_refl _)))
        ((first
          | (go_at_call_of 10 (Value.agg #[.int .i64 Bt, .slice (some ⟨t1, 0, none⟩) nt nt, .slice (some ⟨t2, 0, none⟩) mt mt]); refine (append_all _ Bl Bt l1 nl nl l2 ml ml t1 nt nt t2 mt mt _ (by omega) (by omega) hBl0 hBl1 hBt0 hBt1 d1 q1 HD1.out ft HQ1.out HMt.out (Nat.le_refl _) (Nat.le_refl _) fl pl pt (by omega) (Nat.le_refl _) (Nat.le_refl _) (by omega) (by omega) (by first | exact ol1 | exact ol1.alloc _) (by first | exact ol2 | exact ol2.alloc _) (by first | exact ot1 | exact ot1.alloc _) (by first | exact ot2 | exact ot2.alloc _) (Nat.le_refl _) (Or.inl rfl) (Or.inl rfl)).mono ?_; rintro e w8 ⟨g1', c1', g2', c2', rfl, oE, hE1, hE2, hE3, oC, hC1, hC2, hC3, hbA, hKA⟩; (try have G := (C6.newD ww).step hbA); have z8 : ww.heap.size ≤ w8.heap.size := (by have z80 := hbA.size; simp at z80; omega); have hfE : c1' = nl + (nt - d1) ∨ ww.heap.size ≤ g1' := or_le hE3 (by simp); have hfC : c2' = ml + (mt - q1) ∨ ww.heap.size ≤ g2' := or_le hC3 (by simp); have ou1' := ownsRow_below (by first | exact ou1 | exact ou1.alloc _) hbA (by have := (ou1.lt u1 rfl).2; (try simp) <;> omega); have ou2' := ownsRow_below (by first | exact ou2 | exact ou2.alloc _) hbA (by have := (ou2.lt u2 rfl).2; (try simp) <;> omega); clear hE3 hC3)
          | (go_at_call 10; refine (append_all ww.heap.size Bl Bu g1' (nl + (nt - d1)) c1' g2' (ml + (mt - q1)) c2' u1 nu nu u2 mu mu _ (b1 hnlt) hnub hBl0 hBl1 hBu0 hBu1 (d3 + (d1 - nt)) q2 HD2.out fu HQ2.out HMu.out (Nat.le_refl _) (Nat.le_refl _) (cat nl fl (fun k => ft (d1 + k))) (cat ml pl (fun k => pt (q1 + k))) pu (b1 hmlt) hE1 hC1 (b2 hE2 hnlt) (b2 hC2 hmlt) (by first | exact oE | exact oE.alloc _) (by first | exact oC | exact oC.alloc _) (by first | exact ou1' | exact ou1'.alloc _) (by first | exact ou2' | exact ou2'.alloc _) (by first | exact z8 | exact Nat.le_trans z8 (by simp)) hfE hfC).mono ?_; rintro e w9 ⟨h1', e1', h2', e2', rfl, oE2, _, _, _, oC2, _, _, _, hbB, hKB⟩; have z9 := hbB.size; (first | (have hx9 : (w8.alloc (.cells #[.int .i64 0, .slice none 0 0, .slice none 0 0] 32)).heap.size ≤ w9.heap.size := (by with_reducible exact hbB.size); have G := (C6.new w8).keepK hx9 (hKB w8.heap.size (by simp) (Ne.symm (ne_32 (by decide) (oE.alloc _) (C6.new w8).2.1)) (Ne.symm (ne_32 (by decide) (oC.alloc _) (C6.new w8).2.1)))) | (have G := C6.keepK G hbB.size (hKB _ G.1 (Ne.symm (ne_32 (by decide) oE G.2.1)) (Ne.symm (ne_32 (by decide) oC G.2.1)))) | skip); have hS8 := S9.stepB hlt3 (by assumption) hbB (Nat.le_refl _); (try have GG := G); (try obtain ⟨gz0, _, gx0, gx1, gx2, gy0, gy1, gy2⟩ := G))))
      all_goals
        go_wp2_with fail
        have hSf : S9 ww _ gL gT gU _ _ _ _ _ _ _ _ _ := ‹_›
        go_meet
        case rel => first | exact ⟨hSf.1, _, rfl, LogV.alloc oE2 oC2⟩ | exact ⟨hSf.1, _, rfl, LogV.store GG oE2 oC2⟩
    case rest =>
      obtain ⟨hBw, gv, rfl, hLV⟩ := hcut
      obtain ⟨wA, hwA⟩ : ∃ wA : World, wA = wc := ⟨_, rfl⟩
      rw [← hwA] at hBw hLV ⊢
      clear hwA h9 ol1 ol2 ot1 ot2 ou1 ou2
      have hSA := hS7.step hBw
      obtain ⟨lL2, a0, a1, a2, ol1, ol2⟩ := FL7.step hBw
      obtain ⟨lT2, b0, b1', b2', ot1, ot2⟩ := FT7.step hBw
      obtain ⟨lU2, c0, c1, c2, ou1, ou2⟩ := FU7.step hBw
      have hlt4 : gL < wA.heap.size ∧ gT < wA.heap.size ∧ gU < wA.heap.size := ⟨lL2, lT2, lU2⟩
      have h9 : S9 wA wA gL gT gU _ _ _ _ _ _ _ _ _ := ⟨Below.refl _ _, a0, a1, a2, b0, b1', b2', c0, c1, c2⟩
      clear a0 a1 a2 b0 b1' b2' c0 c1 c2 FL7 FT7 FU7 hS7 hlt3 lL lT lU hBw
      go_wp2_with fail
      go_cut [14] (fun v14 wc => Below wA.heap.size wA wc ∧ ∃ gv2, v14 = .pointer (some ⟨gv2, 0, none⟩) ∧ LogV wc gv2 Bl (nl + (nt + (nu - d3) - d1)) (cat nl fl (fun k => cat nt ft (fun k => fu (d3 + k)) (d1 + k))) (ml + (mt + (mu - q3) - q4)) (cat ml pl (fun k => cat mt pt (fun k => pu (q3 + k)) (q4 + k))))
      case first =>
        go_region_held3 (fun w' => Below wA.heap.size wA w' ∧ w'.cell? ⟨gL, 0, none⟩ = some (.int .i64 Bl) ∧ w'.cell? ⟨gL, 1, none⟩ = some (.slice (some ⟨l1, 0, none⟩) nl nl) ∧ w'.cell? ⟨gL, 2, none⟩ = some (.slice (some ⟨l2, 0, none⟩) ml ml) ∧ w'.cell? ⟨gT, 0, none⟩ = some (.int .i64 Bt) ∧ w'.cell? ⟨gT, 1, none⟩ = some (.slice (some ⟨t1, 0, none⟩) nt nt) ∧ w'.cell? ⟨gT, 2, none⟩ = some (.slice (some ⟨t2, 0, none⟩) mt mt) ∧ w'.cell? ⟨gU, 0, none⟩ = some (.int .i64 Bu) ∧ w'.cell? ⟨gU, 1, none⟩ = some (.slice (some ⟨u1, 0, none⟩) nu nu) ∧ w'.cell? ⟨gU, 2, none⟩ = some (.slice (some ⟨u2, 0, none⟩) mu mu))
          (first | (with_reducible exact h9.drew) | (with_reducible exact S9.step hlt4 (by assumption) hbB) | (with_reducible exact S9.step hlt4 (by assumption) hbA) | (with_reducible exact S9.step hlt4 (by assumption) (bel1 (Below.refl _ _) (Nat.le_refl _) _)) | (with_reducible exact S9.step hlt4 hS8 (bel1 (Below.refl _ _) (Nat.le_refl _) _)) | (with_reducible exact S9.stepB hlt4 hS8 ((((Below.refl wA.heap.size _).setCell z8 _).setCell z8 _).setCell z8 _) (Nat.le_refl _)) | (with_reducible exact S9.stepB hlt4 hS8 ((((Below.refl wA.heap.size _).setCell (Nat.le_refl _) _).setCell (Nat.le_refl _) _).setCell (Nat.le_refl _) _) (Nat.le_refl _)))
          ((first
            | (go_at_call_of 10 (Value.agg #[.int .i64 Bu, .slice (some ⟨u1, 0, none⟩) nu nu, .slice (some ⟨u2, 0, none⟩) mu mu]); refine (append_all _ Bt Bu t1 nt nt t2 mt mt u1 nu nu u2 mu mu _ hntb hnub hBt0 hBt1 hBu0 hBu1 d3 q3 HD3.out fu HQ3.out HMu.out (Nat.le_refl _) (Nat.le_refl _) ft pt pu hmtb (Nat.le_refl _) (Nat.le_refl _) (hbig _ hntb) (hbig _ hmtb) (by first | exact ot1 | exact ot1.alloc _) (by first | exact ot2 | exact ot2.alloc _) (by first | exact ou1 | exact ou1.alloc _) (by first | exact ou2 | exact ou2.alloc _) (Nat.le_refl _) (Or.inl rfl) (Or.inl rfl)).mono ?_; rintro e w8 ⟨g1', c1', g2', c2', rfl, oE, hE1, hE2, hE3, oC, hC1, hC2, hC3, hbA, hKA⟩; (try have G := (C6.newD wA).step hbA); have z8 : wA.heap.size ≤ w8.heap.size := (by have z80 := hbA.size; simp at z80; omega); have ol1' := ownsRow_below (by first | exact ol1 | exact ol1.alloc _) hbA (by have := (ol1.lt l1 rfl).2; (try simp) <;> omega); have ol2' := ownsRow_below (by first | exact ol2 | exact ol2.alloc _) hbA (by have := (ol2.lt l2 rfl).2; (try simp) <;> omega); clear hE3 hC3 hE2 hC2 hKA)
            | (go_at_call 10; refine (append_all _ Bl Bt l1 nl nl l2 ml ml g1' (nt + (nu - d3)) c1' g2' (mt + (mu - q3)) c2' _ hnlb (b1 hntu) hBl0 hBl1 hBt0 hBt1 d1 q4 HD1.out (cat nt ft (fun k => fu (d3 + k))) HQ4.out HTU.out hE1 hC1 fl pl (cat mt pt (fun k => pu (q3 + k))) hmlb (Nat.le_refl _) (Nat.le_refl _) (hbig _ hnlb) (hbig _ hmlb) (by first | exact ol1' | exact ol1'.alloc _) (by first | exact ol2' | exact ol2'.alloc _) (by first | exact oE | exact oE.alloc _) (by first | exact oC | exact oC.alloc _) (Nat.le_refl _) (Or.inl rfl) (Or.inl rfl)).mono ?_; rintro e w9 ⟨h1', e1', h2', e2', rfl, oE2, _, _, _, oC2, _, _, _, hbB, hKB⟩; (first | (have G : C6 w9 w8.heap.size := (by with_reducible exact (C6.new w8).step hbB)) | (have G := C6.step G hbB) | skip); have hS8 := S9.step hlt4 (by assumption) hbB; clear hKB; (try have GG := G); (try obtain ⟨gz0, _, gx0, gx1, gx2, gy0, gy1, gy2⟩ := G))))
        all_goals
          go_wp2_with fail
          have hSf : S9 wA _ gL gT gU _ _ _ _ _ _ _ _ _ := ‹_›
          go_meet
          case rel => first | exact ⟨hSf.1, _, rfl, LogV.alloc oE2 oC2⟩ | exact ⟨hSf.1, _, rfl, LogV.store GG oE2 oC2⟩
      case rest =>
        obtain ⟨hBx, gv2, rfl, hRV⟩ := hcut
        have hRV' := hRV.congr (assoc_len nl nt nu d1 d3).symm (assoc_calen nt nu ml mt mu d1 d3 ft fu HMt.out HMu.out q1 q2 q3 q4 HQ1.out HQ2.out HQ3.out HQ4.out).symm (fun k => (assoc_ev nl nt d1 d3 fl ft fu k).symm) (fun k => (assoc_ca nt nu ml mt d1 d3 ft fu pl pt pu HMt.out q1 q2 q3 q4 HQ1.out HQ2.out HQ3.out HQ4.out k).symm)
        have hLV' := hLV.step hBx
        have hSx := hSA.step hBx
        have hF : ∀ k, k < nl → cat (nl + (nt - d1)) (cat nl fl (fun k => ft (d1 + k))) (fun k => fu (d3 + (d1 - nt) + k)) k = fl k := fun k hk => by rw [cat_lt (by omega), cat_lt hk]
        have hP : ∀ k, k < ml → cat (ml + (mt - q1)) (cat ml pl (fun k => pt (q1 + k))) (fun k => pu (q2 + k)) k = pl k := fun k hk => by rw [cat_lt (by omega), cat_lt hk]
        have hN0 : nl ≤ nl + (nt - d1) + (nu - (d3 + (d1 - nt))) ∧ nl + (nt - d1) + (nu - (d3 + (d1 - nt))) ≤ 1048576 ∧ mx (Bl + (nl : Int)) (mx (Bt + (nt : Int)) (Bu + (nu : Int))) = Bl + ((nl + (nt - d1) + (nu - (d3 + (d1 - nt))) : Nat) : Int) := by
          have := HD1.out
          have := HD3.out
          unfold mx
          omega
        have hM0 : ml ≤ ml + (mt - q1) + (mu - q2) ∧ ml + (mt - q1) + (mu - q2) ≤ 1048576 := by omega
        clear hRV hLV hSA h9 hlt4 lL2 lT2 lU2 ol1 ol2 ot1 ot2 ou1 ou2 HQ1 HQ2 HQ3 HQ4 HTU HD1 HD2 HD3 HMt HMu hnlt hmlt hnub hntu hmtu hntb hmtb hle2 hBt0 hBt1 hBu0 hBu1 hbs Et Pt Eu Pu
        generalize nl + (nt - d1) + (nu - (d3 + (d1 - nt))) = N at hRV' hLV' hN0
        generalize ml + (mt - q1) + (mu - q2) = M at hRV' hLV' hM0
        generalize cat (nl + (nt - d1)) (cat nl fl (fun k => ft (d1 + k))) (fun k => fu (d3 + (d1 - nt) + k)) = F at hRV' hLV' hF
        generalize cat (ml + (mt - q1)) (cat ml pl (fun k => pt (q1 + k))) (fun k => pu (q2 + k)) = P at hRV' hLV' hP
        obtain ⟨hN1, hN2, hend⟩ := hN0
        obtain ⟨hM1, hM2⟩ := hM0
        obtain ⟨hgv, g1, e1, g2, e2, x0, x1, x2, hEv, hCa, y1, y2⟩ := hLV'
        obtain ⟨hgv2, g3, e3, g4, e4, z0, z1, z2, hEv2, hCa2, y3, y4⟩ := hRV'
        obtain ⟨⟨hBc, hzc⟩, s0, s1, s2, s3, s4, s5, s6, s7, s8⟩ := id hSx
        obtain ⟨en, hen⟩ : ∃ en, en = mx (Bl + (nl : Int)) (mx (Bt + (nt : Int)) (Bu + (nu : Int))) := ⟨_, rfl⟩
        have eN : en - Bl = (N : Int) := by omega
        have en0 : 0 ≤ en := by omega
        have en1 : en ≤ 2199023255552 := by omega
        have Hen := Hid.mk' hen
        clear hen
        have Hend := Hid.mk' hend
        have HeN := Hid.mk' eN
        clear hend eN
        go_wp2_with fail
        refine (mx_any _ _ _).mono ?_
        rintro e w' ⟨rfl, hw'⟩
        have hw'' := hw'.symm
        subst hw''
        go_wp2_with fail
        refine (mx_any _ _ _).mono ?_
        rintro e w' ⟨rfl, hw'⟩
        have hw'' := hw'.symm
        subst hw''
        rw [← Hen.out]
        have eN := HeN.out
        have HF := Hid.mk' hF
        have HP := Hid.mk' hP
        clear hbig hF hP
        go_wp2_with fail
        clear eN en0 en1 Hen Hend HeN
        go_loopw [16] (fun i wr => ∃ k : Nat, k ≤ nl ∧ i = .int .i64 k ∧ Below wc.heap.size wc wr) (fun i _ => nl - (intOf i).toNat)
        case atStart => exact ⟨0, Nat.zero_le _, rfl, Below.refl _ _⟩
        case round =>
          obtain ⟨k, hk, rfl, hW⟩ := hrel
          clear s0 s1 s2 s3 s4 s5 s6 s7 s8
          obtain ⟨⟨hBr, hzr⟩, s0, s1, s2, s3, s4, s5, s6, s7, s8⟩ := hSx.step hW
          have x0' := keepS hW hgv x0
          have x1' := keepS hW hgv x1
          have x2' := keepS hW hgv x2
          have hgvr : gv < wr.heap.size := Nat.lt_of_lt_of_le hgv hW.size
          have hza : w.heap.size < wr.heap.size := by omega
          by_cases hlt : k < nl
          · obtain ⟨b, off, rfl, hbl, hE⟩ := El k hlt
            obtain ⟨v0, v1, v2⟩ := hE.below hbl hBr k hlt
            have hbr : b < wr.heap.size := Nat.lt_of_lt_of_le hbl hBr.size
            obtain ⟨r0, r1, r2⟩ := hEv.below y1 hW k (by omega)
            rw [HF.out k hlt] at r0 r1 r2
            simp only [Nat.zero_add] at r0 r1 r2
            have hgr : g1 < wr.heap.size := Nat.lt_of_lt_of_le y1 hW.size
            have hkN : k < N := by omega
            go_wp2
            go_roundw
            case rel => exact ⟨k + 1, by omega, by go_num, bel2 hW hW.size _ _⟩
            case measure => simp [intOf]; omega
          · go_wp2_with fail
            obtain ⟨wo, hwo⟩ : ∃ wo : World, wo = wr := ⟨_, rfl⟩
            rw [← hwo] at hW hBr hzr ⊢
            clear hwo s0 s1 s2 s3 s4 s5 s6 s7 s8 x0' x1' x2' hgvr hza
            go_loopw [19] (fun i wr => ∃ j : Nat, j ≤ ml ∧ i = .int .i64 j ∧ Below wc.heap.size wc wr) (fun i _ => ml - (intOf i).toNat)
            case atStart => exact ⟨0, Nat.zero_le _, rfl, hW⟩
            case round =>
              obtain ⟨j, hj, rfl, hW2⟩ := hrel
              clear hBr hzr
              obtain ⟨⟨hBr, hzr⟩, s0, s1, s2, s3, s4, s5, s6, s7, s8⟩ := hSx.step hW2
              have x0' := keepS hW2 hgv x0
              have x1' := keepS hW2 hgv x1
              have x2' := keepS hW2 hgv x2
              by_cases hlt2 : j < ml
              · obtain ⟨b, off, rfl, hbl, hE⟩ := Pl j hlt2
                have v0 := hE.below hbl hBr j hlt2
                obtain ⟨r0, r1⟩ := hCa.below y2 hW2 j (by omega)
                rw [HP.out j hlt2] at r0
                simp only [Nat.zero_add] at r0 r1
                have i0 : (0 : Int) ≤ (j : Int) := by omega
                have i1 : (j : Int) < (ml : Int) := by omega
                have i2 : (j : Int) < (M : Int) := by omega
                go_wp2_with fail
                go_quiet (fail)
                go_wp2
                go_roundw
                case rel => exact ⟨j + 1, by omega, by go_num, below_drewN hW2 _⟩
                case measure => simp [intOf]; omega
              · have z0' := keepS hW2 hgv2 z0
                have z1' := keepS hW2 hgv2 z1
                have z2' := keepS hW2 hgv2 z2
                go_wp2_with fail
                refine (sameLogs_any Bl g1 N e1 g2 M e2 g3 e3 g4 e4 F P _ (by omega) (by omega) (hEv.below y1 hW2) (hCa.below y2 hW2) (hEv2.below y3 hW2) (hCa2.below y4 hW2) (Nat.lt_of_lt_of_le y1 hW2.size) (Nat.lt_of_lt_of_le y2 hW2.size) (Nat.lt_of_lt_of_le y3 hW2.size) (Nat.lt_of_lt_of_le y4 hW2.size)).mono ?_
                rintro e w' ⟨rfl, hbf⟩
                go_wp2
                go_ret
                exact ⟨rfl, hBr.trans (hbf.mono hBr.size)⟩
end Go.Proofs.Qxb6612199a.LogP
