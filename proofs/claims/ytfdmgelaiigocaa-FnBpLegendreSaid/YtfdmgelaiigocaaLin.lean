/- Contracts of the field's signed products and sums of words, one word longer than an element. -/
import Derived.Test.YtfdmgelaiigocaaTurn
import Derived.Test.YtfdmgelaiigocaaMadd
import Derived.Deep.RegionWith
import Derived.Laws.BitsLemmas
namespace Go.Proofs.Ytfdmgelaiigocaa
open Go.RowKit Num

/-- A number of its words, with one more. -/
def numh (z0 z1 z2 z3 z4 z5 h : Int) : Int := num z0 z1 z2 z3 z4 z5 + 39402006196394479212279040100143613805079739270465446667948293404245721771497210611414266254884915640806627990306816 * h
theorem numh_bd {z0 z1 z2 z3 z4 z5 h : Int} (g0 : Wd z0) (g1 : Wd z1) (g2 : Wd z2) (g3 : Wd z3) (g4 : Wd z4) (g5 : Wd z5) (gh : Wd h) : 0 ≤ numh z0 z1 z2 z3 z4 z5 h ∧ numh z0 z1 z2 z3 z4 z5 h < 726838724295606890549323807888004534353641360687318060281490199180639288113397923326191050713763565560762521606266177933534601628614656 := by
  unfold Wd at *; unfold numh num; omega
theorem numh_wd {A : Nat} (h : A < 726838724295606890549323807888004534353641360687318060281490199180639288113397923326191050713763565560762521606266177933534601628614656) : numh (wd A 0 : Nat) (wd A 1 : Nat) (wd A 2 : Nat) (wd A 3 : Nat) (wd A 4 : Nat) (wd A 5 : Nat) (wd A 6 : Nat) = (A : Int) := by
  unfold numh num wd; omega
theorem wd_numh {x0 x1 x2 x3 x4 x5 h : Int} {A : Nat} (g0 : Wd x0) (g1 : Wd x1) (g2 : Wd x2) (g3 : Wd x3) (g4 : Wd x4) (g5 : Wd x5) (gh : Wd h) (e : numh x0 x1 x2 x3 x4 x5 h = (A : Int)) : x0 = (wd A 0 : Nat) ∧ x1 = (wd A 1 : Nat) ∧ x2 = (wd A 2 : Nat) ∧ x3 = (wd A 3 : Nat) ∧ x4 = (wd A 4 : Nat) ∧ x5 = (wd A 5 : Nat) ∧ h = (wd A 6 : Nat) := by
  unfold Wd at *; unfold numh num at e; unfold wd; omega
theorem negs_num {z0 z1 z2 z3 z4 z5 h d0 d1 d2 d3 d4 d5 e : Int} {k0 k1 k2 k3 k4 k5 k6 : Int} (a0 : Subs 0 z0 0 d0 k0) (a1 : Subs 0 z1 k0 d1 k1) (a2 : Subs 0 z2 k1 d2 k2) (a3 : Subs 0 z3 k2 d3 k3) (a4 : Subs 0 z4 k3 d4 k4) (a5 : Subs 0 z5 k4 d5 k5) (aL : Subs 0 h k5 e k6) : ∃ k : Int, numh d0 d1 d2 d3 d4 d5 e = - numh z0 z1 z2 z3 z4 z5 h + 726838724295606890549323807888004534353641360687318060281490199180639288113397923326191050713763565560762521606266177933534601628614656 * k := by
  refine ⟨k6, ?_⟩
  unfold Subs at *; unfold numh num; omega
/-- What is left: block b holds the low words of X, modulo so many words; the highest one is handed back. -/
def Put (b o : Nat) (w : World) (X : Int) (e : Ending) (w' : World) : Prop :=
  ∃ d0 d1 d2 d3 d4 d5 e' : Int, e = .returned (.int .u64 e') ∧ (Wd d0 ∧ Wd d1 ∧ Wd d2 ∧ Wd d3 ∧ Wd d4 ∧ Wd d5 ∧ Wd e') ∧ (∃ k : Int, numh d0 d1 d2 d3 d4 d5 e' = X + 726838724295606890549323807888004534353641360687318060281490199180639288113397923326191050713763565560762521606266177933534601628614656 * k) ∧ (w'.cell? ⟨b, o, none⟩ = some (.int .u64 d0) ∧ w'.cell? ⟨b, o + 1, none⟩ = some (.int .u64 d1) ∧ w'.cell? ⟨b, o + 2, none⟩ = some (.int .u64 d2) ∧ w'.cell? ⟨b, o + 3, none⟩ = some (.int .u64 d3) ∧ w'.cell? ⟨b, o + 4, none⟩ = some (.int .u64 d4) ∧ w'.cell? ⟨b, o + 5, none⟩ = some (.int .u64 d5)) ∧ Turns b w w'
set_option maxRecDepth 100000 in
set_option maxHeartbeats 3200000 in
theorem negl_t (b o : Nat) (z0 z1 z2 z3 z4 z5 h : Int) (w : World) (g0 : Wd z0) (g1 : Wd z1) (g2 : Wd z2) (g3 : Wd z3) (g4 : Wd z4) (g5 : Wd z5) (gh : Wd h) (h0 : w.cell? ⟨b, o, none⟩ = some (.int .u64 z0)) (h1 : w.cell? ⟨b, o + 1, none⟩ = some (.int .u64 z1)) (h2 : w.cell? ⟨b, o + 2, none⟩ = some (.int .u64 z2)) (h3 : w.cell? ⟨b, o + 3, none⟩ = some (.int .u64 z3)) (h4 : w.cell? ⟨b, o + 4, none⟩ = some (.int .u64 z4)) (h5 : w.cell? ⟨b, o + 5, none⟩ = some (.int .u64 z5)) (f0 : w.frozen? ⟨b, o, none⟩ = false) (f1 : w.frozen? ⟨b, o + 1, none⟩ = false) (f2 : w.frozen? ⟨b, o + 2, none⟩ = false) (f3 : w.frozen? ⟨b, o + 3, none⟩ = false) (f4 : w.frozen? ⟨b, o + 4, none⟩ = false) (f5 : w.frozen? ⟨b, o + 5, none⟩ = false) :
    Calls Try.prog 26 #[.pointer (some ⟨b, o, none⟩), .int .u64 h] w (Put b o w (- numh z0 z1 z2 z3 z4 z5 h)) := by
  obtain ⟨d0, k0, a0, r0⟩ := sub64 (x := 0) (y := z0) ⟨by omega, by omega⟩ g0 (c := 0) Bt.zero
  obtain ⟨d1, k1, a1, r1⟩ := sub64 (x := 0) (y := z1) ⟨by omega, by omega⟩ g1 (c := k0) a0.bt
  obtain ⟨d2, k2, a2, r2⟩ := sub64 (x := 0) (y := z2) ⟨by omega, by omega⟩ g2 (c := k1) a1.bt
  obtain ⟨d3, k3, a3, r3⟩ := sub64 (x := 0) (y := z3) ⟨by omega, by omega⟩ g3 (c := k2) a2.bt
  obtain ⟨d4, k4, a4, r4⟩ := sub64 (x := 0) (y := z4) ⟨by omega, by omega⟩ g4 (c := k3) a3.bt
  obtain ⟨d5, k5, a5, r5⟩ := sub64 (x := 0) (y := z5) ⟨by omega, by omega⟩ g5 (c := k4) a4.bt
  obtain ⟨e', k6, a6, r6⟩ := sub64 (x := 0) (y := h) ⟨by omega, by omega⟩ gh (c := k5) a5.bt
  have HE := shut (negs_num a0 a1 a2 a3 a4 a5 a6)
  have Hr0 := shut r0; have Ha0 := shut a0; clear r0 a0
  have Hr1 := shut r1; have Ha1 := shut a1; clear r1 a1
  have Hr2 := shut r2; have Ha2 := shut a2; clear r2 a2
  have Hr3 := shut r3; have Ha3 := shut a3; clear r3 a3
  have Hr4 := shut r4; have Ha4 := shut a4; clear r4 a4
  have Hr5 := shut r5; have Ha5 := shut a5; clear r5 a5
  have Hr6 := shut r6; have Ha6 := shut a6; clear r6 a6
  have Hc0_0 := shut h0; have Hf0_0 := shut f0; clear h0 f0 g0
  have Hc0_1 := shut h1; have Hf0_1 := shut f1; clear h1 f1 g1
  have Hc0_2 := shut h2; have Hf0_2 := shut f2; clear h2 f2 g2
  have Hc0_3 := shut h3; have Hf0_3 := shut f3; clear h3 f3 g3
  have Hc0_4 := shut h4; have Hf0_4 := shut f4; clear h4 f4 g4
  have Hc0_5 := shut h5; have Hf0_5 := shut f5; clear h5 f5 g5
  have T0 := shut (Turns.refl b w)
  clear gh
  go_enter Try.func26, Try.ntmps26
  go_wp2_with fail
  have o0 := Hc0_0.out; have o1 := Hf0_0.out; have o2 := Hr0.out
  go_region
  clear o0 o1 o2
  obtain ⟨W1, hW⟩ : ∃ W, (w.setCell ⟨b, o, none⟩ (.int .u64 d0)).drew = W := ⟨_, rfl⟩
  rw [hW]
  have Hc1_0 := shut (upd_hit hW Hc0_0.out)
  have Hf1_0 := shut (upd_frozen hW Hf0_0.out)
  have Hc1_1 := shut (upd_keep hW Hc0_1.out (by omega))
  have Hf1_1 := shut (upd_frozen hW Hf0_1.out)
  have Hc1_2 := shut (upd_keep hW Hc0_2.out (by omega))
  have Hf1_2 := shut (upd_frozen hW Hf0_2.out)
  have Hc1_3 := shut (upd_keep hW Hc0_3.out (by omega))
  have Hf1_3 := shut (upd_frozen hW Hf0_3.out)
  have Hc1_4 := shut (upd_keep hW Hc0_4.out (by omega))
  have Hf1_4 := shut (upd_frozen hW Hf0_4.out)
  have Hc1_5 := shut (upd_keep hW Hc0_5.out (by omega))
  have Hf1_5 := shut (upd_frozen hW Hf0_5.out)
  have T1 := shut (upd_turns hW T0.out)
  clear hW Hc0_0 Hf0_0 Hc0_1 Hf0_1 Hc0_2 Hf0_2 Hc0_3 Hf0_3 Hc0_4 Hf0_4 Hc0_5 Hf0_5 T0
  go_wp2_with fail
  have o0 := Hc1_1.out; have o1 := Hf1_1.out; have o2 := Hr1.out
  go_region
  clear o0 o1 o2
  obtain ⟨W2, hW⟩ : ∃ W, (W1.setCell ⟨b, o + 1, none⟩ (.int .u64 d1)).drew = W := ⟨_, rfl⟩
  rw [hW]
  have Hc2_0 := shut (upd_keep hW Hc1_0.out (by omega))
  have Hf2_0 := shut (upd_frozen hW Hf1_0.out)
  have Hc2_1 := shut (upd_hit hW Hc1_1.out)
  have Hf2_1 := shut (upd_frozen hW Hf1_1.out)
  have Hc2_2 := shut (upd_keep hW Hc1_2.out (by omega))
  have Hf2_2 := shut (upd_frozen hW Hf1_2.out)
  have Hc2_3 := shut (upd_keep hW Hc1_3.out (by omega))
  have Hf2_3 := shut (upd_frozen hW Hf1_3.out)
  have Hc2_4 := shut (upd_keep hW Hc1_4.out (by omega))
  have Hf2_4 := shut (upd_frozen hW Hf1_4.out)
  have Hc2_5 := shut (upd_keep hW Hc1_5.out (by omega))
  have Hf2_5 := shut (upd_frozen hW Hf1_5.out)
  have T2 := shut (upd_turns hW T1.out)
  clear hW Hc1_0 Hf1_0 Hc1_1 Hf1_1 Hc1_2 Hf1_2 Hc1_3 Hf1_3 Hc1_4 Hf1_4 Hc1_5 Hf1_5 T1
  go_wp2_with fail
  have o0 := Hc2_2.out; have o1 := Hf2_2.out; have o2 := Hr2.out
  go_region
  clear o0 o1 o2
  obtain ⟨W3, hW⟩ : ∃ W, (W2.setCell ⟨b, o + 2, none⟩ (.int .u64 d2)).drew = W := ⟨_, rfl⟩
  rw [hW]
  have Hc3_0 := shut (upd_keep hW Hc2_0.out (by omega))
  have Hf3_0 := shut (upd_frozen hW Hf2_0.out)
  have Hc3_1 := shut (upd_keep hW Hc2_1.out (by omega))
  have Hf3_1 := shut (upd_frozen hW Hf2_1.out)
  have Hc3_2 := shut (upd_hit hW Hc2_2.out)
  have Hf3_2 := shut (upd_frozen hW Hf2_2.out)
  have Hc3_3 := shut (upd_keep hW Hc2_3.out (by omega))
  have Hf3_3 := shut (upd_frozen hW Hf2_3.out)
  have Hc3_4 := shut (upd_keep hW Hc2_4.out (by omega))
  have Hf3_4 := shut (upd_frozen hW Hf2_4.out)
  have Hc3_5 := shut (upd_keep hW Hc2_5.out (by omega))
  have Hf3_5 := shut (upd_frozen hW Hf2_5.out)
  have T3 := shut (upd_turns hW T2.out)
  clear hW Hc2_0 Hf2_0 Hc2_1 Hf2_1 Hc2_2 Hf2_2 Hc2_3 Hf2_3 Hc2_4 Hf2_4 Hc2_5 Hf2_5 T2
  go_wp2_with fail
  have o0 := Hc3_3.out; have o1 := Hf3_3.out; have o2 := Hr3.out
  go_region
  clear o0 o1 o2
  obtain ⟨W4, hW⟩ : ∃ W, (W3.setCell ⟨b, o + 3, none⟩ (.int .u64 d3)).drew = W := ⟨_, rfl⟩
  rw [hW]
  have Hc4_0 := shut (upd_keep hW Hc3_0.out (by omega))
  have Hf4_0 := shut (upd_frozen hW Hf3_0.out)
  have Hc4_1 := shut (upd_keep hW Hc3_1.out (by omega))
  have Hf4_1 := shut (upd_frozen hW Hf3_1.out)
  have Hc4_2 := shut (upd_keep hW Hc3_2.out (by omega))
  have Hf4_2 := shut (upd_frozen hW Hf3_2.out)
  have Hc4_3 := shut (upd_hit hW Hc3_3.out)
  have Hf4_3 := shut (upd_frozen hW Hf3_3.out)
  have Hc4_4 := shut (upd_keep hW Hc3_4.out (by omega))
  have Hf4_4 := shut (upd_frozen hW Hf3_4.out)
  have Hc4_5 := shut (upd_keep hW Hc3_5.out (by omega))
  have Hf4_5 := shut (upd_frozen hW Hf3_5.out)
  have T4 := shut (upd_turns hW T3.out)
  clear hW Hc3_0 Hf3_0 Hc3_1 Hf3_1 Hc3_2 Hf3_2 Hc3_3 Hf3_3 Hc3_4 Hf3_4 Hc3_5 Hf3_5 T3
  go_wp2_with fail
  have o0 := Hc4_4.out; have o1 := Hf4_4.out; have o2 := Hr4.out
  go_region
  clear o0 o1 o2
  obtain ⟨W5, hW⟩ : ∃ W, (W4.setCell ⟨b, o + 4, none⟩ (.int .u64 d4)).drew = W := ⟨_, rfl⟩
  rw [hW]
  have Hc5_0 := shut (upd_keep hW Hc4_0.out (by omega))
  have Hf5_0 := shut (upd_frozen hW Hf4_0.out)
  have Hc5_1 := shut (upd_keep hW Hc4_1.out (by omega))
  have Hf5_1 := shut (upd_frozen hW Hf4_1.out)
  have Hc5_2 := shut (upd_keep hW Hc4_2.out (by omega))
  have Hf5_2 := shut (upd_frozen hW Hf4_2.out)
  have Hc5_3 := shut (upd_keep hW Hc4_3.out (by omega))
  have Hf5_3 := shut (upd_frozen hW Hf4_3.out)
  have Hc5_4 := shut (upd_hit hW Hc4_4.out)
  have Hf5_4 := shut (upd_frozen hW Hf4_4.out)
  have Hc5_5 := shut (upd_keep hW Hc4_5.out (by omega))
  have Hf5_5 := shut (upd_frozen hW Hf4_5.out)
  have T5 := shut (upd_turns hW T4.out)
  clear hW Hc4_0 Hf4_0 Hc4_1 Hf4_1 Hc4_2 Hf4_2 Hc4_3 Hf4_3 Hc4_4 Hf4_4 Hc4_5 Hf4_5 T4
  go_wp2_with fail
  have o0 := Hc5_5.out; have o1 := Hf5_5.out; have o2 := Hr5.out
  go_region
  clear o0 o1 o2
  obtain ⟨W6, hW⟩ : ∃ W, (W5.setCell ⟨b, o + 5, none⟩ (.int .u64 d5)).drew = W := ⟨_, rfl⟩
  rw [hW]
  have Hc6_0 := shut (upd_keep hW Hc5_0.out (by omega))
  have Hf6_0 := shut (upd_frozen hW Hf5_0.out)
  have Hc6_1 := shut (upd_keep hW Hc5_1.out (by omega))
  have Hf6_1 := shut (upd_frozen hW Hf5_1.out)
  have Hc6_2 := shut (upd_keep hW Hc5_2.out (by omega))
  have Hf6_2 := shut (upd_frozen hW Hf5_2.out)
  have Hc6_3 := shut (upd_keep hW Hc5_3.out (by omega))
  have Hf6_3 := shut (upd_frozen hW Hf5_3.out)
  have Hc6_4 := shut (upd_keep hW Hc5_4.out (by omega))
  have Hf6_4 := shut (upd_frozen hW Hf5_4.out)
  have Hc6_5 := shut (upd_hit hW Hc5_5.out)
  have Hf6_5 := shut (upd_frozen hW Hf5_5.out)
  have T6 := shut (upd_turns hW T5.out)
  clear hW Hc5_0 Hf5_0 Hc5_1 Hf5_1 Hc5_2 Hf5_2 Hc5_3 Hf5_3 Hc5_4 Hf5_4 Hc5_5 Hf5_5 T5
  have o2 := Hr6.out
  go_wp2_with fail
  go_ret
  exact ⟨d0, d1, d2, d3, d4, d5, e', rfl, ⟨Ha0.out.wd, Ha1.out.wd, Ha2.out.wd, Ha3.out.wd, Ha4.out.wd, Ha5.out.wd, Ha6.out.wd⟩, HE.out, ⟨Hc6_0.out, Hc6_1.out, Hc6_2.out, Hc6_3.out, Hc6_4.out, Hc6_5.out⟩, T6.out⟩
end Go.Proofs.Ytfdmgelaiigocaa
