/- Contracts of the field's signed products and sums of words, one word longer than an element. -/
import Derived.Test.YtgcdhkbhobnojaaTurn
import Derived.Test.YtgcdhkbhobnojaaMadd
import Derived.Deep.RegionWith
import Derived.Laws.BitsLemmas
namespace Go.Proofs.Ytgcdhkbhobnojaa
open Go.RowKit Num

/-- A number of its words, with one more. -/
def numh (z0 z1 z2 z3 h : Int) : Int := num z0 z1 z2 z3 + 115792089237316195423570985008687907853269984665640564039457584007913129639936 * h
theorem numh_bd {z0 z1 z2 z3 h : Int} (g0 : Wd z0) (g1 : Wd z1) (g2 : Wd z2) (g3 : Wd z3) (gh : Wd h) : 0 ≤ numh z0 z1 z2 z3 h ∧ numh z0 z1 z2 z3 h < 2135987035920910082395021706169552114602704522356652769947041607822219725780640550022962086936576 := by
  unfold Wd at *; unfold numh num; omega
theorem numh_wd {A : Nat} (h : A < 2135987035920910082395021706169552114602704522356652769947041607822219725780640550022962086936576) : numh (wd A 0 : Nat) (wd A 1 : Nat) (wd A 2 : Nat) (wd A 3 : Nat) (wd A 4 : Nat) = (A : Int) := by
  unfold numh num wd; omega
theorem wd_numh {x0 x1 x2 x3 h : Int} {A : Nat} (g0 : Wd x0) (g1 : Wd x1) (g2 : Wd x2) (g3 : Wd x3) (gh : Wd h) (e : numh x0 x1 x2 x3 h = (A : Int)) : x0 = (wd A 0 : Nat) ∧ x1 = (wd A 1 : Nat) ∧ x2 = (wd A 2 : Nat) ∧ x3 = (wd A 3 : Nat) ∧ h = (wd A 4 : Nat) := by
  unfold Wd at *; unfold numh num at e; unfold wd; omega
theorem negs_num {z0 z1 z2 z3 h d0 d1 d2 d3 e : Int} {k0 k1 k2 k3 k4 : Int} (a0 : Subs 0 z0 0 d0 k0) (a1 : Subs 0 z1 k0 d1 k1) (a2 : Subs 0 z2 k1 d2 k2) (a3 : Subs 0 z3 k2 d3 k3) (aL : Subs 0 h k3 e k4) : ∃ k : Int, numh d0 d1 d2 d3 e = - numh z0 z1 z2 z3 h + 2135987035920910082395021706169552114602704522356652769947041607822219725780640550022962086936576 * k := by
  refine ⟨k4, ?_⟩
  unfold Subs at *; unfold numh num; omega
/-- What is left: block b holds the low words of X, modulo so many words; the highest one is handed back. -/
def Put (b o : Nat) (w : World) (X : Int) (e : Ending) (w' : World) : Prop :=
  ∃ d0 d1 d2 d3 e' : Int, e = .returned (.int .u64 e') ∧ (Wd d0 ∧ Wd d1 ∧ Wd d2 ∧ Wd d3 ∧ Wd e') ∧ (∃ k : Int, numh d0 d1 d2 d3 e' = X + 2135987035920910082395021706169552114602704522356652769947041607822219725780640550022962086936576 * k) ∧ (w'.cell? ⟨b, o, none⟩ = some (.int .u64 d0) ∧ w'.cell? ⟨b, o + 1, none⟩ = some (.int .u64 d1) ∧ w'.cell? ⟨b, o + 2, none⟩ = some (.int .u64 d2) ∧ w'.cell? ⟨b, o + 3, none⟩ = some (.int .u64 d3)) ∧ Turns b w w'
set_option maxRecDepth 100000 in
set_option maxHeartbeats 1600000 in
theorem negl_t (b o : Nat) (z0 z1 z2 z3 h : Int) (w : World) (g0 : Wd z0) (g1 : Wd z1) (g2 : Wd z2) (g3 : Wd z3) (gh : Wd h) (h0 : w.cell? ⟨b, o, none⟩ = some (.int .u64 z0)) (h1 : w.cell? ⟨b, o + 1, none⟩ = some (.int .u64 z1)) (h2 : w.cell? ⟨b, o + 2, none⟩ = some (.int .u64 z2)) (h3 : w.cell? ⟨b, o + 3, none⟩ = some (.int .u64 z3)) (f0 : w.frozen? ⟨b, o, none⟩ = false) (f1 : w.frozen? ⟨b, o + 1, none⟩ = false) (f2 : w.frozen? ⟨b, o + 2, none⟩ = false) (f3 : w.frozen? ⟨b, o + 3, none⟩ = false) :
    Calls Try.prog 26 #[.pointer (some ⟨b, o, none⟩), .int .u64 h] w (Put b o w (- numh z0 z1 z2 z3 h)) := by
  obtain ⟨d0, k0, a0, r0⟩ := sub64 (x := 0) (y := z0) ⟨by omega, by omega⟩ g0 (c := 0) Bt.zero
  obtain ⟨d1, k1, a1, r1⟩ := sub64 (x := 0) (y := z1) ⟨by omega, by omega⟩ g1 (c := k0) a0.bt
  obtain ⟨d2, k2, a2, r2⟩ := sub64 (x := 0) (y := z2) ⟨by omega, by omega⟩ g2 (c := k1) a1.bt
  obtain ⟨d3, k3, a3, r3⟩ := sub64 (x := 0) (y := z3) ⟨by omega, by omega⟩ g3 (c := k2) a2.bt
  obtain ⟨e', k4, a4, r4⟩ := sub64 (x := 0) (y := h) ⟨by omega, by omega⟩ gh (c := k3) a3.bt
  have HE := shut (negs_num a0 a1 a2 a3 a4)
  have Hr0 := shut r0; have Ha0 := shut a0; clear r0 a0
  have Hr1 := shut r1; have Ha1 := shut a1; clear r1 a1
  have Hr2 := shut r2; have Ha2 := shut a2; clear r2 a2
  have Hr3 := shut r3; have Ha3 := shut a3; clear r3 a3
  have Hr4 := shut r4; have Ha4 := shut a4; clear r4 a4
  have Hc0_0 := shut h0; have Hf0_0 := shut f0; clear h0 f0 g0
  have Hc0_1 := shut h1; have Hf0_1 := shut f1; clear h1 f1 g1
  have Hc0_2 := shut h2; have Hf0_2 := shut f2; clear h2 f2 g2
  have Hc0_3 := shut h3; have Hf0_3 := shut f3; clear h3 f3 g3
  have T0 := shut (Turns.refl b w)
  clear gh
  go_enter Try.func26, Try.ntmps26
  go_wp2_with fail
  have o0 := Hc0_0.out; have o1 := Hf0_0.out; have o2 := Hr0.out
  go_region
  clear o0 o1 o2
  obtain ⟨W1, hW⟩ : ∃ W, (w.setCell ⟨b, o, none⟩ (.int .u64 d0)).drew = W := ⟨_, rfl⟩
  rw [hW]
  have Hc1_0 := shut (upd_hit hW Hc0_0.out)
  have Hf1_0 := shut (upd_frozen hW Hf0_0.out)
  have Hc1_1 := shut (upd_keep hW Hc0_1.out (by omega))
  have Hf1_1 := shut (upd_frozen hW Hf0_1.out)
  have Hc1_2 := shut (upd_keep hW Hc0_2.out (by omega))
  have Hf1_2 := shut (upd_frozen hW Hf0_2.out)
  have Hc1_3 := shut (upd_keep hW Hc0_3.out (by omega))
  have Hf1_3 := shut (upd_frozen hW Hf0_3.out)
  have T1 := shut (upd_turns hW T0.out)
  clear hW Hc0_0 Hf0_0 Hc0_1 Hf0_1 Hc0_2 Hf0_2 Hc0_3 Hf0_3 T0
  go_wp2_with fail
  have o0 := Hc1_1.out; have o1 := Hf1_1.out; have o2 := Hr1.out
  go_region
  clear o0 o1 o2
  obtain ⟨W2, hW⟩ : ∃ W, (W1.setCell ⟨b, o + 1, none⟩ (.int .u64 d1)).drew = W := ⟨_, rfl⟩
  rw [hW]
  have Hc2_0 := shut (upd_keep hW Hc1_0.out (by omega))
  have Hf2_0 := shut (upd_frozen hW Hf1_0.out)
  have Hc2_1 := shut (upd_hit hW Hc1_1.out)
  have Hf2_1 := shut (upd_frozen hW Hf1_1.out)
  have Hc2_2 := shut (upd_keep hW Hc1_2.out (by omega))
  have Hf2_2 := shut (upd_frozen hW Hf1_2.out)
  have Hc2_3 := shut (upd_keep hW Hc1_3.out (by omega))
  have Hf2_3 := shut (upd_frozen hW Hf1_3.out)
  have T2 := shut (upd_turns hW T1.out)
  clear hW Hc1_0 Hf1_0 Hc1_1 Hf1_1 Hc1_2 Hf1_2 Hc1_3 Hf1_3 T1
  go_wp2_with fail
  have o0 := Hc2_2.out; have o1 := Hf2_2.out; have o2 := Hr2.out
  go_region
  clear o0 o1 o2
  obtain ⟨W3, hW⟩ : ∃ W, (W2.setCell ⟨b, o + 2, none⟩ (.int .u64 d2)).drew = W := ⟨_, rfl⟩
  rw [hW]
  have Hc3_0 := shut (upd_keep hW Hc2_0.out (by omega))
  have Hf3_0 := shut (upd_frozen hW Hf2_0.out)
  have Hc3_1 := shut (upd_keep hW Hc2_1.out (by omega))
  have Hf3_1 := shut (upd_frozen hW Hf2_1.out)
  have Hc3_2 := shut (upd_hit hW Hc2_2.out)
  have Hf3_2 := shut (upd_frozen hW Hf2_2.out)
  have Hc3_3 := shut (upd_keep hW Hc2_3.out (by omega))
  have Hf3_3 := shut (upd_frozen hW Hf2_3.out)
  have T3 := shut (upd_turns hW T2.out)
  clear hW Hc2_0 Hf2_0 Hc2_1 Hf2_1 Hc2_2 Hf2_2 Hc2_3 Hf2_3 T2
  go_wp2_with fail
  have o0 := Hc3_3.out; have o1 := Hf3_3.out; have o2 := Hr3.out
  go_region
  clear o0 o1 o2
  obtain ⟨W4, hW⟩ : ∃ W, (W3.setCell ⟨b, o + 3, none⟩ (.int .u64 d3)).drew = W := ⟨_, rfl⟩
  rw [hW]
  have Hc4_0 := shut (upd_keep hW Hc3_0.out (by omega))
  have Hf4_0 := shut (upd_frozen hW Hf3_0.out)
  have Hc4_1 := shut (upd_keep hW Hc3_1.out (by omega))
  have Hf4_1 := shut (upd_frozen hW Hf3_1.out)
  have Hc4_2 := shut (upd_keep hW Hc3_2.out (by omega))
  have Hf4_2 := shut (upd_frozen hW Hf3_2.out)
  have Hc4_3 := shut (upd_hit hW Hc3_3.out)
  have Hf4_3 := shut (upd_frozen hW Hf3_3.out)
  have T4 := shut (upd_turns hW T3.out)
  clear hW Hc3_0 Hf3_0 Hc3_1 Hf3_1 Hc3_2 Hf3_2 Hc3_3 Hf3_3 T3
  have o2 := Hr4.out
  go_wp2_with fail
  go_ret
  exact ⟨d0, d1, d2, d3, e', rfl, ⟨Ha0.out.wd, Ha1.out.wd, Ha2.out.wd, Ha3.out.wd, Ha4.out.wd⟩, HE.out, ⟨Hc4_0.out, Hc4_1.out, Hc4_2.out, Hc4_3.out⟩, T4.out⟩
end Go.Proofs.Ytgcdhkbhobnojaa
