/- Contract of the field's product of words and a signed factor. -/
import Derived.Test.YtfdmgelaiigocaaLin
import Derived.Test.YtfdmgelaiigocaaMadd
import Derived.Deep.RegionWith
import Derived.Laws.BitsLemmas
namespace Go.Proofs.Ytfdmgelaiigocaa
open Go.RowKit Num

theorem mul_num {x0 x1 x2 x3 x4 x5 u h0 h1 h2 h3 h4 h5 p0 p1 p2 p3 p4 p5 : Int} (m0 : MulsT x0 u h0 p0) (m1 : Madd1 x1 u h0 h1 p1) (m2 : Madd1 x2 u h1 h2 p2) (m3 : Madd1 x3 u h2 h3 p3) (m4 : Madd1 x4 u h3 h4 p4) (m5 : Madd1 x5 u h4 h5 p5) : num x0 x1 x2 x3 x4 x5 * u = numh p0 p1 p2 p3 p4 p5 h5 := by
  unfold MulsT at m0; unfold Madd1 at *; unfold numh num
  simp only [Int.add_mul, Int.mul_assoc]
  generalize x0 * u = q0 at *
  generalize x1 * u = q1 at *
  generalize x2 * u = q2 at *
  generalize x3 * u = q3 at *
  generalize x4 * u = q4 at *
  generalize x5 * u = q5 at *
  omega
theorem xor_none {y : Int} (h0 : 0 ≤ y) (h1 : y ≤ 4611686018427387904) : bits .xor .i64 y 0 = y := by
  show IntKind.i64.wrap ((BitVec.ofInt 64 y ^^^ BitVec.ofInt 64 0).toNat : Int) = _
  rw [show (BitVec.ofInt 64 0) = 0#64 from rfl, BitVec.xor_zero, BitVec.toNat_ofInt, IntKind.wrap_i64]; omega
theorem xor_ones {y : Int} (h0 : -4611686018427387904 ≤ y) (h1 : y < 0) : bits .xor .i64 y (-1) = -y - 1 := by
  show IntKind.i64.wrap ((BitVec.ofInt 64 y ^^^ BitVec.ofInt 64 (-1)).toNat : Int) = _
  rw [show (BitVec.ofInt 64 (-1)) = BitVec.allOnes 64 from by decide, BitVec.xor_allOnes, BitVec.toNat_not, BitVec.toNat_ofInt, IntKind.wrap_i64]; omega
set_option maxRecDepth 100000 in
set_option maxHeartbeats 3200000 in
theorem mulw_pos (b o bx ox : Nat) (z0 z1 z2 z3 z4 z5 x0 x1 x2 x3 x4 x5 y : Int) (w : World) (hne : bx ≠ b) (hy : 0 ≤ y ∧ y ≤ 4611686018427387904) (g0 : Wd x0) (g1 : Wd x1) (g2 : Wd x2) (g3 : Wd x3) (g4 : Wd x4) (g5 : Wd x5) (hz0 : w.cell? ⟨b, o, none⟩ = some (.int .u64 z0)) (hz1 : w.cell? ⟨b, o + 1, none⟩ = some (.int .u64 z1)) (hz2 : w.cell? ⟨b, o + 2, none⟩ = some (.int .u64 z2)) (hz3 : w.cell? ⟨b, o + 3, none⟩ = some (.int .u64 z3)) (hz4 : w.cell? ⟨b, o + 4, none⟩ = some (.int .u64 z4)) (hz5 : w.cell? ⟨b, o + 5, none⟩ = some (.int .u64 z5)) (c0 : w.cell? ⟨bx, ox, none⟩ = some (.int .u64 x0)) (c1 : w.cell? ⟨bx, ox + 1, none⟩ = some (.int .u64 x1)) (c2 : w.cell? ⟨bx, ox + 2, none⟩ = some (.int .u64 x2)) (c3 : w.cell? ⟨bx, ox + 3, none⟩ = some (.int .u64 x3)) (c4 : w.cell? ⟨bx, ox + 4, none⟩ = some (.int .u64 x4)) (c5 : w.cell? ⟨bx, ox + 5, none⟩ = some (.int .u64 x5)) (f0 : w.frozen? ⟨b, o, none⟩ = false) (f1 : w.frozen? ⟨b, o + 1, none⟩ = false) (f2 : w.frozen? ⟨b, o + 2, none⟩ = false) (f3 : w.frozen? ⟨b, o + 3, none⟩ = false) (f4 : w.frozen? ⟨b, o + 4, none⟩ = false) (f5 : w.frozen? ⟨b, o + 5, none⟩ = false) :
    Calls Try.prog 30 #[.pointer (some ⟨b, o, none⟩), .pointer (some ⟨bx, ox, none⟩), .int .i64 y] w (Put b o w (num x0 x1 x2 x3 x4 x5 * y)) := by
  have hu : y = y := rfl
  have gu : Wd y := by unfold Wd; omega
  have e1 : y / 9223372036854775808 = 0 := by omega
  have e2 : bits .xor .i64 y 0 = y := by rw [xor_none hy.1 hy.2]
  have e3 : wrap64 y = y := by unfold wrap64; omega
  have e4 : IntKind.u64.wrap y = y := by rw [u64wrap]; omega
  have e5 : decide (y < 0) = false := by have := hy.1; simpa using this
  obtain ⟨h0, p0, m0, r0⟩ := mul64 g0 gu
  have q0 : Wd h0 := ⟨m0.2.2.2.1, by have := m0.2.2.2.2; omega⟩
  have q_0 : Wd p0 := ⟨m0.2.1, m0.2.2.1⟩
  obtain ⟨h1, p1, m1, r1⟩ := madd1 g1 gu q0
  obtain ⟨h2, p2, m2, r2⟩ := madd1 g2 gu m1.2.1
  obtain ⟨h3, p3, m3, r3⟩ := madd1 g3 gu m2.2.1
  obtain ⟨h4, p4, m4, r4⟩ := madd1 g4 gu m3.2.1
  obtain ⟨h5, p5, m5, r5⟩ := madd1 g5 gu m4.2.1
  have HM := shut (mul_num m0 m1 m2 m3 m4 m5)
  have Hg0 := shut q_0
  have Hg1 := shut m1.2.2
  have Hg2 := shut m2.2.2
  have Hg3 := shut m3.2.2
  have Hg4 := shut m4.2.2
  have Hg5 := shut m5.2.2
  have Hg6 := shut m5.2.1
  have HU := shut (And.intro hy hu)
  have Hr0 := shut r0; clear r0 m0 g0
  have Hr1 := shut r1; clear r1 m1 g1
  have Hr2 := shut r2; clear r2 m2 g2
  have Hr3 := shut r3; clear r3 m3 g3
  have Hr4 := shut r4; clear r4 m4 g4
  have Hr5 := shut r5; clear r5 m5 g5
  have Hc0_0 := shut hz0; have Hf0_0 := shut f0; have Hx0 := shut c0; clear hz0 f0 c0
  have Hc0_1 := shut hz1; have Hf0_1 := shut f1; have Hx1 := shut c1; clear hz1 f1 c1
  have Hc0_2 := shut hz2; have Hf0_2 := shut f2; have Hx2 := shut c2; clear hz2 f2 c2
  have Hc0_3 := shut hz3; have Hf0_3 := shut f3; have Hx3 := shut c3; clear hz3 f3 c3
  have Hc0_4 := shut hz4; have Hf0_4 := shut f4; have Hx4 := shut c4; clear hz4 f4 c4
  have Hc0_5 := shut hz5; have Hf0_5 := shut f5; have Hx5 := shut c5; clear hz5 f5 c5
  have T0 := shut (Turns.refl b w)
  clear gu q0 q_0 hy hu
  have H5 := shut e5; clear e5
  go_enter Try.func30, Try.ntmps30
  go_wp2_with fail
  clear e1 e2 e3 e4
  have o0 := Hc0_0.out; have o1 := Hf0_0.out; have o2 := (T0.out.cell bx (ox) hne).trans Hx0.out
  go_region_with (go_at_call 34; refine (Hr0.out _).mono ?_; rintro e w' ⟨rfl, rfl⟩)
  clear o0 o1 o2
  obtain ⟨W1, hW⟩ : ∃ W, (w.setCell ⟨b, o, none⟩ (.int .u64 p0)).drew = W := ⟨_, rfl⟩
  rw [hW]
  have Hc1_0 := shut (upd_hit hW Hc0_0.out)
  have Hf1_0 := shut (upd_frozen hW Hf0_0.out)
  have Hc1_1 := shut (upd_keep hW Hc0_1.out (by omega))
  have Hf1_1 := shut (upd_frozen hW Hf0_1.out)
  have Hc1_2 := shut (upd_keep hW Hc0_2.out (by omega))
  have Hf1_2 := shut (upd_frozen hW Hf0_2.out)
  have Hc1_3 := shut (upd_keep hW Hc0_3.out (by omega))
  have Hf1_3 := shut (upd_frozen hW Hf0_3.out)
  have Hc1_4 := shut (upd_keep hW Hc0_4.out (by omega))
  have Hf1_4 := shut (upd_frozen hW Hf0_4.out)
  have Hc1_5 := shut (upd_keep hW Hc0_5.out (by omega))
  have Hf1_5 := shut (upd_frozen hW Hf0_5.out)
  have T1 := shut (upd_turns hW T0.out)
  clear hW Hc0_0 Hf0_0 Hc0_1 Hf0_1 Hc0_2 Hf0_2 Hc0_3 Hf0_3 Hc0_4 Hf0_4 Hc0_5 Hf0_5 T0
  go_wp2_with fail
  have o0 := Hc1_1.out; have o1 := Hf1_1.out; have o2 := (T1.out.cell bx (ox + 1) hne).trans Hx1.out
  go_region_with (go_at_call 35; refine (Hr1.out _).mono ?_; rintro e w' ⟨rfl, rfl⟩)
  clear o0 o1 o2
  obtain ⟨W2, hW⟩ : ∃ W, (W1.setCell ⟨b, o + 1, none⟩ (.int .u64 p1)).drew = W := ⟨_, rfl⟩
  rw [hW]
  have Hc2_0 := shut (upd_keep hW Hc1_0.out (by omega))
  have Hf2_0 := shut (upd_frozen hW Hf1_0.out)
  have Hc2_1 := shut (upd_hit hW Hc1_1.out)
  have Hf2_1 := shut (upd_frozen hW Hf1_1.out)
  have Hc2_2 := shut (upd_keep hW Hc1_2.out (by omega))
  have Hf2_2 := shut (upd_frozen hW Hf1_2.out)
  have Hc2_3 := shut (upd_keep hW Hc1_3.out (by omega))
  have Hf2_3 := shut (upd_frozen hW Hf1_3.out)
  have Hc2_4 := shut (upd_keep hW Hc1_4.out (by omega))
  have Hf2_4 := shut (upd_frozen hW Hf1_4.out)
  have Hc2_5 := shut (upd_keep hW Hc1_5.out (by omega))
  have Hf2_5 := shut (upd_frozen hW Hf1_5.out)
  have T2 := shut (upd_turns hW T1.out)
  clear hW Hc1_0 Hf1_0 Hc1_1 Hf1_1 Hc1_2 Hf1_2 Hc1_3 Hf1_3 Hc1_4 Hf1_4 Hc1_5 Hf1_5 T1
  go_wp2_with fail
  have o0 := Hc2_2.out; have o1 := Hf2_2.out; have o2 := (T2.out.cell bx (ox + 2) hne).trans Hx2.out
  go_region_with (go_at_call 35; refine (Hr2.out _).mono ?_; rintro e w' ⟨rfl, rfl⟩)
  clear o0 o1 o2
  obtain ⟨W3, hW⟩ : ∃ W, (W2.setCell ⟨b, o + 2, none⟩ (.int .u64 p2)).drew = W := ⟨_, rfl⟩
  rw [hW]
  have Hc3_0 := shut (upd_keep hW Hc2_0.out (by omega))
  have Hf3_0 := shut (upd_frozen hW Hf2_0.out)
  have Hc3_1 := shut (upd_keep hW Hc2_1.out (by omega))
  have Hf3_1 := shut (upd_frozen hW Hf2_1.out)
  have Hc3_2 := shut (upd_hit hW Hc2_2.out)
  have Hf3_2 := shut (upd_frozen hW Hf2_2.out)
  have Hc3_3 := shut (upd_keep hW Hc2_3.out (by omega))
  have Hf3_3 := shut (upd_frozen hW Hf2_3.out)
  have Hc3_4 := shut (upd_keep hW Hc2_4.out (by omega))
  have Hf3_4 := shut (upd_frozen hW Hf2_4.out)
  have Hc3_5 := shut (upd_keep hW Hc2_5.out (by omega))
  have Hf3_5 := shut (upd_frozen hW Hf2_5.out)
  have T3 := shut (upd_turns hW T2.out)
  clear hW Hc2_0 Hf2_0 Hc2_1 Hf2_1 Hc2_2 Hf2_2 Hc2_3 Hf2_3 Hc2_4 Hf2_4 Hc2_5 Hf2_5 T2
  go_wp2_with fail
  have o0 := Hc3_3.out; have o1 := Hf3_3.out; have o2 := (T3.out.cell bx (ox + 3) hne).trans Hx3.out
  go_region_with (go_at_call 35; refine (Hr3.out _).mono ?_; rintro e w' ⟨rfl, rfl⟩)
  clear o0 o1 o2
  obtain ⟨W4, hW⟩ : ∃ W, (W3.setCell ⟨b, o + 3, none⟩ (.int .u64 p3)).drew = W := ⟨_, rfl⟩
  rw [hW]
  have Hc4_0 := shut (upd_keep hW Hc3_0.out (by omega))
  have Hf4_0 := shut (upd_frozen hW Hf3_0.out)
  have Hc4_1 := shut (upd_keep hW Hc3_1.out (by omega))
  have Hf4_1 := shut (upd_frozen hW Hf3_1.out)
  have Hc4_2 := shut (upd_keep hW Hc3_2.out (by omega))
  have Hf4_2 := shut (upd_frozen hW Hf3_2.out)
  have Hc4_3 := shut (upd_hit hW Hc3_3.out)
  have Hf4_3 := shut (upd_frozen hW Hf3_3.out)
  have Hc4_4 := shut (upd_keep hW Hc3_4.out (by omega))
  have Hf4_4 := shut (upd_frozen hW Hf3_4.out)
  have Hc4_5 := shut (upd_keep hW Hc3_5.out (by omega))
  have Hf4_5 := shut (upd_frozen hW Hf3_5.out)
  have T4 := shut (upd_turns hW T3.out)
  clear hW Hc3_0 Hf3_0 Hc3_1 Hf3_1 Hc3_2 Hf3_2 Hc3_3 Hf3_3 Hc3_4 Hf3_4 Hc3_5 Hf3_5 T3
  go_wp2_with fail
  have o0 := Hc4_4.out; have o1 := Hf4_4.out; have o2 := (T4.out.cell bx (ox + 4) hne).trans Hx4.out
  go_region_with (go_at_call 35; refine (Hr4.out _).mono ?_; rintro e w' ⟨rfl, rfl⟩)
  clear o0 o1 o2
  obtain ⟨W5, hW⟩ : ∃ W, (W4.setCell ⟨b, o + 4, none⟩ (.int .u64 p4)).drew = W := ⟨_, rfl⟩
  rw [hW]
  have Hc5_0 := shut (upd_keep hW Hc4_0.out (by omega))
  have Hf5_0 := shut (upd_frozen hW Hf4_0.out)
  have Hc5_1 := shut (upd_keep hW Hc4_1.out (by omega))
  have Hf5_1 := shut (upd_frozen hW Hf4_1.out)
  have Hc5_2 := shut (upd_keep hW Hc4_2.out (by omega))
  have Hf5_2 := shut (upd_frozen hW Hf4_2.out)
  have Hc5_3 := shut (upd_keep hW Hc4_3.out (by omega))
  have Hf5_3 := shut (upd_frozen hW Hf4_3.out)
  have Hc5_4 := shut (upd_hit hW Hc4_4.out)
  have Hf5_4 := shut (upd_frozen hW Hf4_4.out)
  have Hc5_5 := shut (upd_keep hW Hc4_5.out (by omega))
  have Hf5_5 := shut (upd_frozen hW Hf4_5.out)
  have T5 := shut (upd_turns hW T4.out)
  clear hW Hc4_0 Hf4_0 Hc4_1 Hf4_1 Hc4_2 Hf4_2 Hc4_3 Hf4_3 Hc4_4 Hf4_4 Hc4_5 Hf4_5 T4
  go_wp2_with fail
  have o0 := Hc5_5.out; have o1 := Hf5_5.out; have o2 := (T5.out.cell bx (ox + 5) hne).trans Hx5.out
  go_region_with (go_at_call 35; refine (Hr5.out _).mono ?_; rintro e w' ⟨rfl, rfl⟩)
  clear o0 o1 o2
  obtain ⟨W6, hW⟩ : ∃ W, (W5.setCell ⟨b, o + 5, none⟩ (.int .u64 p5)).drew = W := ⟨_, rfl⟩
  rw [hW]
  have Hc6_0 := shut (upd_keep hW Hc5_0.out (by omega))
  have Hf6_0 := shut (upd_frozen hW Hf5_0.out)
  have Hc6_1 := shut (upd_keep hW Hc5_1.out (by omega))
  have Hf6_1 := shut (upd_frozen hW Hf5_1.out)
  have Hc6_2 := shut (upd_keep hW Hc5_2.out (by omega))
  have Hf6_2 := shut (upd_frozen hW Hf5_2.out)
  have Hc6_3 := shut (upd_keep hW Hc5_3.out (by omega))
  have Hf6_3 := shut (upd_frozen hW Hf5_3.out)
  have Hc6_4 := shut (upd_keep hW Hc5_4.out (by omega))
  have Hf6_4 := shut (upd_frozen hW Hf5_4.out)
  have Hc6_5 := shut (upd_hit hW Hc5_5.out)
  have Hf6_5 := shut (upd_frozen hW Hf5_5.out)
  have T6 := shut (upd_turns hW T5.out)
  clear hW Hc5_0 Hf5_0 Hc5_1 Hf5_1 Hc5_2 Hf5_2 Hc5_3 Hf5_3 Hc5_4 Hf5_4 Hc5_5 Hf5_5 T5
  have e5 := H5.out
  go_wp2_with fail
  go_ret
  exact ⟨p0, p1, p2, p3, p4, p5, h5, rfl, ⟨Hg0.out, Hg1.out, Hg2.out, Hg3.out, Hg4.out, Hg5.out, Hg6.out⟩, ⟨0, by rw [← HM.out]; omega⟩, ⟨Hc6_0.out, Hc6_1.out, Hc6_2.out, Hc6_3.out, Hc6_4.out, Hc6_5.out⟩, T6.out⟩
set_option maxRecDepth 100000 in
set_option maxHeartbeats 3200000 in
theorem mulw_neg (b o bx ox : Nat) (z0 z1 z2 z3 z4 z5 x0 x1 x2 x3 x4 x5 y : Int) (w : World) (hne : bx ≠ b) (hy : -4611686018427387904 ≤ y ∧ y < 0) (g0 : Wd x0) (g1 : Wd x1) (g2 : Wd x2) (g3 : Wd x3) (g4 : Wd x4) (g5 : Wd x5) (hz0 : w.cell? ⟨b, o, none⟩ = some (.int .u64 z0)) (hz1 : w.cell? ⟨b, o + 1, none⟩ = some (.int .u64 z1)) (hz2 : w.cell? ⟨b, o + 2, none⟩ = some (.int .u64 z2)) (hz3 : w.cell? ⟨b, o + 3, none⟩ = some (.int .u64 z3)) (hz4 : w.cell? ⟨b, o + 4, none⟩ = some (.int .u64 z4)) (hz5 : w.cell? ⟨b, o + 5, none⟩ = some (.int .u64 z5)) (c0 : w.cell? ⟨bx, ox, none⟩ = some (.int .u64 x0)) (c1 : w.cell? ⟨bx, ox + 1, none⟩ = some (.int .u64 x1)) (c2 : w.cell? ⟨bx, ox + 2, none⟩ = some (.int .u64 x2)) (c3 : w.cell? ⟨bx, ox + 3, none⟩ = some (.int .u64 x3)) (c4 : w.cell? ⟨bx, ox + 4, none⟩ = some (.int .u64 x4)) (c5 : w.cell? ⟨bx, ox + 5, none⟩ = some (.int .u64 x5)) (f0 : w.frozen? ⟨b, o, none⟩ = false) (f1 : w.frozen? ⟨b, o + 1, none⟩ = false) (f2 : w.frozen? ⟨b, o + 2, none⟩ = false) (f3 : w.frozen? ⟨b, o + 3, none⟩ = false) (f4 : w.frozen? ⟨b, o + 4, none⟩ = false) (f5 : w.frozen? ⟨b, o + 5, none⟩ = false) :
    Calls Try.prog 30 #[.pointer (some ⟨b, o, none⟩), .pointer (some ⟨bx, ox, none⟩), .int .i64 y] w (Put b o w (num x0 x1 x2 x3 x4 x5 * y)) := by
  obtain ⟨u, hu⟩ : ∃ u : Int, u = (-y) := ⟨_, rfl⟩
  have gu : Wd u := by unfold Wd; omega
  have e1 : y / 9223372036854775808 = -1 := by omega
  have e2 : bits .xor .i64 y (-1) = -y - 1 := by rw [xor_ones hy.1 hy.2]
  have e3 : wrap64 (-y) = u := by unfold wrap64; omega
  have e4 : IntKind.u64.wrap u = u := by rw [u64wrap]; omega
  have e5 : decide (y < 0) = true := by simpa using hy.2
  obtain ⟨h0, p0, m0, r0⟩ := mul64 g0 gu
  have q0 : Wd h0 := ⟨m0.2.2.2.1, by have := m0.2.2.2.2; omega⟩
  have q_0 : Wd p0 := ⟨m0.2.1, m0.2.2.1⟩
  obtain ⟨h1, p1, m1, r1⟩ := madd1 g1 gu q0
  obtain ⟨h2, p2, m2, r2⟩ := madd1 g2 gu m1.2.1
  obtain ⟨h3, p3, m3, r3⟩ := madd1 g3 gu m2.2.1
  obtain ⟨h4, p4, m4, r4⟩ := madd1 g4 gu m3.2.1
  obtain ⟨h5, p5, m5, r5⟩ := madd1 g5 gu m4.2.1
  have HM := shut (mul_num m0 m1 m2 m3 m4 m5)
  have Hg0 := shut q_0
  have Hg1 := shut m1.2.2
  have Hg2 := shut m2.2.2
  have Hg3 := shut m3.2.2
  have Hg4 := shut m4.2.2
  have Hg5 := shut m5.2.2
  have Hg6 := shut m5.2.1
  have HU := shut (And.intro hy hu)
  have Hr0 := shut r0; clear r0 m0 g0
  have Hr1 := shut r1; clear r1 m1 g1
  have Hr2 := shut r2; clear r2 m2 g2
  have Hr3 := shut r3; clear r3 m3 g3
  have Hr4 := shut r4; clear r4 m4 g4
  have Hr5 := shut r5; clear r5 m5 g5
  have Hc0_0 := shut hz0; have Hf0_0 := shut f0; have Hx0 := shut c0; clear hz0 f0 c0
  have Hc0_1 := shut hz1; have Hf0_1 := shut f1; have Hx1 := shut c1; clear hz1 f1 c1
  have Hc0_2 := shut hz2; have Hf0_2 := shut f2; have Hx2 := shut c2; clear hz2 f2 c2
  have Hc0_3 := shut hz3; have Hf0_3 := shut f3; have Hx3 := shut c3; clear hz3 f3 c3
  have Hc0_4 := shut hz4; have Hf0_4 := shut f4; have Hx4 := shut c4; clear hz4 f4 c4
  have Hc0_5 := shut hz5; have Hf0_5 := shut f5; have Hx5 := shut c5; clear hz5 f5 c5
  have T0 := shut (Turns.refl b w)
  clear gu q0 q_0 hy hu
  have H5 := shut e5; clear e5
  go_enter Try.func30, Try.ntmps30
  go_wp2_with fail
  clear e1 e2 e3 e4
  have o0 := Hc0_0.out; have o1 := Hf0_0.out; have o2 := (T0.out.cell bx (ox) hne).trans Hx0.out
  go_region_with (go_at_call 34; refine (Hr0.out _).mono ?_; rintro e w' ⟨rfl, rfl⟩)
  clear o0 o1 o2
  obtain ⟨W1, hW⟩ : ∃ W, (w.setCell ⟨b, o, none⟩ (.int .u64 p0)).drew = W := ⟨_, rfl⟩
  rw [hW]
  have Hc1_0 := shut (upd_hit hW Hc0_0.out)
  have Hf1_0 := shut (upd_frozen hW Hf0_0.out)
  have Hc1_1 := shut (upd_keep hW Hc0_1.out (by omega))
  have Hf1_1 := shut (upd_frozen hW Hf0_1.out)
  have Hc1_2 := shut (upd_keep hW Hc0_2.out (by omega))
  have Hf1_2 := shut (upd_frozen hW Hf0_2.out)
  have Hc1_3 := shut (upd_keep hW Hc0_3.out (by omega))
  have Hf1_3 := shut (upd_frozen hW Hf0_3.out)
  have Hc1_4 := shut (upd_keep hW Hc0_4.out (by omega))
  have Hf1_4 := shut (upd_frozen hW Hf0_4.out)
  have Hc1_5 := shut (upd_keep hW Hc0_5.out (by omega))
  have Hf1_5 := shut (upd_frozen hW Hf0_5.out)
  have T1 := shut (upd_turns hW T0.out)
  clear hW Hc0_0 Hf0_0 Hc0_1 Hf0_1 Hc0_2 Hf0_2 Hc0_3 Hf0_3 Hc0_4 Hf0_4 Hc0_5 Hf0_5 T0
  go_wp2_with fail
  have o0 := Hc1_1.out; have o1 := Hf1_1.out; have o2 := (T1.out.cell bx (ox + 1) hne).trans Hx1.out
  go_region_with (go_at_call 35; refine (Hr1.out _).mono ?_; rintro e w' ⟨rfl, rfl⟩)
  clear o0 o1 o2
  obtain ⟨W2, hW⟩ : ∃ W, (W1.setCell ⟨b, o + 1, none⟩ (.int .u64 p1)).drew = W := ⟨_, rfl⟩
  rw [hW]
  have Hc2_0 := shut (upd_keep hW Hc1_0.out (by omega))
  have Hf2_0 := shut (upd_frozen hW Hf1_0.out)
  have Hc2_1 := shut (upd_hit hW Hc1_1.out)
  have Hf2_1 := shut (upd_frozen hW Hf1_1.out)
  have Hc2_2 := shut (upd_keep hW Hc1_2.out (by omega))
  have Hf2_2 := shut (upd_frozen hW Hf1_2.out)
  have Hc2_3 := shut (upd_keep hW Hc1_3.out (by omega))
  have Hf2_3 := shut (upd_frozen hW Hf1_3.out)
  have Hc2_4 := shut (upd_keep hW Hc1_4.out (by omega))
  have Hf2_4 := shut (upd_frozen hW Hf1_4.out)
  have Hc2_5 := shut (upd_keep hW Hc1_5.out (by omega))
  have Hf2_5 := shut (upd_frozen hW Hf1_5.out)
  have T2 := shut (upd_turns hW T1.out)
  clear hW Hc1_0 Hf1_0 Hc1_1 Hf1_1 Hc1_2 Hf1_2 Hc1_3 Hf1_3 Hc1_4 Hf1_4 Hc1_5 Hf1_5 T1
  go_wp2_with fail
  have o0 := Hc2_2.out; have o1 := Hf2_2.out; have o2 := (T2.out.cell bx (ox + 2) hne).trans Hx2.out
  go_region_with (go_at_call 35; refine (Hr2.out _).mono ?_; rintro e w' ⟨rfl, rfl⟩)
  clear o0 o1 o2
  obtain ⟨W3, hW⟩ : ∃ W, (W2.setCell ⟨b, o + 2, none⟩ (.int .u64 p2)).drew = W := ⟨_, rfl⟩
  rw [hW]
  have Hc3_0 := shut (upd_keep hW Hc2_0.out (by omega))
  have Hf3_0 := shut (upd_frozen hW Hf2_0.out)
  have Hc3_1 := shut (upd_keep hW Hc2_1.out (by omega))
  have Hf3_1 := shut (upd_frozen hW Hf2_1.out)
  have Hc3_2 := shut (upd_hit hW Hc2_2.out)
  have Hf3_2 := shut (upd_frozen hW Hf2_2.out)
  have Hc3_3 := shut (upd_keep hW Hc2_3.out (by omega))
  have Hf3_3 := shut (upd_frozen hW Hf2_3.out)
  have Hc3_4 := shut (upd_keep hW Hc2_4.out (by omega))
  have Hf3_4 := shut (upd_frozen hW Hf2_4.out)
  have Hc3_5 := shut (upd_keep hW Hc2_5.out (by omega))
  have Hf3_5 := shut (upd_frozen hW Hf2_5.out)
  have T3 := shut (upd_turns hW T2.out)
  clear hW Hc2_0 Hf2_0 Hc2_1 Hf2_1 Hc2_2 Hf2_2 Hc2_3 Hf2_3 Hc2_4 Hf2_4 Hc2_5 Hf2_5 T2
  go_wp2_with fail
  have o0 := Hc3_3.out; have o1 := Hf3_3.out; have o2 := (T3.out.cell bx (ox + 3) hne).trans Hx3.out
  go_region_with (go_at_call 35; refine (Hr3.out _).mono ?_; rintro e w' ⟨rfl, rfl⟩)
  clear o0 o1 o2
  obtain ⟨W4, hW⟩ : ∃ W, (W3.setCell ⟨b, o + 3, none⟩ (.int .u64 p3)).drew = W := ⟨_, rfl⟩
  rw [hW]
  have Hc4_0 := shut (upd_keep hW Hc3_0.out (by omega))
  have Hf4_0 := shut (upd_frozen hW Hf3_0.out)
  have Hc4_1 := shut (upd_keep hW Hc3_1.out (by omega))
  have Hf4_1 := shut (upd_frozen hW Hf3_1.out)
  have Hc4_2 := shut (upd_keep hW Hc3_2.out (by omega))
  have Hf4_2 := shut (upd_frozen hW Hf3_2.out)
  have Hc4_3 := shut (upd_hit hW Hc3_3.out)
  have Hf4_3 := shut (upd_frozen hW Hf3_3.out)
  have Hc4_4 := shut (upd_keep hW Hc3_4.out (by omega))
  have Hf4_4 := shut (upd_frozen hW Hf3_4.out)
  have Hc4_5 := shut (upd_keep hW Hc3_5.out (by omega))
  have Hf4_5 := shut (upd_frozen hW Hf3_5.out)
  have T4 := shut (upd_turns hW T3.out)
  clear hW Hc3_0 Hf3_0 Hc3_1 Hf3_1 Hc3_2 Hf3_2 Hc3_3 Hf3_3 Hc3_4 Hf3_4 Hc3_5 Hf3_5 T3
  go_wp2_with fail
  have o0 := Hc4_4.out; have o1 := Hf4_4.out; have o2 := (T4.out.cell bx (ox + 4) hne).trans Hx4.out
  go_region_with (go_at_call 35; refine (Hr4.out _).mono ?_; rintro e w' ⟨rfl, rfl⟩)
  clear o0 o1 o2
  obtain ⟨W5, hW⟩ : ∃ W, (W4.setCell ⟨b, o + 4, none⟩ (.int .u64 p4)).drew = W := ⟨_, rfl⟩
  rw [hW]
  have Hc5_0 := shut (upd_keep hW Hc4_0.out (by omega))
  have Hf5_0 := shut (upd_frozen hW Hf4_0.out)
  have Hc5_1 := shut (upd_keep hW Hc4_1.out (by omega))
  have Hf5_1 := shut (upd_frozen hW Hf4_1.out)
  have Hc5_2 := shut (upd_keep hW Hc4_2.out (by omega))
  have Hf5_2 := shut (upd_frozen hW Hf4_2.out)
  have Hc5_3 := shut (upd_keep hW Hc4_3.out (by omega))
  have Hf5_3 := shut (upd_frozen hW Hf4_3.out)
  have Hc5_4 := shut (upd_hit hW Hc4_4.out)
  have Hf5_4 := shut (upd_frozen hW Hf4_4.out)
  have Hc5_5 := shut (upd_keep hW Hc4_5.out (by omega))
  have Hf5_5 := shut (upd_frozen hW Hf4_5.out)
  have T5 := shut (upd_turns hW T4.out)
  clear hW Hc4_0 Hf4_0 Hc4_1 Hf4_1 Hc4_2 Hf4_2 Hc4_3 Hf4_3 Hc4_4 Hf4_4 Hc4_5 Hf4_5 T4
  go_wp2_with fail
  have o0 := Hc5_5.out; have o1 := Hf5_5.out; have o2 := (T5.out.cell bx (ox + 5) hne).trans Hx5.out
  go_region_with (go_at_call 35; refine (Hr5.out _).mono ?_; rintro e w' ⟨rfl, rfl⟩)
  clear o0 o1 o2
  obtain ⟨W6, hW⟩ : ∃ W, (W5.setCell ⟨b, o + 5, none⟩ (.int .u64 p5)).drew = W := ⟨_, rfl⟩
  rw [hW]
  have Hc6_0 := shut (upd_keep hW Hc5_0.out (by omega))
  have Hf6_0 := shut (upd_frozen hW Hf5_0.out)
  have Hc6_1 := shut (upd_keep hW Hc5_1.out (by omega))
  have Hf6_1 := shut (upd_frozen hW Hf5_1.out)
  have Hc6_2 := shut (upd_keep hW Hc5_2.out (by omega))
  have Hf6_2 := shut (upd_frozen hW Hf5_2.out)
  have Hc6_3 := shut (upd_keep hW Hc5_3.out (by omega))
  have Hf6_3 := shut (upd_frozen hW Hf5_3.out)
  have Hc6_4 := shut (upd_keep hW Hc5_4.out (by omega))
  have Hf6_4 := shut (upd_frozen hW Hf5_4.out)
  have Hc6_5 := shut (upd_hit hW Hc5_5.out)
  have Hf6_5 := shut (upd_frozen hW Hf5_5.out)
  have T6 := shut (upd_turns hW T5.out)
  clear hW Hc5_0 Hf5_0 Hc5_1 Hf5_1 Hc5_2 Hf5_2 Hc5_3 Hf5_3 Hc5_4 Hf5_4 Hc5_5 Hf5_5 T5
  have e5 := H5.out
  go_wp2_with fail
  refine (negl_t b o p0 p1 p2 p3 p4 p5 h5 _ Hg0.out Hg1.out Hg2.out Hg3.out Hg4.out Hg5.out Hg6.out Hc6_0.out Hc6_1.out Hc6_2.out Hc6_3.out Hc6_4.out Hc6_5.out Hf6_0.out Hf6_1.out Hf6_2.out Hf6_3.out Hf6_4.out Hf6_5.out).mono ?_
  rintro e w' ⟨d0, d1, d2, d3, d4, d5, e', rfl, hwd, hk, hc, ht⟩
  have HR := shut (And.intro hwd (And.intro hk (And.intro hc ht)))
  clear hwd hk hc ht
  go_wp2_with fail
  go_ret
  obtain ⟨hwd, ⟨k, hk⟩, hc, ht⟩ := HR.out
  exact ⟨d0, d1, d2, d3, d4, d5, e', rfl, hwd, ⟨k, by rw [hk, ← HM.out, HU.out.2, Int.mul_neg]; omega⟩, hc, T6.out.trans ht⟩
end Go.Proofs.Ytfdmgelaiigocaa
