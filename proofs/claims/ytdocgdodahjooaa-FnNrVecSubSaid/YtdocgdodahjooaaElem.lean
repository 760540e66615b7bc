/- Contracts of the field's functions on words: the test against the prime; sum, difference, double, each modulo the prime. -/
import Derived.Test.YtdocgdodahjooaaBits
import Derived.WalkKit
import Derived.WalkSpells
import Derived.WalkLawsBesides
import Derived.Deep.QuietTactic
import Derived.BigQuiet
import Derived.BigRegion
namespace Go.Proofs.Ytdocgdodahjooaa
open Go.RowKit Num

/-- A number of its words. -/
def num (z0 z1 z2 z3 : Int) : Int := z0 + 18446744073709551616 * z1 + 340282366920938463463374607431768211456 * z2 + 6277101735386680763835789423207666416102355444464034512896 * z3
theorem num_pos {x0 x1 x2 x3 : Int} (g0 : Wd x0) (g1 : Wd x1) (g2 : Wd x2) (g3 : Wd x3) : 0 ≤ num x0 x1 x2 x3 := by
  unfold Wd at *; unfold num; omega
theorem num_top {x0 x1 x2 x3 : Int} (g0 : Wd x0) (g1 : Wd x1) (g2 : Wd x2) (g3 : Wd x3) : num x0 x1 x2 x3 < 115792089237316195423570985008687907853269984665640564039457584007913129639936 := by
  unfold Wd at *; unfold num; omega
theorem adds_num {x0 x1 x2 x3 y0 y1 y2 y3 s0 s1 s2 s3 k0 k1 k2 k3 : Int} (a0 : Adds x0 y0 0 s0 k0) (a1 : Adds x1 y1 k0 s1 k1) (a2 : Adds x2 y2 k1 s2 k2) (a3 : Adds x3 y3 k2 s3 k3) : num x0 x1 x2 x3 + num y0 y1 y2 y3 = num s0 s1 s2 s3 + 115792089237316195423570985008687907853269984665640564039457584007913129639936 * k3 := by
  unfold Adds at *; unfold num; omega
theorem adds_nump {s0 s1 s2 s3 d0 d1 d2 d3 e0 e1 e2 e3 : Int} (b0 : Adds s0 4891460686036598785 0 d0 e0) (b1 : Adds s1 2896914383306846353 e0 d1 e1) (b2 : Adds s2 13281191951274694749 e1 d2 e2) (b3 : Adds s3 3486998266802970665 e2 d3 e3) : num s0 s1 s2 s3 + 21888242871839275222246405745257275088548364400416034343698204186575808495617 = num d0 d1 d2 d3 + 115792089237316195423570985008687907853269984665640564039457584007913129639936 * e3 := by
  unfold Adds at *; unfold num; omega
theorem subs_num {x0 x1 x2 x3 y0 y1 y2 y3 s0 s1 s2 s3 k0 k1 k2 k3 : Int} (a0 : Subs x0 y0 0 s0 k0) (a1 : Subs x1 y1 k0 s1 k1) (a2 : Subs x2 y2 k1 s2 k2) (a3 : Subs x3 y3 k2 s3 k3) : num x0 x1 x2 x3 - num y0 y1 y2 y3 = num s0 s1 s2 s3 - 115792089237316195423570985008687907853269984665640564039457584007913129639936 * k3 := by
  unfold Subs at *; unfold num; omega
theorem subs_nump {s0 s1 s2 s3 d0 d1 d2 d3 e0 e1 e2 e3 : Int} (b0 : Subs s0 4891460686036598785 0 d0 e0) (b1 : Subs s1 2896914383306846353 e0 d1 e1) (b2 : Subs s2 13281191951274694749 e1 d2 e2) (b3 : Subs s3 3486998266802970665 e2 d3 e3) : num s0 s1 s2 s3 - 21888242871839275222246405745257275088548364400416034343698204186575808495617 = num d0 d1 d2 d3 - 115792089237316195423570985008687907853269984665640564039457584007913129639936 * e3 := by
  unfold Subs at *; unfold num; omega
theorem add_small {X Y S k : Int} (h : X + Y = S + 115792089237316195423570985008687907853269984665640564039457584007913129639936 * k) (x0 : 0 ≤ X) (y0 : 0 ≤ Y) (_s0 : 0 ≤ S) (_s1 : S < 115792089237316195423570985008687907853269984665640564039457584007913129639936) (hk : Bt k) (hx : X < 21888242871839275222246405745257275088548364400416034343698204186575808495617) (hy : Y < 21888242871839275222246405745257275088548364400416034343698204186575808495617) (hl : S < 21888242871839275222246405745257275088548364400416034343698204186575808495617) : S = (X + Y) % 21888242871839275222246405745257275088548364400416034343698204186575808495617 := by
  obtain ⟨h0, h1⟩ := hk
  have : k = 0 := by omega
  subst this
  rw [h, Int.emod_eq_of_lt (by omega) (by omega)]; omega
theorem add_big {X Y S D k e : Int} (h : X + Y = S + 115792089237316195423570985008687907853269984665640564039457584007913129639936 * k) (h' : S - 21888242871839275222246405745257275088548364400416034343698204186575808495617 = D - 115792089237316195423570985008687907853269984665640564039457584007913129639936 * e) (x0 : 0 ≤ X) (y0 : 0 ≤ Y) (_s0 : 0 ≤ S) (_s1 : S < 115792089237316195423570985008687907853269984665640564039457584007913129639936) (d0 : 0 ≤ D) (d1 : D < 115792089237316195423570985008687907853269984665640564039457584007913129639936) (hk : Bt k) (he : Bt e) (hx : X < 21888242871839275222246405745257275088548364400416034343698204186575808495617) (hy : Y < 21888242871839275222246405745257275088548364400416034343698204186575808495617) (hl : ¬ S < 21888242871839275222246405745257275088548364400416034343698204186575808495617) : D = (X + Y) % 21888242871839275222246405745257275088548364400416034343698204186575808495617 := by
  obtain ⟨h0, h1⟩ := hk
  obtain ⟨g0, g1⟩ := he
  have : k = 0 := by omega
  have : e = 0 := by omega
  subst k e
  have : (X + Y) % 21888242871839275222246405745257275088548364400416034343698204186575808495617 = D := by rw [show X + Y = D + 21888242871839275222246405745257275088548364400416034343698204186575808495617 from by omega, Int.add_emod_right, Int.emod_eq_of_lt (by omega) (by omega)]
  omega
theorem sub_small {X Y S k : Int} (h : X - Y = S - 115792089237316195423570985008687907853269984665640564039457584007913129639936 * k) (_x0 : 0 ≤ X) (y0 : 0 ≤ Y) (_s0 : 0 ≤ S) (_s1 : S < 115792089237316195423570985008687907853269984665640564039457584007913129639936) (_hk : Bt k) (hx : X < 21888242871839275222246405745257275088548364400416034343698204186575808495617) (_hy : Y < 21888242871839275222246405745257275088548364400416034343698204186575808495617) (hl : k = 0) : S = (X + 21888242871839275222246405745257275088548364400416034343698204186575808495617 - Y) % 21888242871839275222246405745257275088548364400416034343698204186575808495617 := by
  subst hl
  have : (X + 21888242871839275222246405745257275088548364400416034343698204186575808495617 - Y) % 21888242871839275222246405745257275088548364400416034343698204186575808495617 = S := by rw [show X + 21888242871839275222246405745257275088548364400416034343698204186575808495617 - Y = S + 21888242871839275222246405745257275088548364400416034343698204186575808495617 from by omega, Int.add_emod_right, Int.emod_eq_of_lt (by omega) (by omega)]
  omega
theorem sub_big {X Y S D k e : Int} (h : X - Y = S - 115792089237316195423570985008687907853269984665640564039457584007913129639936 * k) (h' : S + 21888242871839275222246405745257275088548364400416034343698204186575808495617 = D + 115792089237316195423570985008687907853269984665640564039457584007913129639936 * e) (x0 : 0 ≤ X) (y0 : 0 ≤ Y) (_s0 : 0 ≤ S) (_s1 : S < 115792089237316195423570985008687907853269984665640564039457584007913129639936) (d0 : 0 ≤ D) (d1 : D < 115792089237316195423570985008687907853269984665640564039457584007913129639936) (hk : Bt k) (he : Bt e) (_hx : X < 21888242871839275222246405745257275088548364400416034343698204186575808495617) (hy : Y < 21888242871839275222246405745257275088548364400416034343698204186575808495617) (hl : ¬ k = 0) : D = (X + 21888242871839275222246405745257275088548364400416034343698204186575808495617 - Y) % 21888242871839275222246405745257275088548364400416034343698204186575808495617 := by
  obtain ⟨h0, h1⟩ := hk
  obtain ⟨g0, g1⟩ := he
  have : k = 1 := by omega
  have : e = 1 := by omega
  subst k e
  rw [show X + 21888242871839275222246405745257275088548364400416034343698204186575808495617 - Y = D from by omega, Int.emod_eq_of_lt (by omega) (by omega)]
theorem num_wd {A : Nat} (h : A < 115792089237316195423570985008687907853269984665640564039457584007913129639936) : num (wd A 0 : Nat) (wd A 1 : Nat) (wd A 2 : Nat) (wd A 3 : Nat) = (A : Int) := by
  unfold num wd; omega
theorem wd_num {x0 x1 x2 x3 : Int} {A : Nat} (g0 : Wd x0) (g1 : Wd x1) (g2 : Wd x2) (g3 : Wd x3) (h : num x0 x1 x2 x3 = (A : Int)) : x0 = (wd A 0 : Nat) ∧ x1 = (wd A 1 : Nat) ∧ x2 = (wd A 2 : Nat) ∧ x3 = (wd A 3 : Nat) := by
  unfold Wd at *; unfold num at h; unfold wd; omega
set_option maxRecDepth 100000 in
set_option maxHeartbeats 400000 in
theorem small_any (b o : Nat) (z0 z1 z2 z3 : Int) (w : World) (g0 : Wd z0) (g1 : Wd z1) (g2 : Wd z2) (g3 : Wd z3) (h0 : w.cell? ⟨b, o, none⟩ = some (.int .u64 z0)) (h1 : w.cell? ⟨b, o + 1, none⟩ = some (.int .u64 z1)) (h2 : w.cell? ⟨b, o + 2, none⟩ = some (.int .u64 z2)) (h3 : w.cell? ⟨b, o + 3, none⟩ = some (.int .u64 z3)) :
    Calls Try.prog 41 #[.pointer (some ⟨b, o, none⟩)] w fun e w' => e = .returned (.bool (decide (num z0 z1 z2 z3 < 21888242871839275222246405745257275088548364400416034343698204186575808495617))) ∧ w = w' := by
  obtain ⟨l0, u0⟩ := g0
  obtain ⟨l1, u1⟩ := g1
  obtain ⟨l2, u2⟩ := g2
  obtain ⟨l3, u3⟩ := g3
  by_cases a3 : z3 < 3486998266802970665
  · have t3 : decide (z3 < 3486998266802970665) = true := by simpa using a3
    have e : decide (num z0 z1 z2 z3 < 21888242871839275222246405745257275088548364400416034343698204186575808495617) = true := decide_eq_true (by unfold num; omega)
    have E := shut e; clear e
    clear l0 u0 l1 u1 l2 u2 l3 u3
    go_enter Try.func41, Try.ntmps41
    go_wp2_with fail
    go_ret
    exact ⟨by rw [E.out]; rfl, rfl⟩
  have t3 : decide (z3 < 3486998266802970665) = false := by simpa using a3
  by_cases c3 : z3 = 3486998266802970665
  · have v3 : (z3 == 3486998266802970665) = true := by simpa using c3
    by_cases a2 : z2 < 13281191951274694749
    · have t2 : decide (z2 < 13281191951274694749) = true := by simpa using a2
      have e : decide (num z0 z1 z2 z3 < 21888242871839275222246405745257275088548364400416034343698204186575808495617) = true := decide_eq_true (by unfold num; omega)
      have E := shut e; clear e
      clear l0 u0 l1 u1 l2 u2 l3 u3 c3
      go_enter Try.func41, Try.ntmps41
      go_wp2_with fail
      go_ret
      exact ⟨by rw [E.out]; rfl, rfl⟩
    have t2 : decide (z2 < 13281191951274694749) = false := by simpa using a2
    by_cases c2 : z2 = 13281191951274694749
    · have v2 : (z2 == 13281191951274694749) = true := by simpa using c2
      by_cases a1 : z1 < 2896914383306846353
      · have t1 : decide (z1 < 2896914383306846353) = true := by simpa using a1
        have e : decide (num z0 z1 z2 z3 < 21888242871839275222246405745257275088548364400416034343698204186575808495617) = true := decide_eq_true (by unfold num; omega)
        have E := shut e; clear e
        clear l0 u0 l1 u1 l2 u2 l3 u3 c2 c3
        go_enter Try.func41, Try.ntmps41
        go_wp2_with fail
        go_ret
        exact ⟨by rw [E.out]; rfl, rfl⟩
      have t1 : decide (z1 < 2896914383306846353) = false := by simpa using a1
      by_cases c1 : z1 = 2896914383306846353
      · have v1 : (z1 == 2896914383306846353) = true := by simpa using c1
        by_cases a0 : z0 < 4891460686036598785
        · have t0 : decide (z0 < 4891460686036598785) = true := by simpa using a0
          have e : decide (num z0 z1 z2 z3 < 21888242871839275222246405745257275088548364400416034343698204186575808495617) = true := decide_eq_true (by unfold num; omega)
          have E := shut e; clear e
          clear l0 u0 l1 u1 l2 u2 l3 u3 c1 c2 c3
          go_enter Try.func41, Try.ntmps41
          go_wp2_with fail
          go_ret
          exact ⟨by rw [E.out]; rfl, rfl⟩
        have t0 : decide (z0 < 4891460686036598785) = false := by simpa using a0
        have e : decide (num z0 z1 z2 z3 < 21888242871839275222246405745257275088548364400416034343698204186575808495617) = false := decide_eq_false (by unfold num; omega)
        have E := shut e; clear e
        clear l0 u0 l1 u1 l2 u2 l3 u3 c1 c2 c3
        go_enter Try.func41, Try.ntmps41
        go_wp2_with fail
        go_ret
        exact ⟨by rw [E.out]; rfl, rfl⟩
      · have v1 : (z1 == 2896914383306846353) = false := by simpa using c1
        have e : decide (num z0 z1 z2 z3 < 21888242871839275222246405745257275088548364400416034343698204186575808495617) = false := decide_eq_false (by unfold num; omega)
        have E := shut e; clear e
        clear l0 u0 l1 u1 l2 u2 l3 u3 c1 c2 c3
        go_enter Try.func41, Try.ntmps41
        go_wp2_with fail
        go_ret
        exact ⟨by rw [E.out]; rfl, rfl⟩
    · have v2 : (z2 == 13281191951274694749) = false := by simpa using c2
      have e : decide (num z0 z1 z2 z3 < 21888242871839275222246405745257275088548364400416034343698204186575808495617) = false := decide_eq_false (by unfold num; omega)
      have E := shut e; clear e
      clear l0 u0 l1 u1 l2 u2 l3 u3 c2 c3
      go_enter Try.func41, Try.ntmps41
      go_wp2_with fail
      go_ret
      exact ⟨by rw [E.out]; rfl, rfl⟩
  · have v3 : (z3 == 3486998266802970665) = false := by simpa using c3
    have e : decide (num z0 z1 z2 z3 < 21888242871839275222246405745257275088548364400416034343698204186575808495617) = false := decide_eq_false (by unfold num; omega)
    have E := shut e; clear e
    clear l0 u0 l1 u1 l2 u2 l3 u3 c3
    go_enter Try.func41, Try.ntmps41
    go_wp2_with fail
    go_ret
    exact ⟨by rw [E.out]; rfl, rfl⟩
/-- Words that are stored anew. -/
theorem set_again (w : World) (b o : Nat) (u0 u1 u2 u3 v0 v1 v2 v3 : Value) :
    ((((((((w.setCell ⟨b, o, none⟩ u0).setCell ⟨b, o + 1, none⟩ u1).setCell ⟨b, o + 2, none⟩ u2).setCell ⟨b, o + 3, none⟩ u3).setCell ⟨b, o, none⟩ v0).setCell ⟨b, o + 1, none⟩ v1).setCell ⟨b, o + 2, none⟩ v2).setCell ⟨b, o + 3, none⟩ v3) = ((((w.setCell ⟨b, o, none⟩ v0).setCell ⟨b, o + 1, none⟩ v1).setCell ⟨b, o + 2, none⟩ v2).setCell ⟨b, o + 3, none⟩ v3) := by
  have s10 : ∀ (w : World) (v v' : Value), (w.setCell ⟨b, o + 1, none⟩ v).setCell ⟨b, o, none⟩ v' = (w.setCell ⟨b, o, none⟩ v').setCell ⟨b, o + 1, none⟩ v := fun w v v' => set_swap w b v v' (by omega)
  have s20 : ∀ (w : World) (v v' : Value), (w.setCell ⟨b, o + 2, none⟩ v).setCell ⟨b, o, none⟩ v' = (w.setCell ⟨b, o, none⟩ v').setCell ⟨b, o + 2, none⟩ v := fun w v v' => set_swap w b v v' (by omega)
  have s21 : ∀ (w : World) (v v' : Value), (w.setCell ⟨b, o + 2, none⟩ v).setCell ⟨b, o + 1, none⟩ v' = (w.setCell ⟨b, o + 1, none⟩ v').setCell ⟨b, o + 2, none⟩ v := fun w v v' => set_swap w b v v' (by omega)
  have s30 : ∀ (w : World) (v v' : Value), (w.setCell ⟨b, o + 3, none⟩ v).setCell ⟨b, o, none⟩ v' = (w.setCell ⟨b, o, none⟩ v').setCell ⟨b, o + 3, none⟩ v := fun w v v' => set_swap w b v v' (by omega)
  have s31 : ∀ (w : World) (v v' : Value), (w.setCell ⟨b, o + 3, none⟩ v).setCell ⟨b, o + 1, none⟩ v' = (w.setCell ⟨b, o + 1, none⟩ v').setCell ⟨b, o + 3, none⟩ v := fun w v v' => set_swap w b v v' (by omega)
  have s32 : ∀ (w : World) (v v' : Value), (w.setCell ⟨b, o + 3, none⟩ v).setCell ⟨b, o + 2, none⟩ v' = (w.setCell ⟨b, o + 2, none⟩ v').setCell ⟨b, o + 3, none⟩ v := fun w v v' => set_swap w b v v' (by omega)
  simp only [s10, s20, s21, s30, s31, s32, set_set]

theorem drewn_4 (w : World) : w.drew.drew.drew.drew = w.drewN 4 := by rw [show w.drew = w.drewN 1 from rfl]; simp only [World.drew_drewN]
theorem drewn_8 (w : World) : w.drew.drew.drew.drew.drew.drew.drew.drew = w.drewN 8 := by rw [show w.drew = w.drewN 1 from rfl]; simp only [World.drew_drewN]
/-- The difference modulo the prime. -/
def subm (X Y : Nat) : Nat := (X + 21888242871839275222246405745257275088548364400416034343698204186575808495617 - Y) % 21888242871839275222246405745257275088548364400416034343698204186575808495617
set_option maxRecDepth 100000 in
set_option maxHeartbeats 1600000 in
theorem eadd_t (bz oz bx ox b_y o_y : Nat) (z0 z1 z2 z3 x0 x1 x2 x3 y0 y1 y2 y3 : Int) (w : World) (hzx : bz ≠ bx ∨ oz = ox ∨ oz + 4 ≤ ox ∨ ox + 4 ≤ oz) (hzy : bz ≠ b_y ∨ oz = o_y ∨ oz + 4 ≤ o_y ∨ o_y + 4 ≤ oz)
    (hX : num x0 x1 x2 x3 < 21888242871839275222246405745257275088548364400416034343698204186575808495617) (hY : num y0 y1 y2 y3 < 21888242871839275222246405745257275088548364400416034343698204186575808495617)
    (gx0 : Wd x0) (gx1 : Wd x1) (gx2 : Wd x2) (gx3 : Wd x3) (gy0 : Wd y0) (gy1 : Wd y1) (gy2 : Wd y2) (gy3 : Wd y3)
    (hx0 : w.cell? ⟨bx, ox, none⟩ = some (.int .u64 x0)) (hx1 : w.cell? ⟨bx, ox + 1, none⟩ = some (.int .u64 x1)) (hx2 : w.cell? ⟨bx, ox + 2, none⟩ = some (.int .u64 x2)) (hx3 : w.cell? ⟨bx, ox + 3, none⟩ = some (.int .u64 x3)) (hy0 : w.cell? ⟨b_y, o_y, none⟩ = some (.int .u64 y0)) (hy1 : w.cell? ⟨b_y, o_y + 1, none⟩ = some (.int .u64 y1)) (hy2 : w.cell? ⟨b_y, o_y + 2, none⟩ = some (.int .u64 y2)) (hy3 : w.cell? ⟨b_y, o_y + 3, none⟩ = some (.int .u64 y3))
    (hz0 : w.cell? ⟨bz, oz, none⟩ = some (.int .u64 z0)) (hz1 : w.cell? ⟨bz, oz + 1, none⟩ = some (.int .u64 z1)) (hz2 : w.cell? ⟨bz, oz + 2, none⟩ = some (.int .u64 z2)) (hz3 : w.cell? ⟨bz, oz + 3, none⟩ = some (.int .u64 z3))
    (fz0 : w.frozen? ⟨bz, oz, none⟩ = false) (fz1 : w.frozen? ⟨bz, oz + 1, none⟩ = false) (fz2 : w.frozen? ⟨bz, oz + 2, none⟩ = false) (fz3 : w.frozen? ⟨bz, oz + 3, none⟩ = false) :
    Calls Try.prog 31 #[.pointer (some ⟨bz, oz, none⟩), .pointer (some ⟨bx, ox, none⟩), .pointer (some ⟨b_y, o_y, none⟩)] w fun e w' => e = .returned (.pointer (some ⟨bz, oz, none⟩)) ∧
      ∃ d0 d1 d2 d3 : Int, (Wd d0 ∧ Wd d1 ∧ Wd d2 ∧ Wd d3) ∧ num d0 d1 d2 d3 = (num x0 x1 x2 x3 + num y0 y1 y2 y3) % 21888242871839275222246405745257275088548364400416034343698204186575808495617 ∧ ∃ m, w' = ((((w.setCell ⟨bz, oz, none⟩ (.int .u64 d0)).setCell ⟨bz, oz + 1, none⟩ (.int .u64 d1)).setCell ⟨bz, oz + 2, none⟩ (.int .u64 d2)).setCell ⟨bz, oz + 3, none⟩ (.int .u64 d3)).drewN m := by
  obtain ⟨s0, k0, a0, r0⟩ := add64 gx0 gy0 (c := 0) Bt.zero
  obtain ⟨s1, k1, a1, r1⟩ := add64 gx1 gy1 (c := k0) a0.bt
  obtain ⟨s2, k2, a2, r2⟩ := add64 gx2 gy2 (c := k1) a1.bt
  obtain ⟨s3, k3, a3, r3⟩ := add64 gx3 gy3 (c := k2) a2.bt
  obtain ⟨d0, e0, b0, t0⟩ := sub64 a0.wd (y := 4891460686036598785) ⟨by omega, by omega⟩ (c := 0) Bt.zero
  obtain ⟨d1, e1, b1, t1⟩ := sub64 a1.wd (y := 2896914383306846353) ⟨by omega, by omega⟩ (c := e0) b0.bt
  obtain ⟨d2, e2, b2, t2⟩ := sub64 a2.wd (y := 13281191951274694749) ⟨by omega, by omega⟩ (c := e1) b1.bt
  obtain ⟨d3, e3, b3, t3⟩ := sub64 a3.wd (y := 3486998266802970665) ⟨by omega, by omega⟩ (c := e2) b2.bt
  have Ha0 := shut a0; have Hb0 := shut b0; have Hr0 := shut r0; have Ht0 := shut t0; have Hgx0 := shut gx0; have Hgy0 := shut gy0; have Hfz0 := shut fz0; clear a0 b0 r0 t0 gx0 gy0 fz0
  have Ha1 := shut a1; have Hb1 := shut b1; have Hr1 := shut r1; have Ht1 := shut t1; have Hgx1 := shut gx1; have Hgy1 := shut gy1; have Hfz1 := shut fz1; clear a1 b1 r1 t1 gx1 gy1 fz1
  have Ha2 := shut a2; have Hb2 := shut b2; have Hr2 := shut r2; have Ht2 := shut t2; have Hgx2 := shut gx2; have Hgy2 := shut gy2; have Hfz2 := shut fz2; clear a2 b2 r2 t2 gx2 gy2 fz2
  have Ha3 := shut a3; have Hb3 := shut b3; have Hr3 := shut r3; have Ht3 := shut t3; have Hgx3 := shut gx3; have Hgy3 := shut gy3; have Hfz3 := shut fz3; clear a3 b3 r3 t3 gx3 gy3 fz3
  have HhX := shut hX; have HhY := shut hY; clear hX hY
  have cx0 : w.cell? ⟨bx, ox, none⟩ = some (.int .u64 x0) := hx0
  have cy0 : w.cell? ⟨b_y, o_y, none⟩ = some (.int .u64 y0) := hy0
  have cz0 : w.cell? ⟨bz, oz, none⟩ = some (.int .u64 z0) := hz0
  have cx1 : (w.setCell ⟨bz, oz, none⟩ (.int .u64 s0)).cell? ⟨bx, ox + 1, none⟩ = some (.int .u64 x1) := keep (hx1) (by omega)
  have cy1 : (w.setCell ⟨bz, oz, none⟩ (.int .u64 s0)).cell? ⟨b_y, o_y + 1, none⟩ = some (.int .u64 y1) := keep (hy1) (by omega)
  have cz1 : (w.setCell ⟨bz, oz, none⟩ (.int .u64 s0)).cell? ⟨bz, oz + 1, none⟩ = some (.int .u64 z1) := keep (hz1) (by omega)
  have cx2 : ((w.setCell ⟨bz, oz, none⟩ (.int .u64 s0)).setCell ⟨bz, oz + 1, none⟩ (.int .u64 s1)).cell? ⟨bx, ox + 2, none⟩ = some (.int .u64 x2) := keep (keep (hx2) (by omega)) (by omega)
  have cy2 : ((w.setCell ⟨bz, oz, none⟩ (.int .u64 s0)).setCell ⟨bz, oz + 1, none⟩ (.int .u64 s1)).cell? ⟨b_y, o_y + 2, none⟩ = some (.int .u64 y2) := keep (keep (hy2) (by omega)) (by omega)
  have cz2 : ((w.setCell ⟨bz, oz, none⟩ (.int .u64 s0)).setCell ⟨bz, oz + 1, none⟩ (.int .u64 s1)).cell? ⟨bz, oz + 2, none⟩ = some (.int .u64 z2) := keep (keep (hz2) (by omega)) (by omega)
  have cx3 : (((w.setCell ⟨bz, oz, none⟩ (.int .u64 s0)).setCell ⟨bz, oz + 1, none⟩ (.int .u64 s1)).setCell ⟨bz, oz + 2, none⟩ (.int .u64 s2)).cell? ⟨bx, ox + 3, none⟩ = some (.int .u64 x3) := keep (keep (keep (hx3) (by omega)) (by omega)) (by omega)
  have cy3 : (((w.setCell ⟨bz, oz, none⟩ (.int .u64 s0)).setCell ⟨bz, oz + 1, none⟩ (.int .u64 s1)).setCell ⟨bz, oz + 2, none⟩ (.int .u64 s2)).cell? ⟨b_y, o_y + 3, none⟩ = some (.int .u64 y3) := keep (keep (keep (hy3) (by omega)) (by omega)) (by omega)
  have cz3 : (((w.setCell ⟨bz, oz, none⟩ (.int .u64 s0)).setCell ⟨bz, oz + 1, none⟩ (.int .u64 s1)).setCell ⟨bz, oz + 2, none⟩ (.int .u64 s2)).cell? ⟨bz, oz + 3, none⟩ = some (.int .u64 z3) := keep (keep (keep (hz3) (by omega)) (by omega)) (by omega)
  have cs0 : ((((w.setCell ⟨bz, oz, none⟩ (.int .u64 s0)).setCell ⟨bz, oz + 1, none⟩ (.int .u64 s1)).setCell ⟨bz, oz + 2, none⟩ (.int .u64 s2)).setCell ⟨bz, oz + 3, none⟩ (.int .u64 s3)).cell? ⟨bz, oz, none⟩ = some (.int .u64 s0) := keep (keep (keep (hit (hz0)) (by omega)) (by omega)) (by omega)
  have cs1 : ((((w.setCell ⟨bz, oz, none⟩ (.int .u64 s0)).setCell ⟨bz, oz + 1, none⟩ (.int .u64 s1)).setCell ⟨bz, oz + 2, none⟩ (.int .u64 s2)).setCell ⟨bz, oz + 3, none⟩ (.int .u64 s3)).cell? ⟨bz, oz + 1, none⟩ = some (.int .u64 s1) := keep (keep (hit (keep (hz1) (by omega))) (by omega)) (by omega)
  have cs2 : ((((w.setCell ⟨bz, oz, none⟩ (.int .u64 s0)).setCell ⟨bz, oz + 1, none⟩ (.int .u64 s1)).setCell ⟨bz, oz + 2, none⟩ (.int .u64 s2)).setCell ⟨bz, oz + 3, none⟩ (.int .u64 s3)).cell? ⟨bz, oz + 2, none⟩ = some (.int .u64 s2) := keep (hit (keep (keep (hz2) (by omega)) (by omega))) (by omega)
  have cs3 : ((((w.setCell ⟨bz, oz, none⟩ (.int .u64 s0)).setCell ⟨bz, oz + 1, none⟩ (.int .u64 s1)).setCell ⟨bz, oz + 2, none⟩ (.int .u64 s2)).setCell ⟨bz, oz + 3, none⟩ (.int .u64 s3)).cell? ⟨bz, oz + 3, none⟩ = some (.int .u64 s3) := hit (keep (keep (keep (hz3) (by omega)) (by omega)) (by omega))
  have cd0 : ((((w.setCell ⟨bz, oz, none⟩ (.int .u64 s0)).setCell ⟨bz, oz + 1, none⟩ (.int .u64 s1)).setCell ⟨bz, oz + 2, none⟩ (.int .u64 s2)).setCell ⟨bz, oz + 3, none⟩ (.int .u64 s3)).cell? ⟨bz, oz, none⟩ = some (.int .u64 s0) := cs0
  have cd1 : (((((w.setCell ⟨bz, oz, none⟩ (.int .u64 s0)).setCell ⟨bz, oz + 1, none⟩ (.int .u64 s1)).setCell ⟨bz, oz + 2, none⟩ (.int .u64 s2)).setCell ⟨bz, oz + 3, none⟩ (.int .u64 s3)).setCell ⟨bz, oz, none⟩ (.int .u64 d0)).cell? ⟨bz, oz + 1, none⟩ = some (.int .u64 s1) := keep (cs1) (by omega)
  have cd2 : ((((((w.setCell ⟨bz, oz, none⟩ (.int .u64 s0)).setCell ⟨bz, oz + 1, none⟩ (.int .u64 s1)).setCell ⟨bz, oz + 2, none⟩ (.int .u64 s2)).setCell ⟨bz, oz + 3, none⟩ (.int .u64 s3)).setCell ⟨bz, oz, none⟩ (.int .u64 d0)).setCell ⟨bz, oz + 1, none⟩ (.int .u64 d1)).cell? ⟨bz, oz + 2, none⟩ = some (.int .u64 s2) := keep (keep (cs2) (by omega)) (by omega)
  have cd3 : (((((((w.setCell ⟨bz, oz, none⟩ (.int .u64 s0)).setCell ⟨bz, oz + 1, none⟩ (.int .u64 s1)).setCell ⟨bz, oz + 2, none⟩ (.int .u64 s2)).setCell ⟨bz, oz + 3, none⟩ (.int .u64 s3)).setCell ⟨bz, oz, none⟩ (.int .u64 d0)).setCell ⟨bz, oz + 1, none⟩ (.int .u64 d1)).setCell ⟨bz, oz + 2, none⟩ (.int .u64 d2)).cell? ⟨bz, oz + 3, none⟩ = some (.int .u64 s3) := keep (keep (keep (cs3) (by omega)) (by omega)) (by omega)
  have Hcx0 := shut cx0; have Hcy0 := shut cy0; have Hcz0 := shut cz0; have Hcs0 := shut cs0; have Hcd0 := shut cd0; clear cx0 cy0 cz0 cs0 cd0
  have Hcx1 := shut cx1; have Hcy1 := shut cy1; have Hcz1 := shut cz1; have Hcs1 := shut cs1; have Hcd1 := shut cd1; clear cx1 cy1 cz1 cs1 cd1
  have Hcx2 := shut cx2; have Hcy2 := shut cy2; have Hcz2 := shut cz2; have Hcs2 := shut cs2; have Hcd2 := shut cd2; clear cx2 cy2 cz2 cs2 cd2
  have Hcx3 := shut cx3; have Hcy3 := shut cy3; have Hcz3 := shut cz3; have Hcs3 := shut cs3; have Hcd3 := shut cd3; clear cx3 cy3 cz3 cs3 cd3
  clear hx0 hy0 hz0 hx1 hy1 hz1 hx2 hy2 hz2 hx3 hy3 hz3
  have N1 := adds_num Ha0.out Ha1.out Ha2.out Ha3.out
  have N2 := subs_nump Hb0.out Hb1.out Hb2.out Hb3.out
  have E1 := add_small N1 (num_pos Hgx0.out Hgx1.out Hgx2.out Hgx3.out) (num_pos Hgy0.out Hgy1.out Hgy2.out Hgy3.out) (num_pos Ha0.out.wd Ha1.out.wd Ha2.out.wd Ha3.out.wd) (num_top Ha0.out.wd Ha1.out.wd Ha2.out.wd Ha3.out.wd) Ha3.out.bt HhX.out HhY.out
  have E2 := add_big N1 N2 (num_pos Hgx0.out Hgx1.out Hgx2.out Hgx3.out) (num_pos Hgy0.out Hgy1.out Hgy2.out Hgy3.out) (num_pos Ha0.out.wd Ha1.out.wd Ha2.out.wd Ha3.out.wd) (num_top Ha0.out.wd Ha1.out.wd Ha2.out.wd Ha3.out.wd) (num_pos Hb0.out.wd Hb1.out.wd Hb2.out.wd Hb3.out.wd) (num_top Hb0.out.wd Hb1.out.wd Hb2.out.wd Hb3.out.wd) Ha3.out.bt Hb3.out.bt HhX.out HhY.out
  have HE := shut (And.intro E1 E2); clear E1 E2 N1 N2
  by_cases hl : num s0 s1 s2 s3 < 21888242871839275222246405745257275088548364400416034343698204186575808495617
  ·
    have HL := shut hl
    have ht : decide (num s0 s1 s2 s3 < 21888242871839275222246405745257275088548364400416034343698204186575808495617) = true := by simpa using hl
    have HT := shut ht
    clear hl ht
    go_enter Try.func31, Try.ntmps31
    go_wp2_with fail
    have o0 := Hcx0.out
    have o1 := Hcy0.out
    have o2 := Hcz0.out
    have o3 := Hr0.out
    have o4 := Hfz0.out
    go_region
    clear o0 o1 o2 o3 o4
    go_wp2_with fail
    have o0 := Hcx1.out
    have o1 := Hcy1.out
    have o2 := Hcz1.out
    have o3 := Hr1.out
    have o4 := Hfz1.out
    go_region
    clear o0 o1 o2 o3 o4
    go_wp2_with fail
    have o0 := Hcx2.out
    have o1 := Hcy2.out
    have o2 := Hcz2.out
    have o3 := Hr2.out
    have o4 := Hfz2.out
    go_region
    clear o0 o1 o2 o3 o4
    go_wp2_with fail
    have o0 := Hcx3.out
    have o1 := Hcy3.out
    have o2 := Hcz3.out
    have o3 := Hr3.out
    have o4 := Hfz3.out
    go_region
    clear o0 o1 o2 o3 o4
    go_wp2_with fail
    refine (small_any bz oz s0 s1 s2 s3 _ Ha0.out.wd Ha1.out.wd Ha2.out.wd Ha3.out.wd (by simp only [World.cell?_drew]; exact Hcs0.out) (by simp only [World.cell?_drew]; exact Hcs1.out) (by simp only [World.cell?_drew]; exact Hcs2.out) (by simp only [World.cell?_drew]; exact Hcs3.out)).mono ?_
    rintro e w' ⟨rfl, rfl⟩
    have ht := HT.out
    go_wp2_with fail
    clear ht
    go_ret
    exact ⟨rfl, s0, s1, s2, s3, ⟨Ha0.out.wd, Ha1.out.wd, Ha2.out.wd, Ha3.out.wd⟩, HE.out.1 HL.out, 4, by with_reducible exact drewn_4 _⟩
  ·
    have HL := shut hl
    have ht : decide (num s0 s1 s2 s3 < 21888242871839275222246405745257275088548364400416034343698204186575808495617) = false := by simpa using hl
    have HT := shut ht
    clear hl ht
    go_enter Try.func31, Try.ntmps31
    go_wp2_with fail
    have o0 := Hcx0.out
    have o1 := Hcy0.out
    have o2 := Hcz0.out
    have o3 := Hr0.out
    have o4 := Hfz0.out
    go_region
    clear o0 o1 o2 o3 o4
    go_wp2_with fail
    have o0 := Hcx1.out
    have o1 := Hcy1.out
    have o2 := Hcz1.out
    have o3 := Hr1.out
    have o4 := Hfz1.out
    go_region
    clear o0 o1 o2 o3 o4
    go_wp2_with fail
    have o0 := Hcx2.out
    have o1 := Hcy2.out
    have o2 := Hcz2.out
    have o3 := Hr2.out
    have o4 := Hfz2.out
    go_region
    clear o0 o1 o2 o3 o4
    go_wp2_with fail
    have o0 := Hcx3.out
    have o1 := Hcy3.out
    have o2 := Hcz3.out
    have o3 := Hr3.out
    have o4 := Hfz3.out
    go_region
    clear o0 o1 o2 o3 o4
    go_wp2_with fail
    refine (small_any bz oz s0 s1 s2 s3 _ Ha0.out.wd Ha1.out.wd Ha2.out.wd Ha3.out.wd (by simp only [World.cell?_drew]; exact Hcs0.out) (by simp only [World.cell?_drew]; exact Hcs1.out) (by simp only [World.cell?_drew]; exact Hcs2.out) (by simp only [World.cell?_drew]; exact Hcs3.out)).mono ?_
    rintro e w' ⟨rfl, rfl⟩
    have ht := HT.out
    go_wp2_with fail
    clear ht
    have o0 := Hcs0.out
    have o1 := Ht0.out
    have o2 := Hfz0.out
    go_region
    clear o0 o1 o2
    go_wp2_with fail
    have o0 := Hcd1.out
    have o1 := Ht1.out
    have o2 := Hfz1.out
    go_region
    clear o0 o1 o2
    go_wp2_with fail
    have o0 := Hcd2.out
    have o1 := Ht2.out
    have o2 := Hfz2.out
    go_region
    clear o0 o1 o2
    go_wp2_with fail
    have o0 := Hcd3.out
    have o1 := Ht3.out
    have o2 := Hfz3.out
    go_region
    clear o0 o1 o2
    go_wp2_with fail
    go_ret
    refine ⟨rfl, d0, d1, d2, d3, ⟨Hb0.out.wd, Hb1.out.wd, Hb2.out.wd, Hb3.out.wd⟩, HE.out.2 HL.out, 8, ?_⟩
    rw [set_again]; with_reducible exact drewn_8 _

theorem eadd (bz oz bx ox b_y o_y X Y R : Nat) (z0 z1 z2 z3 : Int) (w : World) (hR : R = (X + Y) % 21888242871839275222246405745257275088548364400416034343698204186575808495617) (hzx : bz ≠ bx ∨ oz = ox ∨ oz + 4 ≤ ox ∨ ox + 4 ≤ oz) (hzy : bz ≠ b_y ∨ oz = o_y ∨ oz + 4 ≤ o_y ∨ o_y + 4 ≤ oz) (hX : X < 21888242871839275222246405745257275088548364400416034343698204186575808495617) (hY : Y < 21888242871839275222246405745257275088548364400416034343698204186575808495617)
    (hx0 : w.cell? ⟨bx, ox, none⟩ = some (.int .u64 (wd X 0 : Nat))) (hx1 : w.cell? ⟨bx, ox + 1, none⟩ = some (.int .u64 (wd X 1 : Nat))) (hx2 : w.cell? ⟨bx, ox + 2, none⟩ = some (.int .u64 (wd X 2 : Nat))) (hx3 : w.cell? ⟨bx, ox + 3, none⟩ = some (.int .u64 (wd X 3 : Nat)))
    (hy0 : w.cell? ⟨b_y, o_y, none⟩ = some (.int .u64 (wd Y 0 : Nat))) (hy1 : w.cell? ⟨b_y, o_y + 1, none⟩ = some (.int .u64 (wd Y 1 : Nat))) (hy2 : w.cell? ⟨b_y, o_y + 2, none⟩ = some (.int .u64 (wd Y 2 : Nat))) (hy3 : w.cell? ⟨b_y, o_y + 3, none⟩ = some (.int .u64 (wd Y 3 : Nat)))
    (hz0 : w.cell? ⟨bz, oz, none⟩ = some (.int .u64 z0)) (hz1 : w.cell? ⟨bz, oz + 1, none⟩ = some (.int .u64 z1)) (hz2 : w.cell? ⟨bz, oz + 2, none⟩ = some (.int .u64 z2)) (hz3 : w.cell? ⟨bz, oz + 3, none⟩ = some (.int .u64 z3))
    (fz0 : w.frozen? ⟨bz, oz, none⟩ = false) (fz1 : w.frozen? ⟨bz, oz + 1, none⟩ = false) (fz2 : w.frozen? ⟨bz, oz + 2, none⟩ = false) (fz3 : w.frozen? ⟨bz, oz + 3, none⟩ = false) :
    Calls Try.prog 31 #[.pointer (some ⟨bz, oz, none⟩), .pointer (some ⟨bx, ox, none⟩), .pointer (some ⟨b_y, o_y, none⟩)] w fun e w' => e = .returned (.pointer (some ⟨bz, oz, none⟩)) ∧
      ∃ m, w' = ((((w.setCell ⟨bz, oz, none⟩ (.int .u64 (wd R 0 : Nat))).setCell ⟨bz, oz + 1, none⟩ (.int .u64 (wd R 1 : Nat))).setCell ⟨bz, oz + 2, none⟩ (.int .u64 (wd R 2 : Nat))).setCell ⟨bz, oz + 3, none⟩ (.int .u64 (wd R 3 : Nat))).drewN m := by
  have nX : num (wd X 0 : Nat) (wd X 1 : Nat) (wd X 2 : Nat) (wd X 3 : Nat) = (X : Int) := num_wd (by omega)
  have nY : num (wd Y 0 : Nat) (wd Y 1 : Nat) (wd Y 2 : Nat) (wd Y 3 : Nat) = (Y : Int) := num_wd (by omega)
  refine (eadd_t bz oz bx ox b_y o_y z0 z1 z2 z3 _ _ _ _ _ _ _ _ w hzx hzy (by rw [nX]; omega) (by rw [nY]; omega) (wd_nat _ _) (wd_nat _ _) (wd_nat _ _) (wd_nat _ _) (wd_nat _ _) (wd_nat _ _) (wd_nat _ _) (wd_nat _ _) hx0 hx1 hx2 hx3 hy0 hy1 hy2 hy3 hz0 hz1 hz2 hz3 fz0 fz1 fz2 fz3).mono ?_
  rintro e w' ⟨he, d0, d1, d2, d3, ⟨g0, g1, g2, g3⟩, hn, m, hw⟩
  obtain ⟨r0, r1, r2, r3⟩ := wd_num (A := R) g0 g1 g2 g3 (by rw [hn, nX, nY, hR]; omega)
  subst d0 d1 d2 d3
  exact ⟨he, m, hw⟩

set_option maxRecDepth 100000 in
set_option maxHeartbeats 1600000 in
theorem edouble_t (bz oz bx ox : Nat) (z0 z1 z2 z3 x0 x1 x2 x3 : Int) (w : World) (hzx : bz ≠ bx ∨ oz = ox ∨ oz + 4 ≤ ox ∨ ox + 4 ≤ oz) 
    (hX : num x0 x1 x2 x3 < 21888242871839275222246405745257275088548364400416034343698204186575808495617) 
    (gx0 : Wd x0) (gx1 : Wd x1) (gx2 : Wd x2) (gx3 : Wd x3) 
    (hx0 : w.cell? ⟨bx, ox, none⟩ = some (.int .u64 x0)) (hx1 : w.cell? ⟨bx, ox + 1, none⟩ = some (.int .u64 x1)) (hx2 : w.cell? ⟨bx, ox + 2, none⟩ = some (.int .u64 x2)) (hx3 : w.cell? ⟨bx, ox + 3, none⟩ = some (.int .u64 x3)) 
    (hz0 : w.cell? ⟨bz, oz, none⟩ = some (.int .u64 z0)) (hz1 : w.cell? ⟨bz, oz + 1, none⟩ = some (.int .u64 z1)) (hz2 : w.cell? ⟨bz, oz + 2, none⟩ = some (.int .u64 z2)) (hz3 : w.cell? ⟨bz, oz + 3, none⟩ = some (.int .u64 z3))
    (fz0 : w.frozen? ⟨bz, oz, none⟩ = false) (fz1 : w.frozen? ⟨bz, oz + 1, none⟩ = false) (fz2 : w.frozen? ⟨bz, oz + 2, none⟩ = false) (fz3 : w.frozen? ⟨bz, oz + 3, none⟩ = false) :
    Calls Try.prog 33 #[.pointer (some ⟨bz, oz, none⟩), .pointer (some ⟨bx, ox, none⟩)] w fun e w' => e = .returned (.pointer (some ⟨bz, oz, none⟩)) ∧
      ∃ d0 d1 d2 d3 : Int, (Wd d0 ∧ Wd d1 ∧ Wd d2 ∧ Wd d3) ∧ num d0 d1 d2 d3 = (num x0 x1 x2 x3 + num x0 x1 x2 x3) % 21888242871839275222246405745257275088548364400416034343698204186575808495617 ∧ ∃ m, w' = ((((w.setCell ⟨bz, oz, none⟩ (.int .u64 d0)).setCell ⟨bz, oz + 1, none⟩ (.int .u64 d1)).setCell ⟨bz, oz + 2, none⟩ (.int .u64 d2)).setCell ⟨bz, oz + 3, none⟩ (.int .u64 d3)).drewN m := by
  obtain ⟨s0, k0, a0, r0⟩ := add64 gx0 gx0 (c := 0) Bt.zero
  obtain ⟨s1, k1, a1, r1⟩ := add64 gx1 gx1 (c := k0) a0.bt
  obtain ⟨s2, k2, a2, r2⟩ := add64 gx2 gx2 (c := k1) a1.bt
  obtain ⟨s3, k3, a3, r3⟩ := add64 gx3 gx3 (c := k2) a2.bt
  obtain ⟨d0, e0, b0, t0⟩ := sub64 a0.wd (y := 4891460686036598785) ⟨by omega, by omega⟩ (c := 0) Bt.zero
  obtain ⟨d1, e1, b1, t1⟩ := sub64 a1.wd (y := 2896914383306846353) ⟨by omega, by omega⟩ (c := e0) b0.bt
  obtain ⟨d2, e2, b2, t2⟩ := sub64 a2.wd (y := 13281191951274694749) ⟨by omega, by omega⟩ (c := e1) b1.bt
  obtain ⟨d3, e3, b3, t3⟩ := sub64 a3.wd (y := 3486998266802970665) ⟨by omega, by omega⟩ (c := e2) b2.bt
  have Ha0 := shut a0; have Hb0 := shut b0; have Hr0 := shut r0; have Ht0 := shut t0; have Hgx0 := shut gx0; have Hfz0 := shut fz0; clear a0 b0 r0 t0 gx0 fz0
  have Ha1 := shut a1; have Hb1 := shut b1; have Hr1 := shut r1; have Ht1 := shut t1; have Hgx1 := shut gx1; have Hfz1 := shut fz1; clear a1 b1 r1 t1 gx1 fz1
  have Ha2 := shut a2; have Hb2 := shut b2; have Hr2 := shut r2; have Ht2 := shut t2; have Hgx2 := shut gx2; have Hfz2 := shut fz2; clear a2 b2 r2 t2 gx2 fz2
  have Ha3 := shut a3; have Hb3 := shut b3; have Hr3 := shut r3; have Ht3 := shut t3; have Hgx3 := shut gx3; have Hfz3 := shut fz3; clear a3 b3 r3 t3 gx3 fz3
  have HhX := shut hX; clear hX
  have cx0 : w.cell? ⟨bx, ox, none⟩ = some (.int .u64 x0) := hx0
  have cz0 : w.cell? ⟨bz, oz, none⟩ = some (.int .u64 z0) := hz0
  have cx1 : (w.setCell ⟨bz, oz, none⟩ (.int .u64 s0)).cell? ⟨bx, ox + 1, none⟩ = some (.int .u64 x1) := keep (hx1) (by omega)
  have cz1 : (w.setCell ⟨bz, oz, none⟩ (.int .u64 s0)).cell? ⟨bz, oz + 1, none⟩ = some (.int .u64 z1) := keep (hz1) (by omega)
  have cx2 : ((w.setCell ⟨bz, oz, none⟩ (.int .u64 s0)).setCell ⟨bz, oz + 1, none⟩ (.int .u64 s1)).cell? ⟨bx, ox + 2, none⟩ = some (.int .u64 x2) := keep (keep (hx2) (by omega)) (by omega)
  have cz2 : ((w.setCell ⟨bz, oz, none⟩ (.int .u64 s0)).setCell ⟨bz, oz + 1, none⟩ (.int .u64 s1)).cell? ⟨bz, oz + 2, none⟩ = some (.int .u64 z2) := keep (keep (hz2) (by omega)) (by omega)
  have cx3 : (((w.setCell ⟨bz, oz, none⟩ (.int .u64 s0)).setCell ⟨bz, oz + 1, none⟩ (.int .u64 s1)).setCell ⟨bz, oz + 2, none⟩ (.int .u64 s2)).cell? ⟨bx, ox + 3, none⟩ = some (.int .u64 x3) := keep (keep (keep (hx3) (by omega)) (by omega)) (by omega)
  have cz3 : (((w.setCell ⟨bz, oz, none⟩ (.int .u64 s0)).setCell ⟨bz, oz + 1, none⟩ (.int .u64 s1)).setCell ⟨bz, oz + 2, none⟩ (.int .u64 s2)).cell? ⟨bz, oz + 3, none⟩ = some (.int .u64 z3) := keep (keep (keep (hz3) (by omega)) (by omega)) (by omega)
  have cs0 : ((((w.setCell ⟨bz, oz, none⟩ (.int .u64 s0)).setCell ⟨bz, oz + 1, none⟩ (.int .u64 s1)).setCell ⟨bz, oz + 2, none⟩ (.int .u64 s2)).setCell ⟨bz, oz + 3, none⟩ (.int .u64 s3)).cell? ⟨bz, oz, none⟩ = some (.int .u64 s0) := keep (keep (keep (hit (hz0)) (by omega)) (by omega)) (by omega)
  have cs1 : ((((w.setCell ⟨bz, oz, none⟩ (.int .u64 s0)).setCell ⟨bz, oz + 1, none⟩ (.int .u64 s1)).setCell ⟨bz, oz + 2, none⟩ (.int .u64 s2)).setCell ⟨bz, oz + 3, none⟩ (.int .u64 s3)).cell? ⟨bz, oz + 1, none⟩ = some (.int .u64 s1) := keep (keep (hit (keep (hz1) (by omega))) (by omega)) (by omega)
  have cs2 : ((((w.setCell ⟨bz, oz, none⟩ (.int .u64 s0)).setCell ⟨bz, oz + 1, none⟩ (.int .u64 s1)).setCell ⟨bz, oz + 2, none⟩ (.int .u64 s2)).setCell ⟨bz, oz + 3, none⟩ (.int .u64 s3)).cell? ⟨bz, oz + 2, none⟩ = some (.int .u64 s2) := keep (hit (keep (keep (hz2) (by omega)) (by omega))) (by omega)
  have cs3 : ((((w.setCell ⟨bz, oz, none⟩ (.int .u64 s0)).setCell ⟨bz, oz + 1, none⟩ (.int .u64 s1)).setCell ⟨bz, oz + 2, none⟩ (.int .u64 s2)).setCell ⟨bz, oz + 3, none⟩ (.int .u64 s3)).cell? ⟨bz, oz + 3, none⟩ = some (.int .u64 s3) := hit (keep (keep (keep (hz3) (by omega)) (by omega)) (by omega))
  have cd0 : ((((w.setCell ⟨bz, oz, none⟩ (.int .u64 s0)).setCell ⟨bz, oz + 1, none⟩ (.int .u64 s1)).setCell ⟨bz, oz + 2, none⟩ (.int .u64 s2)).setCell ⟨bz, oz + 3, none⟩ (.int .u64 s3)).cell? ⟨bz, oz, none⟩ = some (.int .u64 s0) := cs0
  have cd1 : (((((w.setCell ⟨bz, oz, none⟩ (.int .u64 s0)).setCell ⟨bz, oz + 1, none⟩ (.int .u64 s1)).setCell ⟨bz, oz + 2, none⟩ (.int .u64 s2)).setCell ⟨bz, oz + 3, none⟩ (.int .u64 s3)).setCell ⟨bz, oz, none⟩ (.int .u64 d0)).cell? ⟨bz, oz + 1, none⟩ = some (.int .u64 s1) := keep (cs1) (by omega)
  have cd2 : ((((((w.setCell ⟨bz, oz, none⟩ (.int .u64 s0)).setCell ⟨bz, oz + 1, none⟩ (.int .u64 s1)).setCell ⟨bz, oz + 2, none⟩ (.int .u64 s2)).setCell ⟨bz, oz + 3, none⟩ (.int .u64 s3)).setCell ⟨bz, oz, none⟩ (.int .u64 d0)).setCell ⟨bz, oz + 1, none⟩ (.int .u64 d1)).cell? ⟨bz, oz + 2, none⟩ = some (.int .u64 s2) := keep (keep (cs2) (by omega)) (by omega)
  have cd3 : (((((((w.setCell ⟨bz, oz, none⟩ (.int .u64 s0)).setCell ⟨bz, oz + 1, none⟩ (.int .u64 s1)).setCell ⟨bz, oz + 2, none⟩ (.int .u64 s2)).setCell ⟨bz, oz + 3, none⟩ (.int .u64 s3)).setCell ⟨bz, oz, none⟩ (.int .u64 d0)).setCell ⟨bz, oz + 1, none⟩ (.int .u64 d1)).setCell ⟨bz, oz + 2, none⟩ (.int .u64 d2)).cell? ⟨bz, oz + 3, none⟩ = some (.int .u64 s3) := keep (keep (keep (cs3) (by omega)) (by omega)) (by omega)
  have Hcx0 := shut cx0; have Hcz0 := shut cz0; have Hcs0 := shut cs0; have Hcd0 := shut cd0; clear cx0 cz0 cs0 cd0
  have Hcx1 := shut cx1; have Hcz1 := shut cz1; have Hcs1 := shut cs1; have Hcd1 := shut cd1; clear cx1 cz1 cs1 cd1
  have Hcx2 := shut cx2; have Hcz2 := shut cz2; have Hcs2 := shut cs2; have Hcd2 := shut cd2; clear cx2 cz2 cs2 cd2
  have Hcx3 := shut cx3; have Hcz3 := shut cz3; have Hcs3 := shut cs3; have Hcd3 := shut cd3; clear cx3 cz3 cs3 cd3
  clear hx0 hz0 hx1 hz1 hx2 hz2 hx3 hz3
  have N1 := adds_num Ha0.out Ha1.out Ha2.out Ha3.out
  have N2 := subs_nump Hb0.out Hb1.out Hb2.out Hb3.out
  have E1 := add_small N1 (num_pos Hgx0.out Hgx1.out Hgx2.out Hgx3.out) (num_pos Hgx0.out Hgx1.out Hgx2.out Hgx3.out) (num_pos Ha0.out.wd Ha1.out.wd Ha2.out.wd Ha3.out.wd) (num_top Ha0.out.wd Ha1.out.wd Ha2.out.wd Ha3.out.wd) Ha3.out.bt HhX.out HhX.out
  have E2 := add_big N1 N2 (num_pos Hgx0.out Hgx1.out Hgx2.out Hgx3.out) (num_pos Hgx0.out Hgx1.out Hgx2.out Hgx3.out) (num_pos Ha0.out.wd Ha1.out.wd Ha2.out.wd Ha3.out.wd) (num_top Ha0.out.wd Ha1.out.wd Ha2.out.wd Ha3.out.wd) (num_pos Hb0.out.wd Hb1.out.wd Hb2.out.wd Hb3.out.wd) (num_top Hb0.out.wd Hb1.out.wd Hb2.out.wd Hb3.out.wd) Ha3.out.bt Hb3.out.bt HhX.out HhX.out
  have HE := shut (And.intro E1 E2); clear E1 E2 N1 N2
  by_cases hl : num s0 s1 s2 s3 < 21888242871839275222246405745257275088548364400416034343698204186575808495617
  ·
    have HL := shut hl
    have ht : decide (num s0 s1 s2 s3 < 21888242871839275222246405745257275088548364400416034343698204186575808495617) = true := by simpa using hl
    have HT := shut ht
    clear hl ht
    go_enter Try.func33, Try.ntmps33
    go_wp2_with fail
    have o0 := Hcx0.out
    have o1 := Hcz0.out
    have o2 := Hr0.out
    have o3 := Hfz0.out
    go_region
    clear o0 o1 o2 o3
    go_wp2_with fail
    have o0 := Hcx1.out
    have o1 := Hcz1.out
    have o2 := Hr1.out
    have o3 := Hfz1.out
    go_region
    clear o0 o1 o2 o3
    go_wp2_with fail
    have o0 := Hcx2.out
    have o1 := Hcz2.out
    have o2 := Hr2.out
    have o3 := Hfz2.out
    go_region
    clear o0 o1 o2 o3
    go_wp2_with fail
    have o0 := Hcx3.out
    have o1 := Hcz3.out
    have o2 := Hr3.out
    have o3 := Hfz3.out
    go_region
    clear o0 o1 o2 o3
    go_wp2_with fail
    refine (small_any bz oz s0 s1 s2 s3 _ Ha0.out.wd Ha1.out.wd Ha2.out.wd Ha3.out.wd (by simp only [World.cell?_drew]; exact Hcs0.out) (by simp only [World.cell?_drew]; exact Hcs1.out) (by simp only [World.cell?_drew]; exact Hcs2.out) (by simp only [World.cell?_drew]; exact Hcs3.out)).mono ?_
    rintro e w' ⟨rfl, rfl⟩
    have ht := HT.out
    go_wp2_with fail
    clear ht
    go_ret
    exact ⟨rfl, s0, s1, s2, s3, ⟨Ha0.out.wd, Ha1.out.wd, Ha2.out.wd, Ha3.out.wd⟩, HE.out.1 HL.out, 4, by with_reducible exact drewn_4 _⟩
  ·
    have HL := shut hl
    have ht : decide (num s0 s1 s2 s3 < 21888242871839275222246405745257275088548364400416034343698204186575808495617) = false := by simpa using hl
    have HT := shut ht
    clear hl ht
    go_enter Try.func33, Try.ntmps33
    go_wp2_with fail
    have o0 := Hcx0.out
    have o1 := Hcz0.out
    have o2 := Hr0.out
    have o3 := Hfz0.out
    go_region
    clear o0 o1 o2 o3
    go_wp2_with fail
    have o0 := Hcx1.out
    have o1 := Hcz1.out
    have o2 := Hr1.out
    have o3 := Hfz1.out
    go_region
    clear o0 o1 o2 o3
    go_wp2_with fail
    have o0 := Hcx2.out
    have o1 := Hcz2.out
    have o2 := Hr2.out
    have o3 := Hfz2.out
    go_region
    clear o0 o1 o2 o3
    go_wp2_with fail
    have o0 := Hcx3.out
    have o1 := Hcz3.out
    have o2 := Hr3.out
    have o3 := Hfz3.out
    go_region
    clear o0 o1 o2 o3
    go_wp2_with fail
    refine (small_any bz oz s0 s1 s2 s3 _ Ha0.out.wd Ha1.out.wd Ha2.out.wd Ha3.out.wd (by simp only [World.cell?_drew]; exact Hcs0.out) (by simp only [World.cell?_drew]; exact Hcs1.out) (by simp only [World.cell?_drew]; exact Hcs2.out) (by simp only [World.cell?_drew]; exact Hcs3.out)).mono ?_
    rintro e w' ⟨rfl, rfl⟩
    have ht := HT.out
    go_wp2_with fail
    clear ht
    have o0 := Hcs0.out
    have o1 := Ht0.out
    have o2 := Hfz0.out
    go_region
    clear o0 o1 o2
    go_wp2_with fail
    have o0 := Hcd1.out
    have o1 := Ht1.out
    have o2 := Hfz1.out
    go_region
    clear o0 o1 o2
    go_wp2_with fail
    have o0 := Hcd2.out
    have o1 := Ht2.out
    have o2 := Hfz2.out
    go_region
    clear o0 o1 o2
    go_wp2_with fail
    have o0 := Hcd3.out
    have o1 := Ht3.out
    have o2 := Hfz3.out
    go_region
    clear o0 o1 o2
    go_wp2_with fail
    go_ret
    refine ⟨rfl, d0, d1, d2, d3, ⟨Hb0.out.wd, Hb1.out.wd, Hb2.out.wd, Hb3.out.wd⟩, HE.out.2 HL.out, 8, ?_⟩
    rw [set_again]; with_reducible exact drewn_8 _

theorem edouble (bz oz bx ox X R : Nat) (z0 z1 z2 z3 : Int) (w : World) (hR : R = (X + X) % 21888242871839275222246405745257275088548364400416034343698204186575808495617) (hzx : bz ≠ bx ∨ oz = ox ∨ oz + 4 ≤ ox ∨ ox + 4 ≤ oz) (hX : X < 21888242871839275222246405745257275088548364400416034343698204186575808495617)
    (hx0 : w.cell? ⟨bx, ox, none⟩ = some (.int .u64 (wd X 0 : Nat))) (hx1 : w.cell? ⟨bx, ox + 1, none⟩ = some (.int .u64 (wd X 1 : Nat))) (hx2 : w.cell? ⟨bx, ox + 2, none⟩ = some (.int .u64 (wd X 2 : Nat))) (hx3 : w.cell? ⟨bx, ox + 3, none⟩ = some (.int .u64 (wd X 3 : Nat)))
    (hz0 : w.cell? ⟨bz, oz, none⟩ = some (.int .u64 z0)) (hz1 : w.cell? ⟨bz, oz + 1, none⟩ = some (.int .u64 z1)) (hz2 : w.cell? ⟨bz, oz + 2, none⟩ = some (.int .u64 z2)) (hz3 : w.cell? ⟨bz, oz + 3, none⟩ = some (.int .u64 z3))
    (fz0 : w.frozen? ⟨bz, oz, none⟩ = false) (fz1 : w.frozen? ⟨bz, oz + 1, none⟩ = false) (fz2 : w.frozen? ⟨bz, oz + 2, none⟩ = false) (fz3 : w.frozen? ⟨bz, oz + 3, none⟩ = false) :
    Calls Try.prog 33 #[.pointer (some ⟨bz, oz, none⟩), .pointer (some ⟨bx, ox, none⟩)] w fun e w' => e = .returned (.pointer (some ⟨bz, oz, none⟩)) ∧
      ∃ m, w' = ((((w.setCell ⟨bz, oz, none⟩ (.int .u64 (wd R 0 : Nat))).setCell ⟨bz, oz + 1, none⟩ (.int .u64 (wd R 1 : Nat))).setCell ⟨bz, oz + 2, none⟩ (.int .u64 (wd R 2 : Nat))).setCell ⟨bz, oz + 3, none⟩ (.int .u64 (wd R 3 : Nat))).drewN m := by
  have nX : num (wd X 0 : Nat) (wd X 1 : Nat) (wd X 2 : Nat) (wd X 3 : Nat) = (X : Int) := num_wd (by omega)
  refine (edouble_t bz oz bx ox z0 z1 z2 z3 _ _ _ _ w hzx (by rw [nX]; omega) (wd_nat _ _) (wd_nat _ _) (wd_nat _ _) (wd_nat _ _) hx0 hx1 hx2 hx3 hz0 hz1 hz2 hz3 fz0 fz1 fz2 fz3).mono ?_
  rintro e w' ⟨he, d0, d1, d2, d3, ⟨g0, g1, g2, g3⟩, hn, m, hw⟩
  obtain ⟨r0, r1, r2, r3⟩ := wd_num (A := R) g0 g1 g2 g3 (by rw [hn, nX, hR]; omega)
  subst d0 d1 d2 d3
  exact ⟨he, m, hw⟩

set_option maxRecDepth 100000 in
set_option maxHeartbeats 1600000 in
theorem esub_t (bz oz bx ox b_y o_y : Nat) (z0 z1 z2 z3 x0 x1 x2 x3 y0 y1 y2 y3 : Int) (w : World) (hzx : bz ≠ bx ∨ oz = ox ∨ oz + 4 ≤ ox ∨ ox + 4 ≤ oz) (hzy : bz ≠ b_y ∨ oz = o_y ∨ oz + 4 ≤ o_y ∨ o_y + 4 ≤ oz)
    (hX : num x0 x1 x2 x3 < 21888242871839275222246405745257275088548364400416034343698204186575808495617) (hY : num y0 y1 y2 y3 < 21888242871839275222246405745257275088548364400416034343698204186575808495617)
    (gx0 : Wd x0) (gx1 : Wd x1) (gx2 : Wd x2) (gx3 : Wd x3) (gy0 : Wd y0) (gy1 : Wd y1) (gy2 : Wd y2) (gy3 : Wd y3)
    (hx0 : w.cell? ⟨bx, ox, none⟩ = some (.int .u64 x0)) (hx1 : w.cell? ⟨bx, ox + 1, none⟩ = some (.int .u64 x1)) (hx2 : w.cell? ⟨bx, ox + 2, none⟩ = some (.int .u64 x2)) (hx3 : w.cell? ⟨bx, ox + 3, none⟩ = some (.int .u64 x3)) (hy0 : w.cell? ⟨b_y, o_y, none⟩ = some (.int .u64 y0)) (hy1 : w.cell? ⟨b_y, o_y + 1, none⟩ = some (.int .u64 y1)) (hy2 : w.cell? ⟨b_y, o_y + 2, none⟩ = some (.int .u64 y2)) (hy3 : w.cell? ⟨b_y, o_y + 3, none⟩ = some (.int .u64 y3))
    (hz0 : w.cell? ⟨bz, oz, none⟩ = some (.int .u64 z0)) (hz1 : w.cell? ⟨bz, oz + 1, none⟩ = some (.int .u64 z1)) (hz2 : w.cell? ⟨bz, oz + 2, none⟩ = some (.int .u64 z2)) (hz3 : w.cell? ⟨bz, oz + 3, none⟩ = some (.int .u64 z3))
    (fz0 : w.frozen? ⟨bz, oz, none⟩ = false) (fz1 : w.frozen? ⟨bz, oz + 1, none⟩ = false) (fz2 : w.frozen? ⟨bz, oz + 2, none⟩ = false) (fz3 : w.frozen? ⟨bz, oz + 3, none⟩ = false) :
    Calls Try.prog 32 #[.pointer (some ⟨bz, oz, none⟩), .pointer (some ⟨bx, ox, none⟩), .pointer (some ⟨b_y, o_y, none⟩)] w fun e w' => e = .returned (.pointer (some ⟨bz, oz, none⟩)) ∧
      ∃ d0 d1 d2 d3 : Int, (Wd d0 ∧ Wd d1 ∧ Wd d2 ∧ Wd d3) ∧ num d0 d1 d2 d3 = (num x0 x1 x2 x3 + 21888242871839275222246405745257275088548364400416034343698204186575808495617 - num y0 y1 y2 y3) % 21888242871839275222246405745257275088548364400416034343698204186575808495617 ∧ ∃ m, w' = ((((w.setCell ⟨bz, oz, none⟩ (.int .u64 d0)).setCell ⟨bz, oz + 1, none⟩ (.int .u64 d1)).setCell ⟨bz, oz + 2, none⟩ (.int .u64 d2)).setCell ⟨bz, oz + 3, none⟩ (.int .u64 d3)).drewN m := by
  obtain ⟨s0, k0, a0, r0⟩ := sub64 gx0 gy0 (c := 0) Bt.zero
  obtain ⟨s1, k1, a1, r1⟩ := sub64 gx1 gy1 (c := k0) a0.bt
  obtain ⟨s2, k2, a2, r2⟩ := sub64 gx2 gy2 (c := k1) a1.bt
  obtain ⟨s3, k3, a3, r3⟩ := sub64 gx3 gy3 (c := k2) a2.bt
  obtain ⟨d0, e0, b0, t0⟩ := add64 a0.wd (y := 4891460686036598785) ⟨by omega, by omega⟩ (c := 0) Bt.zero
  obtain ⟨d1, e1, b1, t1⟩ := add64 a1.wd (y := 2896914383306846353) ⟨by omega, by omega⟩ (c := e0) b0.bt
  obtain ⟨d2, e2, b2, t2⟩ := add64 a2.wd (y := 13281191951274694749) ⟨by omega, by omega⟩ (c := e1) b1.bt
  obtain ⟨d3, e3, b3, t3⟩ := add64 a3.wd (y := 3486998266802970665) ⟨by omega, by omega⟩ (c := e2) b2.bt
  have Ha0 := shut a0; have Hb0 := shut b0; have Hr0 := shut r0; have Ht0 := shut t0; have Hgx0 := shut gx0; have Hgy0 := shut gy0; have Hfz0 := shut fz0; clear a0 b0 r0 t0 gx0 gy0 fz0
  have Ha1 := shut a1; have Hb1 := shut b1; have Hr1 := shut r1; have Ht1 := shut t1; have Hgx1 := shut gx1; have Hgy1 := shut gy1; have Hfz1 := shut fz1; clear a1 b1 r1 t1 gx1 gy1 fz1
  have Ha2 := shut a2; have Hb2 := shut b2; have Hr2 := shut r2; have Ht2 := shut t2; have Hgx2 := shut gx2; have Hgy2 := shut gy2; have Hfz2 := shut fz2; clear a2 b2 r2 t2 gx2 gy2 fz2
  have Ha3 := shut a3; have Hb3 := shut b3; have Hr3 := shut r3; have Ht3 := shut t3; have Hgx3 := shut gx3; have Hgy3 := shut gy3; have Hfz3 := shut fz3; clear a3 b3 r3 t3 gx3 gy3 fz3
  have HhX := shut hX; have HhY := shut hY; clear hX hY
  have cx0 : w.cell? ⟨bx, ox, none⟩ = some (.int .u64 x0) := hx0
  have cy0 : w.cell? ⟨b_y, o_y, none⟩ = some (.int .u64 y0) := hy0
  have cz0 : w.cell? ⟨bz, oz, none⟩ = some (.int .u64 z0) := hz0
  have cx1 : (w.setCell ⟨bz, oz, none⟩ (.int .u64 s0)).cell? ⟨bx, ox + 1, none⟩ = some (.int .u64 x1) := keep (hx1) (by omega)
  have cy1 : (w.setCell ⟨bz, oz, none⟩ (.int .u64 s0)).cell? ⟨b_y, o_y + 1, none⟩ = some (.int .u64 y1) := keep (hy1) (by omega)
  have cz1 : (w.setCell ⟨bz, oz, none⟩ (.int .u64 s0)).cell? ⟨bz, oz + 1, none⟩ = some (.int .u64 z1) := keep (hz1) (by omega)
  have cx2 : ((w.setCell ⟨bz, oz, none⟩ (.int .u64 s0)).setCell ⟨bz, oz + 1, none⟩ (.int .u64 s1)).cell? ⟨bx, ox + 2, none⟩ = some (.int .u64 x2) := keep (keep (hx2) (by omega)) (by omega)
  have cy2 : ((w.setCell ⟨bz, oz, none⟩ (.int .u64 s0)).setCell ⟨bz, oz + 1, none⟩ (.int .u64 s1)).cell? ⟨b_y, o_y + 2, none⟩ = some (.int .u64 y2) := keep (keep (hy2) (by omega)) (by omega)
  have cz2 : ((w.setCell ⟨bz, oz, none⟩ (.int .u64 s0)).setCell ⟨bz, oz + 1, none⟩ (.int .u64 s1)).cell? ⟨bz, oz + 2, none⟩ = some (.int .u64 z2) := keep (keep (hz2) (by omega)) (by omega)
  have cx3 : (((w.setCell ⟨bz, oz, none⟩ (.int .u64 s0)).setCell ⟨bz, oz + 1, none⟩ (.int .u64 s1)).setCell ⟨bz, oz + 2, none⟩ (.int .u64 s2)).cell? ⟨bx, ox + 3, none⟩ = some (.int .u64 x3) := keep (keep (keep (hx3) (by omega)) (by omega)) (by omega)
  have cy3 : (((w.setCell ⟨bz, oz, none⟩ (.int .u64 s0)).setCell ⟨bz, oz + 1, none⟩ (.int .u64 s1)).setCell ⟨bz, oz + 2, none⟩ (.int .u64 s2)).cell? ⟨b_y, o_y + 3, none⟩ = some (.int .u64 y3) := keep (keep (keep (hy3) (by omega)) (by omega)) (by omega)
  have cz3 : (((w.setCell ⟨bz, oz, none⟩ (.int .u64 s0)).setCell ⟨bz, oz + 1, none⟩ (.int .u64 s1)).setCell ⟨bz, oz + 2, none⟩ (.int .u64 s2)).cell? ⟨bz, oz + 3, none⟩ = some (.int .u64 z3) := keep (keep (keep (hz3) (by omega)) (by omega)) (by omega)
  have cs0 : ((((w.setCell ⟨bz, oz, none⟩ (.int .u64 s0)).setCell ⟨bz, oz + 1, none⟩ (.int .u64 s1)).setCell ⟨bz, oz + 2, none⟩ (.int .u64 s2)).setCell ⟨bz, oz + 3, none⟩ (.int .u64 s3)).cell? ⟨bz, oz, none⟩ = some (.int .u64 s0) := keep (keep (keep (hit (hz0)) (by omega)) (by omega)) (by omega)
  have cs1 : ((((w.setCell ⟨bz, oz, none⟩ (.int .u64 s0)).setCell ⟨bz, oz + 1, none⟩ (.int .u64 s1)).setCell ⟨bz, oz + 2, none⟩ (.int .u64 s2)).setCell ⟨bz, oz + 3, none⟩ (.int .u64 s3)).cell? ⟨bz, oz + 1, none⟩ = some (.int .u64 s1) := keep (keep (hit (keep (hz1) (by omega))) (by omega)) (by omega)
  have cs2 : ((((w.setCell ⟨bz, oz, none⟩ (.int .u64 s0)).setCell ⟨bz, oz + 1, none⟩ (.int .u64 s1)).setCell ⟨bz, oz + 2, none⟩ (.int .u64 s2)).setCell ⟨bz, oz + 3, none⟩ (.int .u64 s3)).cell? ⟨bz, oz + 2, none⟩ = some (.int .u64 s2) := keep (hit (keep (keep (hz2) (by omega)) (by omega))) (by omega)
  have cs3 : ((((w.setCell ⟨bz, oz, none⟩ (.int .u64 s0)).setCell ⟨bz, oz + 1, none⟩ (.int .u64 s1)).setCell ⟨bz, oz + 2, none⟩ (.int .u64 s2)).setCell ⟨bz, oz + 3, none⟩ (.int .u64 s3)).cell? ⟨bz, oz + 3, none⟩ = some (.int .u64 s3) := hit (keep (keep (keep (hz3) (by omega)) (by omega)) (by omega))
  have cd0 : ((((w.setCell ⟨bz, oz, none⟩ (.int .u64 s0)).setCell ⟨bz, oz + 1, none⟩ (.int .u64 s1)).setCell ⟨bz, oz + 2, none⟩ (.int .u64 s2)).setCell ⟨bz, oz + 3, none⟩ (.int .u64 s3)).cell? ⟨bz, oz, none⟩ = some (.int .u64 s0) := cs0
  have cd1 : (((((w.setCell ⟨bz, oz, none⟩ (.int .u64 s0)).setCell ⟨bz, oz + 1, none⟩ (.int .u64 s1)).setCell ⟨bz, oz + 2, none⟩ (.int .u64 s2)).setCell ⟨bz, oz + 3, none⟩ (.int .u64 s3)).setCell ⟨bz, oz, none⟩ (.int .u64 d0)).cell? ⟨bz, oz + 1, none⟩ = some (.int .u64 s1) := keep (cs1) (by omega)
  have cd2 : ((((((w.setCell ⟨bz, oz, none⟩ (.int .u64 s0)).setCell ⟨bz, oz + 1, none⟩ (.int .u64 s1)).setCell ⟨bz, oz + 2, none⟩ (.int .u64 s2)).setCell ⟨bz, oz + 3, none⟩ (.int .u64 s3)).setCell ⟨bz, oz, none⟩ (.int .u64 d0)).setCell ⟨bz, oz + 1, none⟩ (.int .u64 d1)).cell? ⟨bz, oz + 2, none⟩ = some (.int .u64 s2) := keep (keep (cs2) (by omega)) (by omega)
  have cd3 : (((((((w.setCell ⟨bz, oz, none⟩ (.int .u64 s0)).setCell ⟨bz, oz + 1, none⟩ (.int .u64 s1)).setCell ⟨bz, oz + 2, none⟩ (.int .u64 s2)).setCell ⟨bz, oz + 3, none⟩ (.int .u64 s3)).setCell ⟨bz, oz, none⟩ (.int .u64 d0)).setCell ⟨bz, oz + 1, none⟩ (.int .u64 d1)).setCell ⟨bz, oz + 2, none⟩ (.int .u64 d2)).cell? ⟨bz, oz + 3, none⟩ = some (.int .u64 s3) := keep (keep (keep (cs3) (by omega)) (by omega)) (by omega)
  have Hcx0 := shut cx0; have Hcy0 := shut cy0; have Hcz0 := shut cz0; have Hcs0 := shut cs0; have Hcd0 := shut cd0; clear cx0 cy0 cz0 cs0 cd0
  have Hcx1 := shut cx1; have Hcy1 := shut cy1; have Hcz1 := shut cz1; have Hcs1 := shut cs1; have Hcd1 := shut cd1; clear cx1 cy1 cz1 cs1 cd1
  have Hcx2 := shut cx2; have Hcy2 := shut cy2; have Hcz2 := shut cz2; have Hcs2 := shut cs2; have Hcd2 := shut cd2; clear cx2 cy2 cz2 cs2 cd2
  have Hcx3 := shut cx3; have Hcy3 := shut cy3; have Hcz3 := shut cz3; have Hcs3 := shut cs3; have Hcd3 := shut cd3; clear cx3 cy3 cz3 cs3 cd3
  clear hx0 hy0 hz0 hx1 hy1 hz1 hx2 hy2 hz2 hx3 hy3 hz3
  have N1 := subs_num Ha0.out Ha1.out Ha2.out Ha3.out
  have N2 := adds_nump Hb0.out Hb1.out Hb2.out Hb3.out
  have E1 := sub_small N1 (num_pos Hgx0.out Hgx1.out Hgx2.out Hgx3.out) (num_pos Hgy0.out Hgy1.out Hgy2.out Hgy3.out) (num_pos Ha0.out.wd Ha1.out.wd Ha2.out.wd Ha3.out.wd) (num_top Ha0.out.wd Ha1.out.wd Ha2.out.wd Ha3.out.wd) Ha3.out.bt HhX.out HhY.out
  have E2 := sub_big N1 N2 (num_pos Hgx0.out Hgx1.out Hgx2.out Hgx3.out) (num_pos Hgy0.out Hgy1.out Hgy2.out Hgy3.out) (num_pos Ha0.out.wd Ha1.out.wd Ha2.out.wd Ha3.out.wd) (num_top Ha0.out.wd Ha1.out.wd Ha2.out.wd Ha3.out.wd) (num_pos Hb0.out.wd Hb1.out.wd Hb2.out.wd Hb3.out.wd) (num_top Hb0.out.wd Hb1.out.wd Hb2.out.wd Hb3.out.wd) Ha3.out.bt Hb3.out.bt HhX.out HhY.out
  have HE := shut (And.intro E1 E2); clear E1 E2 N1 N2
  by_cases hl : k3 = 0
  ·
    have HL := shut hl
    have ht : (k3 != 0) = false := by simpa using hl
    have HT := shut ht
    clear hl ht
    go_enter Try.func32, Try.ntmps32
    go_wp2_with fail
    have o0 := Hcx0.out
    have o1 := Hcy0.out
    have o2 := Hcz0.out
    have o3 := Hr0.out
    have o4 := Hfz0.out
    go_region
    clear o0 o1 o2 o3 o4
    go_wp2_with fail
    have o0 := Hcx1.out
    have o1 := Hcy1.out
    have o2 := Hcz1.out
    have o3 := Hr1.out
    have o4 := Hfz1.out
    go_region
    clear o0 o1 o2 o3 o4
    go_wp2_with fail
    have o0 := Hcx2.out
    have o1 := Hcy2.out
    have o2 := Hcz2.out
    have o3 := Hr2.out
    have o4 := Hfz2.out
    go_region
    clear o0 o1 o2 o3 o4
    go_wp2_with fail
    have o0 := Hcx3.out
    have o1 := Hcy3.out
    have o2 := Hcz3.out
    have o3 := Hr3.out
    have o4 := Hfz3.out
    go_region
    clear o0 o1 o2 o3 o4
    have ht := HT.out
    go_wp2_with fail
    clear ht
    go_ret
    exact ⟨rfl, s0, s1, s2, s3, ⟨Ha0.out.wd, Ha1.out.wd, Ha2.out.wd, Ha3.out.wd⟩, HE.out.1 HL.out, 4, by with_reducible exact drewn_4 _⟩
  ·
    have HL := shut hl
    have ht : (k3 != 0) = true := by simpa using hl
    have HT := shut ht
    clear hl ht
    go_enter Try.func32, Try.ntmps32
    go_wp2_with fail
    have o0 := Hcx0.out
    have o1 := Hcy0.out
    have o2 := Hcz0.out
    have o3 := Hr0.out
    have o4 := Hfz0.out
    go_region
    clear o0 o1 o2 o3 o4
    go_wp2_with fail
    have o0 := Hcx1.out
    have o1 := Hcy1.out
    have o2 := Hcz1.out
    have o3 := Hr1.out
    have o4 := Hfz1.out
    go_region
    clear o0 o1 o2 o3 o4
    go_wp2_with fail
    have o0 := Hcx2.out
    have o1 := Hcy2.out
    have o2 := Hcz2.out
    have o3 := Hr2.out
    have o4 := Hfz2.out
    go_region
    clear o0 o1 o2 o3 o4
    go_wp2_with fail
    have o0 := Hcx3.out
    have o1 := Hcy3.out
    have o2 := Hcz3.out
    have o3 := Hr3.out
    have o4 := Hfz3.out
    go_region
    clear o0 o1 o2 o3 o4
    have ht := HT.out
    go_wp2_with fail
    clear ht
    have o0 := Hcs0.out
    have o1 := Ht0.out
    have o2 := Hfz0.out
    go_region
    clear o0 o1 o2
    go_wp2_with fail
    have o0 := Hcd1.out
    have o1 := Ht1.out
    have o2 := Hfz1.out
    go_region
    clear o0 o1 o2
    go_wp2_with fail
    have o0 := Hcd2.out
    have o1 := Ht2.out
    have o2 := Hfz2.out
    go_region
    clear o0 o1 o2
    go_wp2_with fail
    have o0 := Hcd3.out
    have o1 := Ht3.out
    have o2 := Hfz3.out
    go_region
    clear o0 o1 o2
    go_wp2_with fail
    go_ret
    refine ⟨rfl, d0, d1, d2, d3, ⟨Hb0.out.wd, Hb1.out.wd, Hb2.out.wd, Hb3.out.wd⟩, HE.out.2 HL.out, 8, ?_⟩
    rw [set_again]; with_reducible exact drewn_8 _

theorem esub (bz oz bx ox b_y o_y X Y R : Nat) (z0 z1 z2 z3 : Int) (w : World) (hR : R = subm X Y) (hzx : bz ≠ bx ∨ oz = ox ∨ oz + 4 ≤ ox ∨ ox + 4 ≤ oz) (hzy : bz ≠ b_y ∨ oz = o_y ∨ oz + 4 ≤ o_y ∨ o_y + 4 ≤ oz) (hX : X < 21888242871839275222246405745257275088548364400416034343698204186575808495617) (hY : Y < 21888242871839275222246405745257275088548364400416034343698204186575808495617)
    (hx0 : w.cell? ⟨bx, ox, none⟩ = some (.int .u64 (wd X 0 : Nat))) (hx1 : w.cell? ⟨bx, ox + 1, none⟩ = some (.int .u64 (wd X 1 : Nat))) (hx2 : w.cell? ⟨bx, ox + 2, none⟩ = some (.int .u64 (wd X 2 : Nat))) (hx3 : w.cell? ⟨bx, ox + 3, none⟩ = some (.int .u64 (wd X 3 : Nat)))
    (hy0 : w.cell? ⟨b_y, o_y, none⟩ = some (.int .u64 (wd Y 0 : Nat))) (hy1 : w.cell? ⟨b_y, o_y + 1, none⟩ = some (.int .u64 (wd Y 1 : Nat))) (hy2 : w.cell? ⟨b_y, o_y + 2, none⟩ = some (.int .u64 (wd Y 2 : Nat))) (hy3 : w.cell? ⟨b_y, o_y + 3, none⟩ = some (.int .u64 (wd Y 3 : Nat)))
    (hz0 : w.cell? ⟨bz, oz, none⟩ = some (.int .u64 z0)) (hz1 : w.cell? ⟨bz, oz + 1, none⟩ = some (.int .u64 z1)) (hz2 : w.cell? ⟨bz, oz + 2, none⟩ = some (.int .u64 z2)) (hz3 : w.cell? ⟨bz, oz + 3, none⟩ = some (.int .u64 z3))
    (fz0 : w.frozen? ⟨bz, oz, none⟩ = false) (fz1 : w.frozen? ⟨bz, oz + 1, none⟩ = false) (fz2 : w.frozen? ⟨bz, oz + 2, none⟩ = false) (fz3 : w.frozen? ⟨bz, oz + 3, none⟩ = false) :
    Calls Try.prog 32 #[.pointer (some ⟨bz, oz, none⟩), .pointer (some ⟨bx, ox, none⟩), .pointer (some ⟨b_y, o_y, none⟩)] w fun e w' => e = .returned (.pointer (some ⟨bz, oz, none⟩)) ∧
      ∃ m, w' = ((((w.setCell ⟨bz, oz, none⟩ (.int .u64 (wd R 0 : Nat))).setCell ⟨bz, oz + 1, none⟩ (.int .u64 (wd R 1 : Nat))).setCell ⟨bz, oz + 2, none⟩ (.int .u64 (wd R 2 : Nat))).setCell ⟨bz, oz + 3, none⟩ (.int .u64 (wd R 3 : Nat))).drewN m := by
  have nX : num (wd X 0 : Nat) (wd X 1 : Nat) (wd X 2 : Nat) (wd X 3 : Nat) = (X : Int) := num_wd (by omega)
  have nY : num (wd Y 0 : Nat) (wd Y 1 : Nat) (wd Y 2 : Nat) (wd Y 3 : Nat) = (Y : Int) := num_wd (by omega)
  refine (esub_t bz oz bx ox b_y o_y z0 z1 z2 z3 _ _ _ _ _ _ _ _ w hzx hzy (by rw [nX]; omega) (by rw [nY]; omega) (wd_nat _ _) (wd_nat _ _) (wd_nat _ _) (wd_nat _ _) (wd_nat _ _) (wd_nat _ _) (wd_nat _ _) (wd_nat _ _) hx0 hx1 hx2 hx3 hy0 hy1 hy2 hy3 hz0 hz1 hz2 hz3 fz0 fz1 fz2 fz3).mono ?_
  rintro e w' ⟨he, d0, d1, d2, d3, ⟨g0, g1, g2, g3⟩, hn, m, hw⟩
  obtain ⟨r0, r1, r2, r3⟩ := wd_num (A := R) g0 g1 g2 g3 (by rw [hn, nX, nY, hR]; unfold subm; omega)
  subst d0 d1 d2 d3
  exact ⟨he, m, hw⟩


end Go.Proofs.Ytdocgdodahjooaa
