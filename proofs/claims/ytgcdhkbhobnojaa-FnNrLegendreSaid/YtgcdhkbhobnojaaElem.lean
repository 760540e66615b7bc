/- Contracts of the field's functions on words: the test against the prime; sum, difference, double, each modulo the prime. -/
import Derived.Test.YtgcdhkbhobnojaaBits
import Derived.WalkKit
import Derived.WalkSpells
import Derived.WalkLawsBesides
import Derived.Deep.QuietTactic
import Derived.BigQuiet
import Derived.BigRegion
namespace Go.Proofs.Ytgcdhkbhobnojaa
open Go.RowKit Num

/-- A number of its words. -/
def num (z0 z1 z2 z3 : Int) : Int := z0 + 18446744073709551616 * z1 + 340282366920938463463374607431768211456 * z2 + 6277101735386680763835789423207666416102355444464034512896 * z3
theorem num_pos {x0 x1 x2 x3 : Int} (g0 : Wd x0) (g1 : Wd x1) (g2 : Wd x2) (g3 : Wd x3) : 0 ≤ num x0 x1 x2 x3 := by
  unfold Wd at *; unfold num; omega
theorem num_top {x0 x1 x2 x3 : Int} (g0 : Wd x0) (g1 : Wd x1) (g2 : Wd x2) (g3 : Wd x3) : num x0 x1 x2 x3 < 115792089237316195423570985008687907853269984665640564039457584007913129639936 := by
  unfold Wd at *; unfold num; omega
theorem adds_num {x0 x1 x2 x3 y0 y1 y2 y3 s0 s1 s2 s3 k0 k1 k2 k3 : Int} (a0 : Adds x0 y0 0 s0 k0) (a1 : Adds x1 y1 k0 s1 k1) (a2 : Adds x2 y2 k1 s2 k2) (a3 : Adds x3 y3 k2 s3 k3) : num x0 x1 x2 x3 + num y0 y1 y2 y3 = num s0 s1 s2 s3 + 115792089237316195423570985008687907853269984665640564039457584007913129639936 * k3 := by
  unfold Adds at *; unfold num; omega
theorem adds_nump {s0 s1 s2 s3 d0 d1 d2 d3 e0 e1 e2 e3 : Int} (b0 : Adds s0 4891460686036598785 0 d0 e0) (b1 : Adds s1 2896914383306846353 e0 d1 e1) (b2 : Adds s2 13281191951274694749 e1 d2 e2) (b3 : Adds s3 3486998266802970665 e2 d3 e3) : num s0 s1 s2 s3 + 21888242871839275222246405745257275088548364400416034343698204186575808495617 = num d0 d1 d2 d3 + 115792089237316195423570985008687907853269984665640564039457584007913129639936 * e3 := by
  unfold Adds at *; unfold num; omega
theorem subs_num {x0 x1 x2 x3 y0 y1 y2 y3 s0 s1 s2 s3 k0 k1 k2 k3 : Int} (a0 : Subs x0 y0 0 s0 k0) (a1 : Subs x1 y1 k0 s1 k1) (a2 : Subs x2 y2 k1 s2 k2) (a3 : Subs x3 y3 k2 s3 k3) : num x0 x1 x2 x3 - num y0 y1 y2 y3 = num s0 s1 s2 s3 - 115792089237316195423570985008687907853269984665640564039457584007913129639936 * k3 := by
  unfold Subs at *; unfold num; omega
theorem subs_nump {s0 s1 s2 s3 d0 d1 d2 d3 e0 e1 e2 e3 : Int} (b0 : Subs s0 4891460686036598785 0 d0 e0) (b1 : Subs s1 2896914383306846353 e0 d1 e1) (b2 : Subs s2 13281191951274694749 e1 d2 e2) (b3 : Subs s3 3486998266802970665 e2 d3 e3) : num s0 s1 s2 s3 - 21888242871839275222246405745257275088548364400416034343698204186575808495617 = num d0 d1 d2 d3 - 115792089237316195423570985008687907853269984665640564039457584007913129639936 * e3 := by
  unfold Subs at *; unfold num; omega
theorem add_small {X Y S k : Int} (h : X + Y = S + 115792089237316195423570985008687907853269984665640564039457584007913129639936 * k) (x0 : 0 ≤ X) (y0 : 0 ≤ Y) (_s0 : 0 ≤ S) (_s1 : S < 115792089237316195423570985008687907853269984665640564039457584007913129639936) (hk : Bt k) (hx : X < 21888242871839275222246405745257275088548364400416034343698204186575808495617) (hy : Y < 21888242871839275222246405745257275088548364400416034343698204186575808495617) (hl : S < 21888242871839275222246405745257275088548364400416034343698204186575808495617) : S = (X + Y) % 21888242871839275222246405745257275088548364400416034343698204186575808495617 := by
  obtain ⟨h0, h1⟩ := hk
  have : k = 0 := by omega
  subst this
  rw [h, Int.emod_eq_of_lt (by omega) (by omega)]; omega
theorem add_big {X Y S D k e : Int} (h : X + Y = S + 115792089237316195423570985008687907853269984665640564039457584007913129639936 * k) (h' : S - 21888242871839275222246405745257275088548364400416034343698204186575808495617 = D - 115792089237316195423570985008687907853269984665640564039457584007913129639936 * e) (x0 : 0 ≤ X) (y0 : 0 ≤ Y) (_s0 : 0 ≤ S) (_s1 : S < 115792089237316195423570985008687907853269984665640564039457584007913129639936) (d0 : 0 ≤ D) (d1 : D < 115792089237316195423570985008687907853269984665640564039457584007913129639936) (hk : Bt k) (he : Bt e) (hx : X < 21888242871839275222246405745257275088548364400416034343698204186575808495617) (hy : Y < 21888242871839275222246405745257275088548364400416034343698204186575808495617) (hl : ¬ S < 21888242871839275222246405745257275088548364400416034343698204186575808495617) : D = (X + Y) % 21888242871839275222246405745257275088548364400416034343698204186575808495617 := by
  obtain ⟨h0, h1⟩ := hk
  obtain ⟨g0, g1⟩ := he
  have : k = 0 := by omega
  have : e = 0 := by omega
  subst k e
  have : (X + Y) % 21888242871839275222246405745257275088548364400416034343698204186575808495617 = D := by rw [show X + Y = D + 21888242871839275222246405745257275088548364400416034343698204186575808495617 from by omega, Int.add_emod_right, Int.emod_eq_of_lt (by omega) (by omega)]
  omega
theorem sub_small {X Y S k : Int} (h : X - Y = S - 115792089237316195423570985008687907853269984665640564039457584007913129639936 * k) (_x0 : 0 ≤ X) (y0 : 0 ≤ Y) (_s0 : 0 ≤ S) (_s1 : S < 115792089237316195423570985008687907853269984665640564039457584007913129639936) (_hk : Bt k) (hx : X < 21888242871839275222246405745257275088548364400416034343698204186575808495617) (_hy : Y < 21888242871839275222246405745257275088548364400416034343698204186575808495617) (hl : k = 0) : S = (X + 21888242871839275222246405745257275088548364400416034343698204186575808495617 - Y) % 21888242871839275222246405745257275088548364400416034343698204186575808495617 := by
  subst hl
  have : (X + 21888242871839275222246405745257275088548364400416034343698204186575808495617 - Y) % 21888242871839275222246405745257275088548364400416034343698204186575808495617 = S := by rw [show X + 21888242871839275222246405745257275088548364400416034343698204186575808495617 - Y = S + 21888242871839275222246405745257275088548364400416034343698204186575808495617 from by omega, Int.add_emod_right, Int.emod_eq_of_lt (by omega) (by omega)]
  omega
theorem sub_big {X Y S D k e : Int} (h : X - Y = S - 115792089237316195423570985008687907853269984665640564039457584007913129639936 * k) (h' : S + 21888242871839275222246405745257275088548364400416034343698204186575808495617 = D + 115792089237316195423570985008687907853269984665640564039457584007913129639936 * e) (x0 : 0 ≤ X) (y0 : 0 ≤ Y) (_s0 : 0 ≤ S) (_s1 : S < 115792089237316195423570985008687907853269984665640564039457584007913129639936) (d0 : 0 ≤ D) (d1 : D < 115792089237316195423570985008687907853269984665640564039457584007913129639936) (hk : Bt k) (he : Bt e) (_hx : X < 21888242871839275222246405745257275088548364400416034343698204186575808495617) (hy : Y < 21888242871839275222246405745257275088548364400416034343698204186575808495617) (hl : ¬ k = 0) : D = (X + 21888242871839275222246405745257275088548364400416034343698204186575808495617 - Y) % 21888242871839275222246405745257275088548364400416034343698204186575808495617 := by
  obtain ⟨h0, h1⟩ := hk
  obtain ⟨g0, g1⟩ := he
  have : k = 1 := by omega
  have : e = 1 := by omega
  subst k e
  rw [show X + 21888242871839275222246405745257275088548364400416034343698204186575808495617 - Y = D from by omega, Int.emod_eq_of_lt (by omega) (by omega)]
theorem num_wd {A : Nat} (h : A < 115792089237316195423570985008687907853269984665640564039457584007913129639936) : num (wd A 0 : Nat) (wd A 1 : Nat) (wd A 2 : Nat) (wd A 3 : Nat) = (A : Int) := by
  unfold num wd; omega
theorem wd_num {x0 x1 x2 x3 : Int} {A : Nat} (g0 : Wd x0) (g1 : Wd x1) (g2 : Wd x2) (g3 : Wd x3) (h : num x0 x1 x2 x3 = (A : Int)) : x0 = (wd A 0 : Nat) ∧ x1 = (wd A 1 : Nat) ∧ x2 = (wd A 2 : Nat) ∧ x3 = (wd A 3 : Nat) := by
  unfold Wd at *; unfold num at h; unfold wd; omega
set_option maxRecDepth 100000 in
set_option maxHeartbeats 400000 in
theorem small_any (b o : Nat) (z0 z1 z2 z3 : Int) (w : World) (g0 : Wd z0) (g1 : Wd z1) (g2 : Wd z2) (g3 : Wd z3) (h0 : w.cell? ⟨b, o, none⟩ = some (.int .u64 z0)) (h1 : w.cell? ⟨b, o + 1, none⟩ = some (.int .u64 z1)) (h2 : w.cell? ⟨b, o + 2, none⟩ = some (.int .u64 z2)) (h3 : w.cell? ⟨b, o + 3, none⟩ = some (.int .u64 z3)) :
    Calls Try.prog 39 #[.pointer (some ⟨b, o, none⟩)] w fun e w' => e = .returned (.bool (decide (num z0 z1 z2 z3 < 21888242871839275222246405745257275088548364400416034343698204186575808495617))) ∧ w = w' := by
  obtain ⟨l0, u0⟩ := g0
  obtain ⟨l1, u1⟩ := g1
  obtain ⟨l2, u2⟩ := g2
  obtain ⟨l3, u3⟩ := g3
  by_cases a3 : z3 < 3486998266802970665
  · have t3 : decide (z3 < 3486998266802970665) = true := by simpa using a3
    have e : decide (num z0 z1 z2 z3 < 21888242871839275222246405745257275088548364400416034343698204186575808495617) = true := decide_eq_true (by unfold num; omega)
    have E := shut e; clear e
    clear l0 u0 l1 u1 l2 u2 l3 u3
    go_enter Try.func39, Try.ntmps39
    go_wp2_with fail
    go_ret
    exact ⟨by rw [E.out]; rfl, rfl⟩
  have t3 : decide (z3 < 3486998266802970665) = false := by simpa using a3
  by_cases c3 : z3 = 3486998266802970665
  · have v3 : (z3 == 3486998266802970665) = true := by simpa using c3
    by_cases a2 : z2 < 13281191951274694749
    · have t2 : decide (z2 < 13281191951274694749) = true := by simpa using a2
      have e : decide (num z0 z1 z2 z3 < 21888242871839275222246405745257275088548364400416034343698204186575808495617) = true := decide_eq_true (by unfold num; omega)
      have E := shut e; clear e
      clear l0 u0 l1 u1 l2 u2 l3 u3 c3
      go_enter Try.func39, Try.ntmps39
      go_wp2_with fail
      go_ret
      exact ⟨by rw [E.out]; rfl, rfl⟩
    have t2 : decide (z2 < 13281191951274694749) = false := by simpa using a2
    by_cases c2 : z2 = 13281191951274694749
    · have v2 : (z2 == 13281191951274694749) = true := by simpa using c2
      by_cases a1 : z1 < 2896914383306846353
      · have t1 : decide (z1 < 2896914383306846353) = true := by simpa using a1
        have e : decide (num z0 z1 z2 z3 < 21888242871839275222246405745257275088548364400416034343698204186575808495617) = true := decide_eq_true (by unfold num; omega)
        have E := shut e; clear e
        clear l0 u0 l1 u1 l2 u2 l3 u3 c2 c3
        go_enter Try.func39, Try.ntmps39
        go_wp2_with fail
        go_ret
        exact ⟨by rw [E.out]; rfl, rfl⟩
      have t1 : decide (z1 < 2896914383306846353) = false := by simpa using a1
      by_cases c1 : z1 = 2896914383306846353
      · have v1 : (z1 == 2896914383306846353) = true := by simpa using c1
        by_cases a0 : z0 < 4891460686036598785
        · have t0 : decide (z0 < 4891460686036598785) = true := by simpa using a0
          have e : decide (num z0 z1 z2 z3 < 21888242871839275222246405745257275088548364400416034343698204186575808495617) = true := decide_eq_true (by unfold num; omega)
          have E := shut e; clear e
          clear l0 u0 l1 u1 l2 u2 l3 u3 c1 c2 c3
          go_enter Try.func39, Try.ntmps39
          go_wp2_with fail
          go_ret
          exact ⟨by rw [E.out]; rfl, rfl⟩
        have t0 : decide (z0 < 4891460686036598785) = false := by simpa using a0
        have e : decide (num z0 z1 z2 z3 < 21888242871839275222246405745257275088548364400416034343698204186575808495617) = false := decide_eq_false (by unfold num; omega)
        have E := shut e; clear e
        clear l0 u0 l1 u1 l2 u2 l3 u3 c1 c2 c3
        go_enter Try.func39, Try.ntmps39
        go_wp2_with fail
        go_ret
        exact ⟨by rw [E.out]; rfl, rfl⟩
      · have v1 : (z1 == 2896914383306846353) = false := by simpa using c1
        have e : decide (num z0 z1 z2 z3 < 21888242871839275222246405745257275088548364400416034343698204186575808495617) = false := decide_eq_false (by unfold num; omega)
        have E := shut e; clear e
        clear l0 u0 l1 u1 l2 u2 l3 u3 c1 c2 c3
        go_enter Try.func39, Try.ntmps39
        go_wp2_with fail
        go_ret
        exact ⟨by rw [E.out]; rfl, rfl⟩
    · have v2 : (z2 == 13281191951274694749) = false := by simpa using c2
      have e : decide (num z0 z1 z2 z3 < 21888242871839275222246405745257275088548364400416034343698204186575808495617) = false := decide_eq_false (by unfold num; omega)
      have E := shut e; clear e
      clear l0 u0 l1 u1 l2 u2 l3 u3 c2 c3
      go_enter Try.func39, Try.ntmps39
      go_wp2_with fail
      go_ret
      exact ⟨by rw [E.out]; rfl, rfl⟩
  · have v3 : (z3 == 3486998266802970665) = false := by simpa using c3
    have e : decide (num z0 z1 z2 z3 < 21888242871839275222246405745257275088548364400416034343698204186575808495617) = false := decide_eq_false (by unfold num; omega)
    have E := shut e; clear e
    clear l0 u0 l1 u1 l2 u2 l3 u3 c3
    go_enter Try.func39, Try.ntmps39
    go_wp2_with fail
    go_ret
    exact ⟨by rw [E.out]; rfl, rfl⟩
/-- Words that are stored anew. -/
theorem set_again (w : World) (b o : Nat) (u0 u1 u2 u3 v0 v1 v2 v3 : Value) :
    ((((((((w.setCell ⟨b, o, none⟩ u0).setCell ⟨b, o + 1, none⟩ u1).setCell ⟨b, o + 2, none⟩ u2).setCell ⟨b, o + 3, none⟩ u3).setCell ⟨b, o, none⟩ v0).setCell ⟨b, o + 1, none⟩ v1).setCell ⟨b, o + 2, none⟩ v2).setCell ⟨b, o + 3, none⟩ v3) = ((((w.setCell ⟨b, o, none⟩ v0).setCell ⟨b, o + 1, none⟩ v1).setCell ⟨b, o + 2, none⟩ v2).setCell ⟨b, o + 3, none⟩ v3) := by
  have s10 : ∀ (w : World) (v v' : Value), (w.setCell ⟨b, o + 1, none⟩ v).setCell ⟨b, o, none⟩ v' = (w.setCell ⟨b, o, none⟩ v').setCell ⟨b, o + 1, none⟩ v := fun w v v' => set_swap w b v v' (by omega)
  have s20 : ∀ (w : World) (v v' : Value), (w.setCell ⟨b, o + 2, none⟩ v).setCell ⟨b, o, none⟩ v' = (w.setCell ⟨b, o, none⟩ v').setCell ⟨b, o + 2, none⟩ v := fun w v v' => set_swap w b v v' (by omega)
  have s21 : ∀ (w : World) (v v' : Value), (w.setCell ⟨b, o + 2, none⟩ v).setCell ⟨b, o + 1, none⟩ v' = (w.setCell ⟨b, o + 1, none⟩ v').setCell ⟨b, o + 2, none⟩ v := fun w v v' => set_swap w b v v' (by omega)
  have s30 : ∀ (w : World) (v v' : Value), (w.setCell ⟨b, o + 3, none⟩ v).setCell ⟨b, o, none⟩ v' = (w.setCell ⟨b, o, none⟩ v').setCell ⟨b, o + 3, none⟩ v := fun w v v' => set_swap w b v v' (by omega)
  have s31 : ∀ (w : World) (v v' : Value), (w.setCell ⟨b, o + 3, none⟩ v).setCell ⟨b, o + 1, none⟩ v' = (w.setCell ⟨b, o + 1, none⟩ v').setCell ⟨b, o + 3, none⟩ v := fun w v v' => set_swap w b v v' (by omega)
  have s32 : ∀ (w : World) (v v' : Value), (w.setCell ⟨b, o + 3, none⟩ v).setCell ⟨b, o + 2, none⟩ v' = (w.setCell ⟨b, o + 2, none⟩ v').setCell ⟨b, o + 3, none⟩ v := fun w v v' => set_swap w b v v' (by omega)
  simp only [s10, s20, s21, s30, s31, s32, set_set]

theorem drewn_4 (w : World) : w.drew.drew.drew.drew = w.drewN 4 := by rw [show w.drew = w.drewN 1 from rfl]; simp only [World.drew_drewN]
theorem drewn_8 (w : World) : w.drew.drew.drew.drew.drew.drew.drew.drew = w.drewN 8 := by rw [show w.drew = w.drewN 1 from rfl]; simp only [World.drew_drewN]
/-- The difference modulo the prime. -/
def subm (X Y : Nat) : Nat := (X + 21888242871839275222246405745257275088548364400416034343698204186575808495617 - Y) % 21888242871839275222246405745257275088548364400416034343698204186575808495617

end Go.Proofs.Ytgcdhkbhobnojaa
