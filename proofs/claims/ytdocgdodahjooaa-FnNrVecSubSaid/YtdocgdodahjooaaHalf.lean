/- Contract of the field's half, and of the choice between two elements. -/
import Derived.Test.YtdocgdodahjooaaElem
import Derived.WalkSmall
namespace Go.Proofs.Ytdocgdodahjooaa
open Go.RowKit Num

theorem half_word {x y : Int} (hx : Wd x) (hy : Wd y) : ∃ d : Int, (d = x / 2 + 9223372036854775808 * (y % 2) ∧ Wd d) ∧ bits .or .u64 (x / 2) (IntKind.u64.wrap (y * 9223372036854775808)) = d := by
  obtain ⟨h0, h1⟩ := hx
  obtain ⟨g0, g1⟩ := hy
  refine ⟨x / 2 + 9223372036854775808 * (y % 2), ⟨rfl, by omega, by omega⟩, ?_⟩
  rw [u64wrap, u64_or _ _ (by omega) (by omega) (by omega) (by omega)]
  obtain ⟨x, rfl⟩ := Int.eq_ofNat_of_zero_le h0
  obtain ⟨y, rfl⟩ := Int.eq_ofNat_of_zero_le g0
  have e1 : ((x : Int) / 2).toNat = x / 2 := by omega
  have e2 : ((y : Int) * 9223372036854775808 % 18446744073709551616).toNat = y % 2 * 9223372036854775808 := by omega
  rw [e1, e2, Nat.or_comm, nat_join 63 _ _ (by omega) (by omega)]
  omega

/-- Half of a number, or of it and the prime. -/
def halve (X : Nat) : Nat := if X % 2 = 1 then (X + 21888242871839275222246405745257275088548364400416034343698204186575808495617) / 2 else X / 2

/-- The same of an integer. -/
def halveI (Z : Int) : Int := if Z % 2 = 1 then (Z + 21888242871839275222246405745257275088548364400416034343698204186575808495617) / 2 else Z / 2
theorem half_odd {Z S k : Int} (h : Z + 21888242871839275222246405745257275088548364400416034343698204186575808495617 = S + 115792089237316195423570985008687907853269984665640564039457584007913129639936 * k) (z0 : 0 ≤ Z) (_s0 : 0 ≤ S) (hk : Bt k) (hz : Z < 21888242871839275222246405745257275088548364400416034343698204186575808495617) (ho : Z % 2 = 1) : S / 2 = halveI Z := by
  obtain ⟨h0, h1⟩ := hk
  unfold halveI
  rw [if_pos ho]; omega
theorem half_even {Z : Int} (ho : ¬ Z % 2 = 1) : Z / 2 = halveI Z := by
  unfold halveI
  rw [if_neg ho]

theorem half_num {s0 s1 s2 s3 d0 d1 d2 d3 : Int} (h0 : d0 = s0 / 2 + 9223372036854775808 * (s1 % 2)) (h1 : d1 = s1 / 2 + 9223372036854775808 * (s2 % 2)) (h2 : d2 = s2 / 2 + 9223372036854775808 * (s3 % 2)) (h3 : d3 = s3 / 2) : num d0 d1 d2 d3 = num s0 s1 s2 s3 / 2 := by
  unfold num; omega
theorem odd_num {z0 z1 z2 z3 : Int} : num z0 z1 z2 z3 % 2 = z0 % 2 := by
  unfold num; omega
set_option maxRecDepth 100000 in
set_option maxHeartbeats 1600000 in
theorem ehalve_t (b o : Nat) (z0 z1 z2 z3 : Int) (w : World) (hZ : num z0 z1 z2 z3 < 21888242871839275222246405745257275088548364400416034343698204186575808495617) (gz0 : Wd z0) (gz1 : Wd z1) (gz2 : Wd z2) (gz3 : Wd z3)
    (hz0 : w.cell? ⟨b, o, none⟩ = some (.int .u64 z0)) (hz1 : w.cell? ⟨b, o + 1, none⟩ = some (.int .u64 z1)) (hz2 : w.cell? ⟨b, o + 2, none⟩ = some (.int .u64 z2)) (hz3 : w.cell? ⟨b, o + 3, none⟩ = some (.int .u64 z3))
    (fz0 : w.frozen? ⟨b, o, none⟩ = false) (fz1 : w.frozen? ⟨b, o + 1, none⟩ = false) (fz2 : w.frozen? ⟨b, o + 2, none⟩ = false) (fz3 : w.frozen? ⟨b, o + 3, none⟩ = false) :
    Calls Try.prog 28 #[.pointer (some ⟨b, o, none⟩)] w fun e w' => e = .returned (.tuple #[]) ∧
      ∃ d0 d1 d2 d3 : Int, (Wd d0 ∧ Wd d1 ∧ Wd d2 ∧ Wd d3) ∧ num d0 d1 d2 d3 = halveI (num z0 z1 z2 z3) ∧ ∃ m, w' = ((((w.setCell ⟨b, o, none⟩ (.int .u64 d0)).setCell ⟨b, o + 1, none⟩ (.int .u64 d1)).setCell ⟨b, o + 2, none⟩ (.int .u64 d2)).setCell ⟨b, o + 3, none⟩ (.int .u64 d3)).drewN m := by
  have ht : bits .and .u64 z0 1 = z0 % 2 := and_one_u64 z0 gz0.1 (by have := gz0.2; omega)
  have HT := shut ht; clear ht
  have Hgz0 := shut gz0; have Hfz0 := shut fz0; clear gz0 fz0
  have Hgz1 := shut gz1; have Hfz1 := shut fz1; clear gz1 fz1
  have Hgz2 := shut gz2; have Hfz2 := shut fz2; clear gz2 fz2
  have Hgz3 := shut gz3; have Hfz3 := shut fz3; clear gz3 fz3
  have HhZ := shut hZ; clear hZ
  by_cases hl : z0 % 2 = 1
  ·
    have ht : (bits .and .u64 z0 1 == 1) = true := by rw [HT.out]; simpa using hl
    have HL := shut hl; have HT2 := shut ht; clear hl ht
    obtain ⟨s0, k0, a0, r0⟩ := add64 Hgz0.out (y := 4891460686036598785) ⟨by omega, by omega⟩ (c := 0) Bt.zero
    obtain ⟨s1, k1, a1, r1⟩ := add64 Hgz1.out (y := 2896914383306846353) ⟨by omega, by omega⟩ (c := k0) a0.bt
    obtain ⟨s2, k2, a2, r2⟩ := add64 Hgz2.out (y := 13281191951274694749) ⟨by omega, by omega⟩ (c := k1) a1.bt
    obtain ⟨s3, k3, a3, r3⟩ := add64 Hgz3.out (y := 3486998266802970665) ⟨by omega, by omega⟩ (c := k2) a2.bt
    have Ha0 := shut a0; have Hr0 := shut r0; clear a0 r0
    have Ha1 := shut a1; have Hr1 := shut r1; clear a1 r1
    have Ha2 := shut a2; have Hr2 := shut r2; clear a2 r2
    have Ha3 := shut a3; have Hr3 := shut r3; clear a3 r3
    obtain ⟨d0, q0, o0⟩ := half_word (Ha0.out.wd) (Ha1.out.wd)
    have Hq0 := shut q0; have Ho0 := shut o0; clear q0 o0
    obtain ⟨d1, q1, o1⟩ := half_word (Ha1.out.wd) (Ha2.out.wd)
    have Hq1 := shut q1; have Ho1 := shut o1; clear q1 o1
    obtain ⟨d2, q2, o2⟩ := half_word (Ha2.out.wd) (Ha3.out.wd)
    have Hq2 := shut q2; have Ho2 := shut o2; clear q2 o2
    obtain ⟨d3, q3⟩ : ∃ d : Int, d = s3 / 2 := ⟨_, rfl⟩
    have Hq3 := shut q3; have Ho3 := shut q3.symm; clear q3
    have y0 := hz0
    have y1 : (w.setCell ⟨b, o, none⟩ (.int .u64 s0)).cell? ⟨b, o + 1, none⟩ = some (.int .u64 z1) := keep (hz1) (by omega)
    have y2 : ((w.setCell ⟨b, o, none⟩ (.int .u64 s0)).setCell ⟨b, o + 1, none⟩ (.int .u64 s1)).cell? ⟨b, o + 2, none⟩ = some (.int .u64 z2) := keep (keep (hz2) (by omega)) (by omega)
    have y3 : (((w.setCell ⟨b, o, none⟩ (.int .u64 s0)).setCell ⟨b, o + 1, none⟩ (.int .u64 s1)).setCell ⟨b, o + 2, none⟩ (.int .u64 s2)).cell? ⟨b, o + 3, none⟩ = some (.int .u64 z3) := keep (keep (keep (hz3) (by omega)) (by omega)) (by omega)
    have c0 : ((((w.setCell ⟨b, o, none⟩ (.int .u64 s0)).setCell ⟨b, o + 1, none⟩ (.int .u64 s1)).setCell ⟨b, o + 2, none⟩ (.int .u64 s2)).setCell ⟨b, o + 3, none⟩ (.int .u64 s3)).cell? ⟨b, o, none⟩ = some (.int .u64 s0) := keep (keep (keep (hit (hz0)) (by omega)) (by omega)) (by omega)
    have c1 : ((((w.setCell ⟨b, o, none⟩ (.int .u64 s0)).setCell ⟨b, o + 1, none⟩ (.int .u64 s1)).setCell ⟨b, o + 2, none⟩ (.int .u64 s2)).setCell ⟨b, o + 3, none⟩ (.int .u64 s3)).cell? ⟨b, o + 1, none⟩ = some (.int .u64 s1) := keep (keep (hit (keep (hz1) (by omega))) (by omega)) (by omega)
    have c2 : ((((w.setCell ⟨b, o, none⟩ (.int .u64 s0)).setCell ⟨b, o + 1, none⟩ (.int .u64 s1)).setCell ⟨b, o + 2, none⟩ (.int .u64 s2)).setCell ⟨b, o + 3, none⟩ (.int .u64 s3)).cell? ⟨b, o + 2, none⟩ = some (.int .u64 s2) := keep (hit (keep (keep (hz2) (by omega)) (by omega))) (by omega)
    have c3 : ((((w.setCell ⟨b, o, none⟩ (.int .u64 s0)).setCell ⟨b, o + 1, none⟩ (.int .u64 s1)).setCell ⟨b, o + 2, none⟩ (.int .u64 s2)).setCell ⟨b, o + 3, none⟩ (.int .u64 s3)).cell? ⟨b, o + 3, none⟩ = some (.int .u64 s3) := hit (keep (keep (keep (hz3) (by omega)) (by omega)) (by omega))
    have Hy0 := shut y0; have Hc0 := shut c0; clear y0 c0
    have Hy1 := shut y1; have Hc1 := shut c1; clear y1 c1
    have Hy2 := shut y2; have Hc2 := shut c2; clear y2 c2
    have Hy3 := shut y3; have Hc3 := shut c3; clear y3 c3
    have p0 : ((((w.setCell ⟨b, o, none⟩ (.int .u64 s0)).setCell ⟨b, o + 1, none⟩ (.int .u64 s1)).setCell ⟨b, o + 2, none⟩ (.int .u64 s2)).setCell ⟨b, o + 3, none⟩ (.int .u64 s3)).cell? ⟨b, o, none⟩ = some (.int .u64 s0) := Hc0.out
    have n0 : ((((w.setCell ⟨b, o, none⟩ (.int .u64 s0)).setCell ⟨b, o + 1, none⟩ (.int .u64 s1)).setCell ⟨b, o + 2, none⟩ (.int .u64 s2)).setCell ⟨b, o + 3, none⟩ (.int .u64 s3)).cell? ⟨b, o + 1, none⟩ = some (.int .u64 s1) := Hc1.out
    have p1 : (((((w.setCell ⟨b, o, none⟩ (.int .u64 s0)).setCell ⟨b, o + 1, none⟩ (.int .u64 s1)).setCell ⟨b, o + 2, none⟩ (.int .u64 s2)).setCell ⟨b, o + 3, none⟩ (.int .u64 s3)).setCell ⟨b, o, none⟩ (.int .u64 d0)).cell? ⟨b, o + 1, none⟩ = some (.int .u64 s1) := keep (Hc1.out) (by omega)
    have n1 : (((((w.setCell ⟨b, o, none⟩ (.int .u64 s0)).setCell ⟨b, o + 1, none⟩ (.int .u64 s1)).setCell ⟨b, o + 2, none⟩ (.int .u64 s2)).setCell ⟨b, o + 3, none⟩ (.int .u64 s3)).setCell ⟨b, o, none⟩ (.int .u64 d0)).cell? ⟨b, o + 2, none⟩ = some (.int .u64 s2) := keep (Hc2.out) (by omega)
    have p2 : ((((((w.setCell ⟨b, o, none⟩ (.int .u64 s0)).setCell ⟨b, o + 1, none⟩ (.int .u64 s1)).setCell ⟨b, o + 2, none⟩ (.int .u64 s2)).setCell ⟨b, o + 3, none⟩ (.int .u64 s3)).setCell ⟨b, o, none⟩ (.int .u64 d0)).setCell ⟨b, o + 1, none⟩ (.int .u64 d1)).cell? ⟨b, o + 2, none⟩ = some (.int .u64 s2) := keep (keep (Hc2.out) (by omega)) (by omega)
    have n2 : ((((((w.setCell ⟨b, o, none⟩ (.int .u64 s0)).setCell ⟨b, o + 1, none⟩ (.int .u64 s1)).setCell ⟨b, o + 2, none⟩ (.int .u64 s2)).setCell ⟨b, o + 3, none⟩ (.int .u64 s3)).setCell ⟨b, o, none⟩ (.int .u64 d0)).setCell ⟨b, o + 1, none⟩ (.int .u64 d1)).cell? ⟨b, o + 3, none⟩ = some (.int .u64 s3) := keep (keep (Hc3.out) (by omega)) (by omega)
    have p3 : (((((((w.setCell ⟨b, o, none⟩ (.int .u64 s0)).setCell ⟨b, o + 1, none⟩ (.int .u64 s1)).setCell ⟨b, o + 2, none⟩ (.int .u64 s2)).setCell ⟨b, o + 3, none⟩ (.int .u64 s3)).setCell ⟨b, o, none⟩ (.int .u64 d0)).setCell ⟨b, o + 1, none⟩ (.int .u64 d1)).setCell ⟨b, o + 2, none⟩ (.int .u64 d2)).cell? ⟨b, o + 3, none⟩ = some (.int .u64 s3) := keep (keep (keep (Hc3.out) (by omega)) (by omega)) (by omega)
    have Hp0 := shut p0; clear p0
    have Hp1 := shut p1; clear p1
    have Hp2 := shut p2; clear p2
    have Hp3 := shut p3; clear p3
    have Hn0 := shut n0; clear n0
    have Hn1 := shut n1; clear n1
    have Hn2 := shut n2; clear n2
    have Hz0 := shut hz0; clear hz0 hz1 hz2 hz3
    go_enter Try.func28, Try.ntmps28
    have o0 := Hz0.out; have o1 := HT2.out
    go_wp2_with fail
    clear o0 o1
    have o0 := Hy0.out
    have o1 := Hr0.out
    have o2 := Hfz0.out
    go_region
    clear o0 o1 o2
    go_wp2_with fail
    have o0 := Hy1.out
    have o1 := Hr1.out
    have o2 := Hfz1.out
    go_region
    clear o0 o1 o2
    go_wp2_with fail
    have o0 := Hy2.out
    have o1 := Hr2.out
    have o2 := Hfz2.out
    go_region
    clear o0 o1 o2
    go_wp2_with fail
    have o0 := Hy3.out
    have o1 := Hr3.out
    have o2 := Hfz3.out
    go_region
    clear o0 o1 o2
    go_wp2_with fail
    have o0 := Hp0.out
    have o1 := Hn0.out
    have o2 := Ho0.out
    have o3 := Hfz0.out
    go_region
    clear o0 o1 o2 o3
    go_wp2_with fail
    have o0 := Hp1.out
    have o1 := Hn1.out
    have o2 := Ho1.out
    have o3 := Hfz1.out
    go_region
    clear o0 o1 o2 o3
    go_wp2_with fail
    have o0 := Hp2.out
    have o1 := Hn2.out
    have o2 := Ho2.out
    have o3 := Hfz2.out
    go_region
    clear o0 o1 o2 o3
    go_wp2_with fail
    have o0 := Hp3.out
    have o1 := Ho3.out
    have o2 := Hfz3.out
    go_region
    clear o0 o1 o2
    try go_wp2_with fail
    go_end0
    refine ⟨rfl, d0, d1, d2, d3, ⟨Hq0.out.2, Hq1.out.2, Hq2.out.2, ?_⟩, ?_, 8, ?_⟩
    · have h1 := (Ha3.out.wd).1; have h2 := (Ha3.out.wd).2; have h3 := Hq3.out; exact ⟨by omega, by omega⟩
    · rw [half_num Hq0.out.1 Hq1.out.1 Hq2.out.1 Hq3.out]; exact half_odd (adds_nump Ha0.out Ha1.out Ha2.out Ha3.out) (num_pos Hgz0.out Hgz1.out Hgz2.out Hgz3.out) (num_pos Ha0.out.wd Ha1.out.wd Ha2.out.wd Ha3.out.wd) Ha3.out.bt HhZ.out (by rw [odd_num]; exact HL.out)
    · rw [set_again]; with_reducible exact drewn_8 _
  ·
    have ht : (bits .and .u64 z0 1 == 1) = false := by rw [HT.out]; simpa using hl
    have HL := shut hl; have HT2 := shut ht; clear hl ht
    obtain ⟨d0, q0, o0⟩ := half_word (Hgz0.out) (Hgz1.out)
    have Hq0 := shut q0; have Ho0 := shut o0; clear q0 o0
    obtain ⟨d1, q1, o1⟩ := half_word (Hgz1.out) (Hgz2.out)
    have Hq1 := shut q1; have Ho1 := shut o1; clear q1 o1
    obtain ⟨d2, q2, o2⟩ := half_word (Hgz2.out) (Hgz3.out)
    have Hq2 := shut q2; have Ho2 := shut o2; clear q2 o2
    obtain ⟨d3, q3⟩ : ∃ d : Int, d = z3 / 2 := ⟨_, rfl⟩
    have Hq3 := shut q3; have Ho3 := shut q3.symm; clear q3
    have Hc0 := shut hz0
    have Hc1 := shut hz1
    have Hc2 := shut hz2
    have Hc3 := shut hz3
    have p0 : w.cell? ⟨b, o, none⟩ = some (.int .u64 z0) := Hc0.out
    have n0 : w.cell? ⟨b, o + 1, none⟩ = some (.int .u64 z1) := Hc1.out
    have p1 : (w.setCell ⟨b, o, none⟩ (.int .u64 d0)).cell? ⟨b, o + 1, none⟩ = some (.int .u64 z1) := keep (Hc1.out) (by omega)
    have n1 : (w.setCell ⟨b, o, none⟩ (.int .u64 d0)).cell? ⟨b, o + 2, none⟩ = some (.int .u64 z2) := keep (Hc2.out) (by omega)
    have p2 : ((w.setCell ⟨b, o, none⟩ (.int .u64 d0)).setCell ⟨b, o + 1, none⟩ (.int .u64 d1)).cell? ⟨b, o + 2, none⟩ = some (.int .u64 z2) := keep (keep (Hc2.out) (by omega)) (by omega)
    have n2 : ((w.setCell ⟨b, o, none⟩ (.int .u64 d0)).setCell ⟨b, o + 1, none⟩ (.int .u64 d1)).cell? ⟨b, o + 3, none⟩ = some (.int .u64 z3) := keep (keep (Hc3.out) (by omega)) (by omega)
    have p3 : (((w.setCell ⟨b, o, none⟩ (.int .u64 d0)).setCell ⟨b, o + 1, none⟩ (.int .u64 d1)).setCell ⟨b, o + 2, none⟩ (.int .u64 d2)).cell? ⟨b, o + 3, none⟩ = some (.int .u64 z3) := keep (keep (keep (Hc3.out) (by omega)) (by omega)) (by omega)
    have Hp0 := shut p0; clear p0
    have Hp1 := shut p1; clear p1
    have Hp2 := shut p2; clear p2
    have Hp3 := shut p3; clear p3
    have Hn0 := shut n0; clear n0
    have Hn1 := shut n1; clear n1
    have Hn2 := shut n2; clear n2
    clear hz0 hz1 hz2 hz3
    go_enter Try.func28, Try.ntmps28
    have o0 := Hc0.out; have o1 := HT2.out
    go_wp2_with fail
    clear o0 o1
    have o0 := Hp0.out
    have o1 := Hn0.out
    have o2 := Ho0.out
    have o3 := Hfz0.out
    go_region
    clear o0 o1 o2 o3
    go_wp2_with fail
    have o0 := Hp1.out
    have o1 := Hn1.out
    have o2 := Ho1.out
    have o3 := Hfz1.out
    go_region
    clear o0 o1 o2 o3
    go_wp2_with fail
    have o0 := Hp2.out
    have o1 := Hn2.out
    have o2 := Ho2.out
    have o3 := Hfz2.out
    go_region
    clear o0 o1 o2 o3
    go_wp2_with fail
    have o0 := Hp3.out
    have o1 := Ho3.out
    have o2 := Hfz3.out
    go_region
    clear o0 o1 o2
    try go_wp2_with fail
    go_end0
    refine ⟨rfl, d0, d1, d2, d3, ⟨Hq0.out.2, Hq1.out.2, Hq2.out.2, ?_⟩, ?_, 4, ?_⟩
    · have h1 := (Hgz3.out).1; have h2 := (Hgz3.out).2; have h3 := Hq3.out; exact ⟨by omega, by omega⟩
    · rw [half_num Hq0.out.1 Hq1.out.1 Hq2.out.1 Hq3.out]; exact half_even (by rw [odd_num]; exact HL.out)
    · with_reducible exact drewn_4 _

theorem ehalve (b o X R : Nat) (w : World) (hR : R = halve X) (hX : X < 21888242871839275222246405745257275088548364400416034343698204186575808495617) (hz0 : w.cell? ⟨b, o, none⟩ = some (.int .u64 (wd X 0 : Nat))) (hz1 : w.cell? ⟨b, o + 1, none⟩ = some (.int .u64 (wd X 1 : Nat))) (hz2 : w.cell? ⟨b, o + 2, none⟩ = some (.int .u64 (wd X 2 : Nat))) (hz3 : w.cell? ⟨b, o + 3, none⟩ = some (.int .u64 (wd X 3 : Nat))) (fz0 : w.frozen? ⟨b, o, none⟩ = false) (fz1 : w.frozen? ⟨b, o + 1, none⟩ = false) (fz2 : w.frozen? ⟨b, o + 2, none⟩ = false) (fz3 : w.frozen? ⟨b, o + 3, none⟩ = false) :
    Calls Try.prog 28 #[.pointer (some ⟨b, o, none⟩)] w fun e w' => e = .returned (.tuple #[]) ∧ ∃ m, w' = ((((w.setCell ⟨b, o, none⟩ (.int .u64 (wd R 0 : Nat))).setCell ⟨b, o + 1, none⟩ (.int .u64 (wd R 1 : Nat))).setCell ⟨b, o + 2, none⟩ (.int .u64 (wd R 2 : Nat))).setCell ⟨b, o + 3, none⟩ (.int .u64 (wd R 3 : Nat))).drewN m := by
  have nX : num (wd X 0 : Nat) (wd X 1 : Nat) (wd X 2 : Nat) (wd X 3 : Nat) = (X : Int) := num_wd (by omega)
  refine (ehalve_t b o _ _ _ _ w (by rw [nX]; omega) (wd_nat _ _) (wd_nat _ _) (wd_nat _ _) (wd_nat _ _) hz0 hz1 hz2 hz3 fz0 fz1 fz2 fz3).mono ?_
  rintro e w' ⟨he, d0, d1, d2, d3, ⟨g0, g1, g2, g3⟩, hn, m, hw⟩
  obtain ⟨r0, r1, r2, r3⟩ := wd_num (A := R) g0 g1 g2 g3 (by rw [hn, nX, hR]; unfold halve halveI; split <;> split <;> omega)
  subst d0 d1 d2 d3
  exact ⟨he, m, hw⟩

end Go.Proofs.Ytdocgdodahjooaa
