/- Contract of the field's half, and of the choice between two elements. -/
import Derived.Test.YtmkmakeoidmdhaaElem
import Derived.WalkSmall
namespace Go.Proofs.Ytmkmakeoidmdhaa
open Go.RowKit Num

theorem half_word {x y : Int} (hx : Wd x) (hy : Wd y) : ∃ d : Int, (d = x / 2 + 9223372036854775808 * (y % 2) ∧ Wd d) ∧ bits .or .u64 (x / 2) (IntKind.u64.wrap (y * 9223372036854775808)) = d := by
  obtain ⟨h0, h1⟩ := hx
  obtain ⟨g0, g1⟩ := hy
  refine ⟨x / 2 + 9223372036854775808 * (y % 2), ⟨rfl, by omega, by omega⟩, ?_⟩
  rw [u64wrap, u64_or _ _ (by omega) (by omega) (by omega) (by omega)]
  obtain ⟨x, rfl⟩ := Int.eq_ofNat_of_zero_le h0
  obtain ⟨y, rfl⟩ := Int.eq_ofNat_of_zero_le g0
  have e1 : ((x : Int) / 2).toNat = x / 2 := by omega
  have e2 : ((y : Int) * 9223372036854775808 % 18446744073709551616).toNat = y % 2 * 9223372036854775808 := by omega
  rw [e1, e2, Nat.or_comm, nat_join 63 _ _ (by omega) (by omega)]
  omega

/-- Half of a number, or of it and the prime. -/
def halve (X : Nat) : Nat := if X % 2 = 1 then (X + 4002409555221667393417789825735904156556882819939007885332058136124031650490837864442687629129015664037894272559787) / 2 else X / 2

/-- The same of an integer. -/
def halveI (Z : Int) : Int := if Z % 2 = 1 then (Z + 4002409555221667393417789825735904156556882819939007885332058136124031650490837864442687629129015664037894272559787) / 2 else Z / 2
theorem half_odd {Z S k : Int} (h : Z + 4002409555221667393417789825735904156556882819939007885332058136124031650490837864442687629129015664037894272559787 = S + 39402006196394479212279040100143613805079739270465446667948293404245721771497210611414266254884915640806627990306816 * k) (z0 : 0 ≤ Z) (_s0 : 0 ≤ S) (hk : Bt k) (hz : Z < 4002409555221667393417789825735904156556882819939007885332058136124031650490837864442687629129015664037894272559787) (ho : Z % 2 = 1) : S / 2 = halveI Z := by
  obtain ⟨h0, h1⟩ := hk
  unfold halveI
  rw [if_pos ho]; omega
theorem half_even {Z : Int} (ho : ¬ Z % 2 = 1) : Z / 2 = halveI Z := by
  unfold halveI
  rw [if_neg ho]

theorem half_num {s0 s1 s2 s3 s4 s5 d0 d1 d2 d3 d4 d5 : Int} (h0 : d0 = s0 / 2 + 9223372036854775808 * (s1 % 2)) (h1 : d1 = s1 / 2 + 9223372036854775808 * (s2 % 2)) (h2 : d2 = s2 / 2 + 9223372036854775808 * (s3 % 2)) (h3 : d3 = s3 / 2 + 9223372036854775808 * (s4 % 2)) (h4 : d4 = s4 / 2 + 9223372036854775808 * (s5 % 2)) (h5 : d5 = s5 / 2) : num d0 d1 d2 d3 d4 d5 = num s0 s1 s2 s3 s4 s5 / 2 := by
  unfold num; omega
theorem odd_num {z0 z1 z2 z3 z4 z5 : Int} : num z0 z1 z2 z3 z4 z5 % 2 = z0 % 2 := by
  unfold num; omega
set_option maxRecDepth 100000 in
set_option maxHeartbeats 6400000 in
theorem ehalve_t (b o : Nat) (z0 z1 z2 z3 z4 z5 : Int) (w : World) (hZ : num z0 z1 z2 z3 z4 z5 < 4002409555221667393417789825735904156556882819939007885332058136124031650490837864442687629129015664037894272559787) (gz0 : Wd z0) (gz1 : Wd z1) (gz2 : Wd z2) (gz3 : Wd z3) (gz4 : Wd z4) (gz5 : Wd z5)
    (hz0 : w.cell? ⟨b, o, none⟩ = some (.int .u64 z0)) (hz1 : w.cell? ⟨b, o + 1, none⟩ = some (.int .u64 z1)) (hz2 : w.cell? ⟨b, o + 2, none⟩ = some (.int .u64 z2)) (hz3 : w.cell? ⟨b, o + 3, none⟩ = some (.int .u64 z3)) (hz4 : w.cell? ⟨b, o + 4, none⟩ = some (.int .u64 z4)) (hz5 : w.cell? ⟨b, o + 5, none⟩ = some (.int .u64 z5))
    (fz0 : w.frozen? ⟨b, o, none⟩ = false) (fz1 : w.frozen? ⟨b, o + 1, none⟩ = false) (fz2 : w.frozen? ⟨b, o + 2, none⟩ = false) (fz3 : w.frozen? ⟨b, o + 3, none⟩ = false) (fz4 : w.frozen? ⟨b, o + 4, none⟩ = false) (fz5 : w.frozen? ⟨b, o + 5, none⟩ = false) :
    Calls Try.prog 28 #[.pointer (some ⟨b, o, none⟩)] w fun e w' => e = .returned (.tuple #[]) ∧
      ∃ d0 d1 d2 d3 d4 d5 : Int, (Wd d0 ∧ Wd d1 ∧ Wd d2 ∧ Wd d3 ∧ Wd d4 ∧ Wd d5) ∧ num d0 d1 d2 d3 d4 d5 = halveI (num z0 z1 z2 z3 z4 z5) ∧ ∃ m, w' = ((((((w.setCell ⟨b, o, none⟩ (.int .u64 d0)).setCell ⟨b, o + 1, none⟩ (.int .u64 d1)).setCell ⟨b, o + 2, none⟩ (.int .u64 d2)).setCell ⟨b, o + 3, none⟩ (.int .u64 d3)).setCell ⟨b, o + 4, none⟩ (.int .u64 d4)).setCell ⟨b, o + 5, none⟩ (.int .u64 d5)).drewN m := by
  have ht : bits .and .u64 z0 1 = z0 % 2 := and_one_u64 z0 gz0.1 (by have := gz0.2; omega)
  have HT := shut ht; clear ht
  have Hgz0 := shut gz0; have Hfz0 := shut fz0; clear gz0 fz0
  have Hgz1 := shut gz1; have Hfz1 := shut fz1; clear gz1 fz1
  have Hgz2 := shut gz2; have Hfz2 := shut fz2; clear gz2 fz2
  have Hgz3 := shut gz3; have Hfz3 := shut fz3; clear gz3 fz3
  have Hgz4 := shut gz4; have Hfz4 := shut fz4; clear gz4 fz4
  have Hgz5 := shut gz5; have Hfz5 := shut fz5; clear gz5 fz5
  have HhZ := shut hZ; clear hZ
  by_cases hl : z0 % 2 = 1
  ·
    have ht : (bits .and .u64 z0 1 == 1) = true := by rw [HT.out]; simpa using hl
    have HL := shut hl; have HT2 := shut ht; clear hl ht
    obtain ⟨s0, k0, a0, r0⟩ := add64 Hgz0.out (y := 13402431016077863595) ⟨by omega, by omega⟩ (c := 0) Bt.zero
    obtain ⟨s1, k1, a1, r1⟩ := add64 Hgz1.out (y := 2210141511517208575) ⟨by omega, by omega⟩ (c := k0) a0.bt
    obtain ⟨s2, k2, a2, r2⟩ := add64 Hgz2.out (y := 7435674573564081700) ⟨by omega, by omega⟩ (c := k1) a1.bt
    obtain ⟨s3, k3, a3, r3⟩ := add64 Hgz3.out (y := 7239337960414712511) ⟨by omega, by omega⟩ (c := k2) a2.bt
    obtain ⟨s4, k4, a4, r4⟩ := add64 Hgz4.out (y := 5412103778470702295) ⟨by omega, by omega⟩ (c := k3) a3.bt
    obtain ⟨s5, k5, a5, r5⟩ := add64 Hgz5.out (y := 1873798617647539866) ⟨by omega, by omega⟩ (c := k4) a4.bt
    have Ha0 := shut a0; have Hr0 := shut r0; clear a0 r0
    have Ha1 := shut a1; have Hr1 := shut r1; clear a1 r1
    have Ha2 := shut a2; have Hr2 := shut r2; clear a2 r2
    have Ha3 := shut a3; have Hr3 := shut r3; clear a3 r3
    have Ha4 := shut a4; have Hr4 := shut r4; clear a4 r4
    have Ha5 := shut a5; have Hr5 := shut r5; clear a5 r5
    obtain ⟨d0, q0, o0⟩ := half_word (Ha0.out.wd) (Ha1.out.wd)
    have Hq0 := shut q0; have Ho0 := shut o0; clear q0 o0
    obtain ⟨d1, q1, o1⟩ := half_word (Ha1.out.wd) (Ha2.out.wd)
    have Hq1 := shut q1; have Ho1 := shut o1; clear q1 o1
    obtain ⟨d2, q2, o2⟩ := half_word (Ha2.out.wd) (Ha3.out.wd)
    have Hq2 := shut q2; have Ho2 := shut o2; clear q2 o2
    obtain ⟨d3, q3, o3⟩ := half_word (Ha3.out.wd) (Ha4.out.wd)
    have Hq3 := shut q3; have Ho3 := shut o3; clear q3 o3
    obtain ⟨d4, q4, o4⟩ := half_word (Ha4.out.wd) (Ha5.out.wd)
    have Hq4 := shut q4; have Ho4 := shut o4; clear q4 o4
    obtain ⟨d5, q5⟩ : ∃ d : Int, d = s5 / 2 := ⟨_, rfl⟩
    have Hq5 := shut q5; have Ho5 := shut q5.symm; clear q5
    have y0 := hz0
    have y1 : (w.setCell ⟨b, o, none⟩ (.int .u64 s0)).cell? ⟨b, o + 1, none⟩ = some (.int .u64 z1) := keep (hz1) (by omega)
    have y2 : ((w.setCell ⟨b, o, none⟩ (.int .u64 s0)).setCell ⟨b, o + 1, none⟩ (.int .u64 s1)).cell? ⟨b, o + 2, none⟩ = some (.int .u64 z2) := keep (keep (hz2) (by omega)) (by omega)
    have y3 : (((w.setCell ⟨b, o, none⟩ (.int .u64 s0)).setCell ⟨b, o + 1, none⟩ (.int .u64 s1)).setCell ⟨b, o + 2, none⟩ (.int .u64 s2)).cell? ⟨b, o + 3, none⟩ = some (.int .u64 z3) := keep (keep (keep (hz3) (by omega)) (by omega)) (by omega)
    have y4 : ((((w.setCell ⟨b, o, none⟩ (.int .u64 s0)).setCell ⟨b, o + 1, none⟩ (.int .u64 s1)).setCell ⟨b, o + 2, none⟩ (.int .u64 s2)).setCell ⟨b, o + 3, none⟩ (.int .u64 s3)).cell? ⟨b, o + 4, none⟩ = some (.int .u64 z4) := keep (keep (keep (keep (hz4) (by omega)) (by omega)) (by omega)) (by omega)
    have y5 : (((((w.setCell ⟨b, o, none⟩ (.int .u64 s0)).setCell ⟨b, o + 1, none⟩ (.int .u64 s1)).setCell ⟨b, o + 2, none⟩ (.int .u64 s2)).setCell ⟨b, o + 3, none⟩ (.int .u64 s3)).setCell ⟨b, o + 4, none⟩ (.int .u64 s4)).cell? ⟨b, o + 5, none⟩ = some (.int .u64 z5) := keep (keep (keep (keep (keep (hz5) (by omega)) (by omega)) (by omega)) (by omega)) (by omega)
    have c0 : ((((((w.setCell ⟨b, o, none⟩ (.int .u64 s0)).setCell ⟨b, o + 1, none⟩ (.int .u64 s1)).setCell ⟨b, o + 2, none⟩ (.int .u64 s2)).setCell ⟨b, o + 3, none⟩ (.int .u64 s3)).setCell ⟨b, o + 4, none⟩ (.int .u64 s4)).setCell ⟨b, o + 5, none⟩ (.int .u64 s5)).cell? ⟨b, o, none⟩ = some (.int .u64 s0) := keep (keep (keep (keep (keep (hit (hz0)) (by omega)) (by omega)) (by omega)) (by omega)) (by omega)
    have c1 : ((((((w.setCell ⟨b, o, none⟩ (.int .u64 s0)).setCell ⟨b, o + 1, none⟩ (.int .u64 s1)).setCell ⟨b, o + 2, none⟩ (.int .u64 s2)).setCell ⟨b, o + 3, none⟩ (.int .u64 s3)).setCell ⟨b, o + 4, none⟩ (.int .u64 s4)).setCell ⟨b, o + 5, none⟩ (.int .u64 s5)).cell? ⟨b, o + 1, none⟩ = some (.int .u64 s1) := keep (keep (keep (keep (hit (keep (hz1) (by omega))) (by omega)) (by omega)) (by omega)) (by omega)
    have c2 : ((((((w.setCell ⟨b, o, none⟩ (.int .u64 s0)).setCell ⟨b, o + 1, none⟩ (.int .u64 s1)).setCell ⟨b, o + 2, none⟩ (.int .u64 s2)).setCell ⟨b, o + 3, none⟩ (.int .u64 s3)).setCell ⟨b, o + 4, none⟩ (.int .u64 s4)).setCell ⟨b, o + 5, none⟩ (.int .u64 s5)).cell? ⟨b, o + 2, none⟩ = some (.int .u64 s2) := keep (keep (keep (hit (keep (keep (hz2) (by omega)) (by omega))) (by omega)) (by omega)) (by omega)
    have c3 : ((((((w.setCell ⟨b, o, none⟩ (.int .u64 s0)).setCell ⟨b, o + 1, none⟩ (.int .u64 s1)).setCell ⟨b, o + 2, none⟩ (.int .u64 s2)).setCell ⟨b, o + 3, none⟩ (.int .u64 s3)).setCell ⟨b, o + 4, none⟩ (.int .u64 s4)).setCell ⟨b, o + 5, none⟩ (.int .u64 s5)).cell? ⟨b, o + 3, none⟩ = some (.int .u64 s3) := keep (keep (hit (keep (keep (keep (hz3) (by omega)) (by omega)) (by omega))) (by omega)) (by omega)
    have c4 : ((((((w.setCell ⟨b, o, none⟩ (.int .u64 s0)).setCell ⟨b, o + 1, none⟩ (.int .u64 s1)).setCell ⟨b, o + 2, none⟩ (.int .u64 s2)).setCell ⟨b, o + 3, none⟩ (.int .u64 s3)).setCell ⟨b, o + 4, none⟩ (.int .u64 s4)).setCell ⟨b, o + 5, none⟩ (.int .u64 s5)).cell? ⟨b, o + 4, none⟩ = some (.int .u64 s4) := keep (hit (keep (keep (keep (keep (hz4) (by omega)) (by omega)) (by omega)) (by omega))) (by omega)
    have c5 : ((((((w.setCell ⟨b, o, none⟩ (.int .u64 s0)).setCell ⟨b, o + 1, none⟩ (.int .u64 s1)).setCell ⟨b, o + 2, none⟩ (.int .u64 s2)).setCell ⟨b, o + 3, none⟩ (.int .u64 s3)).setCell ⟨b, o + 4, none⟩ (.int .u64 s4)).setCell ⟨b, o + 5, none⟩ (.int .u64 s5)).cell? ⟨b, o + 5, none⟩ = some (.int .u64 s5) := hit (keep (keep (keep (keep (keep (hz5) (by omega)) (by omega)) (by omega)) (by omega)) (by omega))
    have Hy0 := shut y0; have Hc0 := shut c0; clear y0 c0
    have Hy1 := shut y1; have Hc1 := shut c1; clear y1 c1
    have Hy2 := shut y2; have Hc2 := shut c2; clear y2 c2
    have Hy3 := shut y3; have Hc3 := shut c3; clear y3 c3
    have Hy4 := shut y4; have Hc4 := shut c4; clear y4 c4
    have Hy5 := shut y5; have Hc5 := shut c5; clear y5 c5
    have p0 : ((((((w.setCell ⟨b, o, none⟩ (.int .u64 s0)).setCell ⟨b, o + 1, none⟩ (.int .u64 s1)).setCell ⟨b, o + 2, none⟩ (.int .u64 s2)).setCell ⟨b, o + 3, none⟩ (.int .u64 s3)).setCell ⟨b, o + 4, none⟩ (.int .u64 s4)).setCell ⟨b, o + 5, none⟩ (.int .u64 s5)).cell? ⟨b, o, none⟩ = some (.int .u64 s0) := Hc0.out
    have n0 : ((((((w.setCell ⟨b, o, none⟩ (.int .u64 s0)).setCell ⟨b, o + 1, none⟩ (.int .u64 s1)).setCell ⟨b, o + 2, none⟩ (.int .u64 s2)).setCell ⟨b, o + 3, none⟩ (.int .u64 s3)).setCell ⟨b, o + 4, none⟩ (.int .u64 s4)).setCell ⟨b, o + 5, none⟩ (.int .u64 s5)).cell? ⟨b, o + 1, none⟩ = some (.int .u64 s1) := Hc1.out
    have p1 : (((((((w.setCell ⟨b, o, none⟩ (.int .u64 s0)).setCell ⟨b, o + 1, none⟩ (.int .u64 s1)).setCell ⟨b, o + 2, none⟩ (.int .u64 s2)).setCell ⟨b, o + 3, none⟩ (.int .u64 s3)).setCell ⟨b, o + 4, none⟩ (.int .u64 s4)).setCell ⟨b, o + 5, none⟩ (.int .u64 s5)).setCell ⟨b, o, none⟩ (.int .u64 d0)).cell? ⟨b, o + 1, none⟩ = some (.int .u64 s1) := keep (Hc1.out) (by omega)
    have n1 : (((((((w.setCell ⟨b, o, none⟩ (.int .u64 s0)).setCell ⟨b, o + 1, none⟩ (.int .u64 s1)).setCell ⟨b, o + 2, none⟩ (.int .u64 s2)).setCell ⟨b, o + 3, none⟩ (.int .u64 s3)).setCell ⟨b, o + 4, none⟩ (.int .u64 s4)).setCell ⟨b, o + 5, none⟩ (.int .u64 s5)).setCell ⟨b, o, none⟩ (.int .u64 d0)).cell? ⟨b, o + 2, none⟩ = some (.int .u64 s2) := keep (Hc2.out) (by omega)
    have p2 : ((((((((w.setCell ⟨b, o, none⟩ (.int .u64 s0)).setCell ⟨b, o + 1, none⟩ (.int .u64 s1)).setCell ⟨b, o + 2, none⟩ (.int .u64 s2)).setCell ⟨b, o + 3, none⟩ (.int .u64 s3)).setCell ⟨b, o + 4, none⟩ (.int .u64 s4)).setCell ⟨b, o + 5, none⟩ (.int .u64 s5)).setCell ⟨b, o, none⟩ (.int .u64 d0)).setCell ⟨b, o + 1, none⟩ (.int .u64 d1)).cell? ⟨b, o + 2, none⟩ = some (.int .u64 s2) := keep (keep (Hc2.out) (by omega)) (by omega)
    have n2 : ((((((((w.setCell ⟨b, o, none⟩ (.int .u64 s0)).setCell ⟨b, o + 1, none⟩ (.int .u64 s1)).setCell ⟨b, o + 2, none⟩ (.int .u64 s2)).setCell ⟨b, o + 3, none⟩ (.int .u64 s3)).setCell ⟨b, o + 4, none⟩ (.int .u64 s4)).setCell ⟨b, o + 5, none⟩ (.int .u64 s5)).setCell ⟨b, o, none⟩ (.int .u64 d0)).setCell ⟨b, o + 1, none⟩ (.int .u64 d1)).cell? ⟨b, o + 3, none⟩ = some (.int .u64 s3) := keep (keep (Hc3.out) (by omega)) (by omega)
    have p3 : (((((((((w.setCell ⟨b, o, none⟩ (.int .u64 s0)).setCell ⟨b, o + 1, none⟩ (.int .u64 s1)).setCell ⟨b, o + 2, none⟩ (.int .u64 s2)).setCell ⟨b, o + 3, none⟩ (.int .u64 s3)).setCell ⟨b, o + 4, none⟩ (.int .u64 s4)).setCell ⟨b, o + 5, none⟩ (.int .u64 s5)).setCell ⟨b, o, none⟩ (.int .u64 d0)).setCell ⟨b, o + 1, none⟩ (.int .u64 d1)).setCell ⟨b, o + 2, none⟩ (.int .u64 d2)).cell? ⟨b, o + 3, none⟩ = some (.int .u64 s3) := keep (keep (keep (Hc3.out) (by omega)) (by omega)) (by omega)
    have n3 : (((((((((w.setCell ⟨b, o, none⟩ (.int .u64 s0)).setCell ⟨b, o + 1, none⟩ (.int .u64 s1)).setCell ⟨b, o + 2, none⟩ (.int .u64 s2)).setCell ⟨b, o + 3, none⟩ (.int .u64 s3)).setCell ⟨b, o + 4, none⟩ (.int .u64 s4)).setCell ⟨b, o + 5, none⟩ (.int .u64 s5)).setCell ⟨b, o, none⟩ (.int .u64 d0)).setCell ⟨b, o + 1, none⟩ (.int .u64 d1)).setCell ⟨b, o + 2, none⟩ (.int .u64 d2)).cell? ⟨b, o + 4, none⟩ = some (.int .u64 s4) := keep (keep (keep (Hc4.out) (by omega)) (by omega)) (by omega)
    have p4 : ((((((((((w.setCell ⟨b, o, none⟩ (.int .u64 s0)).setCell ⟨b, o + 1, none⟩ (.int .u64 s1)).setCell ⟨b, o + 2, none⟩ (.int .u64 s2)).setCell ⟨b, o + 3, none⟩ (.int .u64 s3)).setCell ⟨b, o + 4, none⟩ (.int .u64 s4)).setCell ⟨b, o + 5, none⟩ (.int .u64 s5)).setCell ⟨b, o, none⟩ (.int .u64 d0)).setCell ⟨b, o + 1, none⟩ (.int .u64 d1)).setCell ⟨b, o + 2, none⟩ (.int .u64 d2)).setCell ⟨b, o + 3, none⟩ (.int .u64 d3)).cell? ⟨b, o + 4, none⟩ = some (.int .u64 s4) := keep (keep (keep (keep (Hc4.out) (by omega)) (by omega)) (by omega)) (by omega)
    have n4 : ((((((((((w.setCell ⟨b, o, none⟩ (.int .u64 s0)).setCell ⟨b, o + 1, none⟩ (.int .u64 s1)).setCell ⟨b, o + 2, none⟩ (.int .u64 s2)).setCell ⟨b, o + 3, none⟩ (.int .u64 s3)).setCell ⟨b, o + 4, none⟩ (.int .u64 s4)).setCell ⟨b, o + 5, none⟩ (.int .u64 s5)).setCell ⟨b, o, none⟩ (.int .u64 d0)).setCell ⟨b, o + 1, none⟩ (.int .u64 d1)).setCell ⟨b, o + 2, none⟩ (.int .u64 d2)).setCell ⟨b, o + 3, none⟩ (.int .u64 d3)).cell? ⟨b, o + 5, none⟩ = some (.int .u64 s5) := keep (keep (keep (keep (Hc5.out) (by omega)) (by omega)) (by omega)) (by omega)
    have p5 : (((((((((((w.setCell ⟨b, o, none⟩ (.int .u64 s0)).setCell ⟨b, o + 1, none⟩ (.int .u64 s1)).setCell ⟨b, o + 2, none⟩ (.int .u64 s2)).setCell ⟨b, o + 3, none⟩ (.int .u64 s3)).setCell ⟨b, o + 4, none⟩ (.int .u64 s4)).setCell ⟨b, o + 5, none⟩ (.int .u64 s5)).setCell ⟨b, o, none⟩ (.int .u64 d0)).setCell ⟨b, o + 1, none⟩ (.int .u64 d1)).setCell ⟨b, o + 2, none⟩ (.int .u64 d2)).setCell ⟨b, o + 3, none⟩ (.int .u64 d3)).setCell ⟨b, o + 4, none⟩ (.int .u64 d4)).cell? ⟨b, o + 5, none⟩ = some (.int .u64 s5) := keep (keep (keep (keep (keep (Hc5.out) (by omega)) (by omega)) (by omega)) (by omega)) (by omega)
    have Hp0 := shut p0; clear p0
    have Hp1 := shut p1; clear p1
    have Hp2 := shut p2; clear p2
    have Hp3 := shut p3; clear p3
    have Hp4 := shut p4; clear p4
    have Hp5 := shut p5; clear p5
    have Hn0 := shut n0; clear n0
    have Hn1 := shut n1; clear n1
    have Hn2 := shut n2; clear n2
    have Hn3 := shut n3; clear n3
    have Hn4 := shut n4; clear n4
    have Hz0 := shut hz0; clear hz0 hz1 hz2 hz3 hz4 hz5
    go_enter Try.func28, Try.ntmps28
    have o0 := Hz0.out; have o1 := HT2.out
    go_wp2_with fail
    clear o0 o1
    have o0 := Hy0.out
    have o1 := Hr0.out
    have o2 := Hfz0.out
    go_region
    clear o0 o1 o2
    go_wp2_with fail
    have o0 := Hy1.out
    have o1 := Hr1.out
    have o2 := Hfz1.out
    go_region
    clear o0 o1 o2
    go_wp2_with fail
    have o0 := Hy2.out
    have o1 := Hr2.out
    have o2 := Hfz2.out
    go_region
    clear o0 o1 o2
    go_wp2_with fail
    have o0 := Hy3.out
    have o1 := Hr3.out
    have o2 := Hfz3.out
    go_region
    clear o0 o1 o2
    go_wp2_with fail
    have o0 := Hy4.out
    have o1 := Hr4.out
    have o2 := Hfz4.out
    go_region
    clear o0 o1 o2
    go_wp2_with fail
    have o0 := Hy5.out
    have o1 := Hr5.out
    have o2 := Hfz5.out
    go_region
    clear o0 o1 o2
    go_wp2_with fail
    have o0 := Hp0.out
    have o1 := Hn0.out
    have o2 := Ho0.out
    have o3 := Hfz0.out
    go_region
    clear o0 o1 o2 o3
    go_wp2_with fail
    have o0 := Hp1.out
    have o1 := Hn1.out
    have o2 := Ho1.out
    have o3 := Hfz1.out
    go_region
    clear o0 o1 o2 o3
    go_wp2_with fail
    have o0 := Hp2.out
    have o1 := Hn2.out
    have o2 := Ho2.out
    have o3 := Hfz2.out
    go_region
    clear o0 o1 o2 o3
    go_wp2_with fail
    have o0 := Hp3.out
    have o1 := Hn3.out
    have o2 := Ho3.out
    have o3 := Hfz3.out
    go_region
    clear o0 o1 o2 o3
    go_wp2_with fail
    have o0 := Hp4.out
    have o1 := Hn4.out
    have o2 := Ho4.out
    have o3 := Hfz4.out
    go_region
    clear o0 o1 o2 o3
    go_wp2_with fail
    have o0 := Hp5.out
    have o1 := Ho5.out
    have o2 := Hfz5.out
    go_region
    clear o0 o1 o2
    try go_wp2_with fail
    go_end0
    refine ⟨rfl, d0, d1, d2, d3, d4, d5, ⟨Hq0.out.2, Hq1.out.2, Hq2.out.2, Hq3.out.2, Hq4.out.2, ?_⟩, ?_, 12, ?_⟩
    · have h1 := (Ha5.out.wd).1; have h2 := (Ha5.out.wd).2; have h3 := Hq5.out; exact ⟨by omega, by omega⟩
    · rw [half_num Hq0.out.1 Hq1.out.1 Hq2.out.1 Hq3.out.1 Hq4.out.1 Hq5.out]; exact half_odd (adds_nump Ha0.out Ha1.out Ha2.out Ha3.out Ha4.out Ha5.out) (num_pos Hgz0.out Hgz1.out Hgz2.out Hgz3.out Hgz4.out Hgz5.out) (num_pos Ha0.out.wd Ha1.out.wd Ha2.out.wd Ha3.out.wd Ha4.out.wd Ha5.out.wd) Ha5.out.bt HhZ.out (by rw [odd_num]; exact HL.out)
    · rw [set_again]; with_reducible exact drewn_12 _
  ·
    have ht : (bits .and .u64 z0 1 == 1) = false := by rw [HT.out]; simpa using hl
    have HL := shut hl; have HT2 := shut ht; clear hl ht
    obtain ⟨d0, q0, o0⟩ := half_word (Hgz0.out) (Hgz1.out)
    have Hq0 := shut q0; have Ho0 := shut o0; clear q0 o0
    obtain ⟨d1, q1, o1⟩ := half_word (Hgz1.out) (Hgz2.out)
    have Hq1 := shut q1; have Ho1 := shut o1; clear q1 o1
    obtain ⟨d2, q2, o2⟩ := half_word (Hgz2.out) (Hgz3.out)
    have Hq2 := shut q2; have Ho2 := shut o2; clear q2 o2
    obtain ⟨d3, q3, o3⟩ := half_word (Hgz3.out) (Hgz4.out)
    have Hq3 := shut q3; have Ho3 := shut o3; clear q3 o3
    obtain ⟨d4, q4, o4⟩ := half_word (Hgz4.out) (Hgz5.out)
    have Hq4 := shut q4; have Ho4 := shut o4; clear q4 o4
    obtain ⟨d5, q5⟩ : ∃ d : Int, d = z5 / 2 := ⟨_, rfl⟩
    have Hq5 := shut q5; have Ho5 := shut q5.symm; clear q5
    have Hc0 := shut hz0
    have Hc1 := shut hz1
    have Hc2 := shut hz2
    have Hc3 := shut hz3
    have Hc4 := shut hz4
    have Hc5 := shut hz5
    have p0 : w.cell? ⟨b, o, none⟩ = some (.int .u64 z0) := Hc0.out
    have n0 : w.cell? ⟨b, o + 1, none⟩ = some (.int .u64 z1) := Hc1.out
    have p1 : (w.setCell ⟨b, o, none⟩ (.int .u64 d0)).cell? ⟨b, o + 1, none⟩ = some (.int .u64 z1) := keep (Hc1.out) (by omega)
    have n1 : (w.setCell ⟨b, o, none⟩ (.int .u64 d0)).cell? ⟨b, o + 2, none⟩ = some (.int .u64 z2) := keep (Hc2.out) (by omega)
    have p2 : ((w.setCell ⟨b, o, none⟩ (.int .u64 d0)).setCell ⟨b, o + 1, none⟩ (.int .u64 d1)).cell? ⟨b, o + 2, none⟩ = some (.int .u64 z2) := keep (keep (Hc2.out) (by omega)) (by omega)
    have n2 : ((w.setCell ⟨b, o, none⟩ (.int .u64 d0)).setCell ⟨b, o + 1, none⟩ (.int .u64 d1)).cell? ⟨b, o + 3, none⟩ = some (.int .u64 z3) := keep (keep (Hc3.out) (by omega)) (by omega)
    have p3 : (((w.setCell ⟨b, o, none⟩ (.int .u64 d0)).setCell ⟨b, o + 1, none⟩ (.int .u64 d1)).setCell ⟨b, o + 2, none⟩ (.int .u64 d2)).cell? ⟨b, o + 3, none⟩ = some (.int .u64 z3) := keep (keep (keep (Hc3.out) (by omega)) (by omega)) (by omega)
    have n3 : (((w.setCell ⟨b, o, none⟩ (.int .u64 d0)).setCell ⟨b, o + 1, none⟩ (.int .u64 d1)).setCell ⟨b, o + 2, none⟩ (.int .u64 d2)).cell? ⟨b, o + 4, none⟩ = some (.int .u64 z4) := keep (keep (keep (Hc4.out) (by omega)) (by omega)) (by omega)
    have p4 : ((((w.setCell ⟨b, o, none⟩ (.int .u64 d0)).setCell ⟨b, o + 1, none⟩ (.int .u64 d1)).setCell ⟨b, o + 2, none⟩ (.int .u64 d2)).setCell ⟨b, o + 3, none⟩ (.int .u64 d3)).cell? ⟨b, o + 4, none⟩ = some (.int .u64 z4) := keep (keep (keep (keep (Hc4.out) (by omega)) (by omega)) (by omega)) (by omega)
    have n4 : ((((w.setCell ⟨b, o, none⟩ (.int .u64 d0)).setCell ⟨b, o + 1, none⟩ (.int .u64 d1)).setCell ⟨b, o + 2, none⟩ (.int .u64 d2)).setCell ⟨b, o + 3, none⟩ (.int .u64 d3)).cell? ⟨b, o + 5, none⟩ = some (.int .u64 z5) := keep (keep (keep (keep (Hc5.out) (by omega)) (by omega)) (by omega)) (by omega)
    have p5 : (((((w.setCell ⟨b, o, none⟩ (.int .u64 d0)).setCell ⟨b, o + 1, none⟩ (.int .u64 d1)).setCell ⟨b, o + 2, none⟩ (.int .u64 d2)).setCell ⟨b, o + 3, none⟩ (.int .u64 d3)).setCell ⟨b, o + 4, none⟩ (.int .u64 d4)).cell? ⟨b, o + 5, none⟩ = some (.int .u64 z5) := keep (keep (keep (keep (keep (Hc5.out) (by omega)) (by omega)) (by omega)) (by omega)) (by omega)
    have Hp0 := shut p0; clear p0
    have Hp1 := shut p1; clear p1
    have Hp2 := shut p2; clear p2
    have Hp3 := shut p3; clear p3
    have Hp4 := shut p4; clear p4
    have Hp5 := shut p5; clear p5
    have Hn0 := shut n0; clear n0
    have Hn1 := shut n1; clear n1
    have Hn2 := shut n2; clear n2
    have Hn3 := shut n3; clear n3
    have Hn4 := shut n4; clear n4
    clear hz0 hz1 hz2 hz3 hz4 hz5
    go_enter Try.func28, Try.ntmps28
    have o0 := Hc0.out; have o1 := HT2.out
    go_wp2_with fail
    clear o0 o1
    have o0 := Hp0.out
    have o1 := Hn0.out
    have o2 := Ho0.out
    have o3 := Hfz0.out
    go_region
    clear o0 o1 o2 o3
    go_wp2_with fail
    have o0 := Hp1.out
    have o1 := Hn1.out
    have o2 := Ho1.out
    have o3 := Hfz1.out
    go_region
    clear o0 o1 o2 o3
    go_wp2_with fail
    have o0 := Hp2.out
    have o1 := Hn2.out
    have o2 := Ho2.out
    have o3 := Hfz2.out
    go_region
    clear o0 o1 o2 o3
    go_wp2_with fail
    have o0 := Hp3.out
    have o1 := Hn3.out
    have o2 := Ho3.out
    have o3 := Hfz3.out
    go_region
    clear o0 o1 o2 o3
    go_wp2_with fail
    have o0 := Hp4.out
    have o1 := Hn4.out
    have o2 := Ho4.out
    have o3 := Hfz4.out
    go_region
    clear o0 o1 o2 o3
    go_wp2_with fail
    have o0 := Hp5.out
    have o1 := Ho5.out
    have o2 := Hfz5.out
    go_region
    clear o0 o1 o2
    try go_wp2_with fail
    go_end0
    refine ⟨rfl, d0, d1, d2, d3, d4, d5, ⟨Hq0.out.2, Hq1.out.2, Hq2.out.2, Hq3.out.2, Hq4.out.2, ?_⟩, ?_, 6, ?_⟩
    · have h1 := (Hgz5.out).1; have h2 := (Hgz5.out).2; have h3 := Hq5.out; exact ⟨by omega, by omega⟩
    · rw [half_num Hq0.out.1 Hq1.out.1 Hq2.out.1 Hq3.out.1 Hq4.out.1 Hq5.out]; exact half_even (by rw [odd_num]; exact HL.out)
    · with_reducible exact drewn_6 _

theorem ehalve (b o X R : Nat) (w : World) (hR : R = halve X) (hX : X < 4002409555221667393417789825735904156556882819939007885332058136124031650490837864442687629129015664037894272559787) (hz0 : w.cell? ⟨b, o, none⟩ = some (.int .u64 (wd X 0 : Nat))) (hz1 : w.cell? ⟨b, o + 1, none⟩ = some (.int .u64 (wd X 1 : Nat))) (hz2 : w.cell? ⟨b, o + 2, none⟩ = some (.int .u64 (wd X 2 : Nat))) (hz3 : w.cell? ⟨b, o + 3, none⟩ = some (.int .u64 (wd X 3 : Nat))) (hz4 : w.cell? ⟨b, o + 4, none⟩ = some (.int .u64 (wd X 4 : Nat))) (hz5 : w.cell? ⟨b, o + 5, none⟩ = some (.int .u64 (wd X 5 : Nat))) (fz0 : w.frozen? ⟨b, o, none⟩ = false) (fz1 : w.frozen? ⟨b, o + 1, none⟩ = false) (fz2 : w.frozen? ⟨b, o + 2, none⟩ = false) (fz3 : w.frozen? ⟨b, o + 3, none⟩ = false) (fz4 : w.frozen? ⟨b, o + 4, none⟩ = false) (fz5 : w.frozen? ⟨b, o + 5, none⟩ = false) :
    Calls Try.prog 28 #[.pointer (some ⟨b, o, none⟩)] w fun e w' => e = .returned (.tuple #[]) ∧ ∃ m, w' = ((((((w.setCell ⟨b, o, none⟩ (.int .u64 (wd R 0 : Nat))).setCell ⟨b, o + 1, none⟩ (.int .u64 (wd R 1 : Nat))).setCell ⟨b, o + 2, none⟩ (.int .u64 (wd R 2 : Nat))).setCell ⟨b, o + 3, none⟩ (.int .u64 (wd R 3 : Nat))).setCell ⟨b, o + 4, none⟩ (.int .u64 (wd R 4 : Nat))).setCell ⟨b, o + 5, none⟩ (.int .u64 (wd R 5 : Nat))).drewN m := by
  have nX : num (wd X 0 : Nat) (wd X 1 : Nat) (wd X 2 : Nat) (wd X 3 : Nat) (wd X 4 : Nat) (wd X 5 : Nat) = (X : Int) := num_wd (by omega)
  refine (ehalve_t b o _ _ _ _ _ _ w (by rw [nX]; omega) (wd_nat _ _) (wd_nat _ _) (wd_nat _ _) (wd_nat _ _) (wd_nat _ _) (wd_nat _ _) hz0 hz1 hz2 hz3 hz4 hz5 fz0 fz1 fz2 fz3 fz4 fz5).mono ?_
  rintro e w' ⟨he, d0, d1, d2, d3, d4, d5, ⟨g0, g1, g2, g3, g4, g5⟩, hn, m, hw⟩
  obtain ⟨r0, r1, r2, r3, r4, r5⟩ := wd_num (A := R) g0 g1 g2 g3 g4 g5 (by rw [hn, nX, hR]; unfold halve halveI; split <;> split <;> omega)
  subst d0 d1 d2 d3 d4 d5
  exact ⟨he, m, hw⟩

end Go.Proofs.Ytmkmakeoidmdhaa
