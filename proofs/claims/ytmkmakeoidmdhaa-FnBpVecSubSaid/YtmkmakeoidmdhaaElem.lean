/- Contracts of the field's functions on words: the test against the prime; sum, difference, double, each modulo the prime. -/
import Derived.Test.YtmkmakeoidmdhaaBits
import Derived.WalkKit
import Derived.WalkSpells
import Derived.WalkLawsBesides
import Derived.Deep.QuietTactic
import Derived.BigQuiet
import Derived.BigRegion
namespace Go.Proofs.Ytmkmakeoidmdhaa
open Go.RowKit Num

/-- A number of its words. -/
def num (z0 z1 z2 z3 z4 z5 : Int) : Int := z0 + 18446744073709551616 * z1 + 340282366920938463463374607431768211456 * z2 + 6277101735386680763835789423207666416102355444464034512896 * z3 + 115792089237316195423570985008687907853269984665640564039457584007913129639936 * z4 + 2135987035920910082395021706169552114602704522356652769947041607822219725780640550022962086936576 * z5
theorem num_pos {x0 x1 x2 x3 x4 x5 : Int} (g0 : Wd x0) (g1 : Wd x1) (g2 : Wd x2) (g3 : Wd x3) (g4 : Wd x4) (g5 : Wd x5) : 0 ≤ num x0 x1 x2 x3 x4 x5 := by
  unfold Wd at *; unfold num; omega
theorem num_top {x0 x1 x2 x3 x4 x5 : Int} (g0 : Wd x0) (g1 : Wd x1) (g2 : Wd x2) (g3 : Wd x3) (g4 : Wd x4) (g5 : Wd x5) : num x0 x1 x2 x3 x4 x5 < 39402006196394479212279040100143613805079739270465446667948293404245721771497210611414266254884915640806627990306816 := by
  unfold Wd at *; unfold num; omega
theorem adds_num {x0 x1 x2 x3 x4 x5 y0 y1 y2 y3 y4 y5 s0 s1 s2 s3 s4 s5 k0 k1 k2 k3 k4 k5 : Int} (a0 : Adds x0 y0 0 s0 k0) (a1 : Adds x1 y1 k0 s1 k1) (a2 : Adds x2 y2 k1 s2 k2) (a3 : Adds x3 y3 k2 s3 k3) (a4 : Adds x4 y4 k3 s4 k4) (a5 : Adds x5 y5 k4 s5 k5) : num x0 x1 x2 x3 x4 x5 + num y0 y1 y2 y3 y4 y5 = num s0 s1 s2 s3 s4 s5 + 39402006196394479212279040100143613805079739270465446667948293404245721771497210611414266254884915640806627990306816 * k5 := by
  unfold Adds at *; unfold num; omega
theorem adds_nump {s0 s1 s2 s3 s4 s5 d0 d1 d2 d3 d4 d5 e0 e1 e2 e3 e4 e5 : Int} (b0 : Adds s0 13402431016077863595 0 d0 e0) (b1 : Adds s1 2210141511517208575 e0 d1 e1) (b2 : Adds s2 7435674573564081700 e1 d2 e2) (b3 : Adds s3 7239337960414712511 e2 d3 e3) (b4 : Adds s4 5412103778470702295 e3 d4 e4) (b5 : Adds s5 1873798617647539866 e4 d5 e5) : num s0 s1 s2 s3 s4 s5 + 4002409555221667393417789825735904156556882819939007885332058136124031650490837864442687629129015664037894272559787 = num d0 d1 d2 d3 d4 d5 + 39402006196394479212279040100143613805079739270465446667948293404245721771497210611414266254884915640806627990306816 * e5 := by
  unfold Adds at *; unfold num; omega
theorem subs_num {x0 x1 x2 x3 x4 x5 y0 y1 y2 y3 y4 y5 s0 s1 s2 s3 s4 s5 k0 k1 k2 k3 k4 k5 : Int} (a0 : Subs x0 y0 0 s0 k0) (a1 : Subs x1 y1 k0 s1 k1) (a2 : Subs x2 y2 k1 s2 k2) (a3 : Subs x3 y3 k2 s3 k3) (a4 : Subs x4 y4 k3 s4 k4) (a5 : Subs x5 y5 k4 s5 k5) : num x0 x1 x2 x3 x4 x5 - num y0 y1 y2 y3 y4 y5 = num s0 s1 s2 s3 s4 s5 - 39402006196394479212279040100143613805079739270465446667948293404245721771497210611414266254884915640806627990306816 * k5 := by
  unfold Subs at *; unfold num; omega
theorem subs_nump {s0 s1 s2 s3 s4 s5 d0 d1 d2 d3 d4 d5 e0 e1 e2 e3 e4 e5 : Int} (b0 : Subs s0 13402431016077863595 0 d0 e0) (b1 : Subs s1 2210141511517208575 e0 d1 e1) (b2 : Subs s2 7435674573564081700 e1 d2 e2) (b3 : Subs s3 7239337960414712511 e2 d3 e3) (b4 : Subs s4 5412103778470702295 e3 d4 e4) (b5 : Subs s5 1873798617647539866 e4 d5 e5) : num s0 s1 s2 s3 s4 s5 - 4002409555221667393417789825735904156556882819939007885332058136124031650490837864442687629129015664037894272559787 = num d0 d1 d2 d3 d4 d5 - 39402006196394479212279040100143613805079739270465446667948293404245721771497210611414266254884915640806627990306816 * e5 := by
  unfold Subs at *; unfold num; omega
theorem add_small {X Y S k : Int} (h : X + Y = S + 39402006196394479212279040100143613805079739270465446667948293404245721771497210611414266254884915640806627990306816 * k) (x0 : 0 ≤ X) (y0 : 0 ≤ Y) (_s0 : 0 ≤ S) (_s1 : S < 39402006196394479212279040100143613805079739270465446667948293404245721771497210611414266254884915640806627990306816) (hk : Bt k) (hx : X < 4002409555221667393417789825735904156556882819939007885332058136124031650490837864442687629129015664037894272559787) (hy : Y < 4002409555221667393417789825735904156556882819939007885332058136124031650490837864442687629129015664037894272559787) (hl : S < 4002409555221667393417789825735904156556882819939007885332058136124031650490837864442687629129015664037894272559787) : S = (X + Y) % 4002409555221667393417789825735904156556882819939007885332058136124031650490837864442687629129015664037894272559787 := by
  obtain ⟨h0, h1⟩ := hk
  have : k = 0 := by omega
  subst this
  rw [h, Int.emod_eq_of_lt (by omega) (by omega)]; omega
theorem add_big {X Y S D k e : Int} (h : X + Y = S + 39402006196394479212279040100143613805079739270465446667948293404245721771497210611414266254884915640806627990306816 * k) (h' : S - 4002409555221667393417789825735904156556882819939007885332058136124031650490837864442687629129015664037894272559787 = D - 39402006196394479212279040100143613805079739270465446667948293404245721771497210611414266254884915640806627990306816 * e) (x0 : 0 ≤ X) (y0 : 0 ≤ Y) (_s0 : 0 ≤ S) (_s1 : S < 39402006196394479212279040100143613805079739270465446667948293404245721771497210611414266254884915640806627990306816) (d0 : 0 ≤ D) (d1 : D < 39402006196394479212279040100143613805079739270465446667948293404245721771497210611414266254884915640806627990306816) (hk : Bt k) (he : Bt e) (hx : X < 4002409555221667393417789825735904156556882819939007885332058136124031650490837864442687629129015664037894272559787) (hy : Y < 4002409555221667393417789825735904156556882819939007885332058136124031650490837864442687629129015664037894272559787) (hl : ¬ S < 4002409555221667393417789825735904156556882819939007885332058136124031650490837864442687629129015664037894272559787) : D = (X + Y) % 4002409555221667393417789825735904156556882819939007885332058136124031650490837864442687629129015664037894272559787 := by
  obtain ⟨h0, h1⟩ := hk
  obtain ⟨g0, g1⟩ := he
  have : k = 0 := by omega
  have : e = 0 := by omega
  subst k e
  have : (X + Y) % 4002409555221667393417789825735904156556882819939007885332058136124031650490837864442687629129015664037894272559787 = D := by rw [show X + Y = D + 4002409555221667393417789825735904156556882819939007885332058136124031650490837864442687629129015664037894272559787 from by omega, Int.add_emod_right, Int.emod_eq_of_lt (by omega) (by omega)]
  omega
theorem sub_small {X Y S k : Int} (h : X - Y = S - 39402006196394479212279040100143613805079739270465446667948293404245721771497210611414266254884915640806627990306816 * k) (_x0 : 0 ≤ X) (y0 : 0 ≤ Y) (_s0 : 0 ≤ S) (_s1 : S < 39402006196394479212279040100143613805079739270465446667948293404245721771497210611414266254884915640806627990306816) (_hk : Bt k) (hx : X < 4002409555221667393417789825735904156556882819939007885332058136124031650490837864442687629129015664037894272559787) (_hy : Y < 4002409555221667393417789825735904156556882819939007885332058136124031650490837864442687629129015664037894272559787) (hl : k = 0) : S = (X + 4002409555221667393417789825735904156556882819939007885332058136124031650490837864442687629129015664037894272559787 - Y) % 4002409555221667393417789825735904156556882819939007885332058136124031650490837864442687629129015664037894272559787 := by
  subst hl
  have : (X + 4002409555221667393417789825735904156556882819939007885332058136124031650490837864442687629129015664037894272559787 - Y) % 4002409555221667393417789825735904156556882819939007885332058136124031650490837864442687629129015664037894272559787 = S := by rw [show X + 4002409555221667393417789825735904156556882819939007885332058136124031650490837864442687629129015664037894272559787 - Y = S + 4002409555221667393417789825735904156556882819939007885332058136124031650490837864442687629129015664037894272559787 from by omega, Int.add_emod_right, Int.emod_eq_of_lt (by omega) (by omega)]
  omega
theorem sub_big {X Y S D k e : Int} (h : X - Y = S - 39402006196394479212279040100143613805079739270465446667948293404245721771497210611414266254884915640806627990306816 * k) (h' : S + 4002409555221667393417789825735904156556882819939007885332058136124031650490837864442687629129015664037894272559787 = D + 39402006196394479212279040100143613805079739270465446667948293404245721771497210611414266254884915640806627990306816 * e) (x0 : 0 ≤ X) (y0 : 0 ≤ Y) (_s0 : 0 ≤ S) (_s1 : S < 39402006196394479212279040100143613805079739270465446667948293404245721771497210611414266254884915640806627990306816) (d0 : 0 ≤ D) (d1 : D < 39402006196394479212279040100143613805079739270465446667948293404245721771497210611414266254884915640806627990306816) (hk : Bt k) (he : Bt e) (_hx : X < 4002409555221667393417789825735904156556882819939007885332058136124031650490837864442687629129015664037894272559787) (hy : Y < 4002409555221667393417789825735904156556882819939007885332058136124031650490837864442687629129015664037894272559787) (hl : ¬ k = 0) : D = (X + 4002409555221667393417789825735904156556882819939007885332058136124031650490837864442687629129015664037894272559787 - Y) % 4002409555221667393417789825735904156556882819939007885332058136124031650490837864442687629129015664037894272559787 := by
  obtain ⟨h0, h1⟩ := hk
  obtain ⟨g0, g1⟩ := he
  have : k = 1 := by omega
  have : e = 1 := by omega
  subst k e
  rw [show X + 4002409555221667393417789825735904156556882819939007885332058136124031650490837864442687629129015664037894272559787 - Y = D from by omega, Int.emod_eq_of_lt (by omega) (by omega)]
theorem num_wd {A : Nat} (h : A < 39402006196394479212279040100143613805079739270465446667948293404245721771497210611414266254884915640806627990306816) : num (wd A 0 : Nat) (wd A 1 : Nat) (wd A 2 : Nat) (wd A 3 : Nat) (wd A 4 : Nat) (wd A 5 : Nat) = (A : Int) := by
  unfold num wd; omega
theorem wd_num {x0 x1 x2 x3 x4 x5 : Int} {A : Nat} (g0 : Wd x0) (g1 : Wd x1) (g2 : Wd x2) (g3 : Wd x3) (g4 : Wd x4) (g5 : Wd x5) (h : num x0 x1 x2 x3 x4 x5 = (A : Int)) : x0 = (wd A 0 : Nat) ∧ x1 = (wd A 1 : Nat) ∧ x2 = (wd A 2 : Nat) ∧ x3 = (wd A 3 : Nat) ∧ x4 = (wd A 4 : Nat) ∧ x5 = (wd A 5 : Nat) := by
  unfold Wd at *; unfold num at h; unfold wd; omega
set_option maxRecDepth 100000 in
set_option maxHeartbeats 1600000 in
theorem small_any (b o : Nat) (z0 z1 z2 z3 z4 z5 : Int) (w : World) (g0 : Wd z0) (g1 : Wd z1) (g2 : Wd z2) (g3 : Wd z3) (g4 : Wd z4) (g5 : Wd z5) (h0 : w.cell? ⟨b, o, none⟩ = some (.int .u64 z0)) (h1 : w.cell? ⟨b, o + 1, none⟩ = some (.int .u64 z1)) (h2 : w.cell? ⟨b, o + 2, none⟩ = some (.int .u64 z2)) (h3 : w.cell? ⟨b, o + 3, none⟩ = some (.int .u64 z3)) (h4 : w.cell? ⟨b, o + 4, none⟩ = some (.int .u64 z4)) (h5 : w.cell? ⟨b, o + 5, none⟩ = some (.int .u64 z5)) :
    Calls Try.prog 41 #[.pointer (some ⟨b, o, none⟩)] w fun e w' => e = .returned (.bool (decide (num z0 z1 z2 z3 z4 z5 < 4002409555221667393417789825735904156556882819939007885332058136124031650490837864442687629129015664037894272559787))) ∧ w = w' := by
  obtain ⟨l0, u0⟩ := g0
  obtain ⟨l1, u1⟩ := g1
  obtain ⟨l2, u2⟩ := g2
  obtain ⟨l3, u3⟩ := g3
  obtain ⟨l4, u4⟩ := g4
  obtain ⟨l5, u5⟩ := g5
  by_cases a5 : z5 < 1873798617647539866
  · have t5 : decide (z5 < 1873798617647539866) = true := by simpa using a5
    have e : decide (num z0 z1 z2 z3 z4 z5 < 4002409555221667393417789825735904156556882819939007885332058136124031650490837864442687629129015664037894272559787) = true := decide_eq_true (by unfold num; omega)
    have E := shut e; clear e
    clear l0 u0 l1 u1 l2 u2 l3 u3 l4 u4 l5 u5
    go_enter Try.func41, Try.ntmps41
    dsimp only [List.append]
    go_wp2_with fail
    go_ret
    exact ⟨by rw [E.out]; rfl, rfl⟩
  have t5 : decide (z5 < 1873798617647539866) = false := by simpa using a5
  by_cases c5 : z5 = 1873798617647539866
  · have v5 : (z5 == 1873798617647539866) = true := by simpa using c5
    by_cases a4 : z4 < 5412103778470702295
    · have t4 : decide (z4 < 5412103778470702295) = true := by simpa using a4
      have e : decide (num z0 z1 z2 z3 z4 z5 < 4002409555221667393417789825735904156556882819939007885332058136124031650490837864442687629129015664037894272559787) = true := decide_eq_true (by unfold num; omega)
      have E := shut e; clear e
      clear l0 u0 l1 u1 l2 u2 l3 u3 l4 u4 l5 u5 c5
      go_enter Try.func41, Try.ntmps41
      dsimp only [List.append]
      go_wp2_with fail
      go_ret
      exact ⟨by rw [E.out]; rfl, rfl⟩
    have t4 : decide (z4 < 5412103778470702295) = false := by simpa using a4
    by_cases c4 : z4 = 5412103778470702295
    · have v4 : (z4 == 5412103778470702295) = true := by simpa using c4
      by_cases a3 : z3 < 7239337960414712511
      · have t3 : decide (z3 < 7239337960414712511) = true := by simpa using a3
        have e : decide (num z0 z1 z2 z3 z4 z5 < 4002409555221667393417789825735904156556882819939007885332058136124031650490837864442687629129015664037894272559787) = true := decide_eq_true (by unfold num; omega)
        have E := shut e; clear e
        clear l0 u0 l1 u1 l2 u2 l3 u3 l4 u4 l5 u5 c4 c5
        go_enter Try.func41, Try.ntmps41
        dsimp only [List.append]
        go_wp2_with fail
        go_ret
        exact ⟨by rw [E.out]; rfl, rfl⟩
      have t3 : decide (z3 < 7239337960414712511) = false := by simpa using a3
      by_cases c3 : z3 = 7239337960414712511
      · have v3 : (z3 == 7239337960414712511) = true := by simpa using c3
        by_cases a2 : z2 < 7435674573564081700
        · have t2 : decide (z2 < 7435674573564081700) = true := by simpa using a2
          have e : decide (num z0 z1 z2 z3 z4 z5 < 4002409555221667393417789825735904156556882819939007885332058136124031650490837864442687629129015664037894272559787) = true := decide_eq_true (by unfold num; omega)
          have E := shut e; clear e
          clear l0 u0 l1 u1 l2 u2 l3 u3 l4 u4 l5 u5 c3 c4 c5
          go_enter Try.func41, Try.ntmps41
          dsimp only [List.append]
          go_wp2_with fail
          go_ret
          exact ⟨by rw [E.out]; rfl, rfl⟩
        have t2 : decide (z2 < 7435674573564081700) = false := by simpa using a2
        by_cases c2 : z2 = 7435674573564081700
        · have v2 : (z2 == 7435674573564081700) = true := by simpa using c2
          by_cases a1 : z1 < 2210141511517208575
          · have t1 : decide (z1 < 2210141511517208575) = true := by simpa using a1
            have e : decide (num z0 z1 z2 z3 z4 z5 < 4002409555221667393417789825735904156556882819939007885332058136124031650490837864442687629129015664037894272559787) = true := decide_eq_true (by unfold num; omega)
            have E := shut e; clear e
            clear l0 u0 l1 u1 l2 u2 l3 u3 l4 u4 l5 u5 c2 c3 c4 c5
            go_enter Try.func41, Try.ntmps41
            dsimp only [List.append]
            go_wp2_with fail
            go_ret
            exact ⟨by rw [E.out]; rfl, rfl⟩
          have t1 : decide (z1 < 2210141511517208575) = false := by simpa using a1
          by_cases c1 : z1 = 2210141511517208575
          · have v1 : (z1 == 2210141511517208575) = true := by simpa using c1
            by_cases a0 : z0 < 13402431016077863595
            · have t0 : decide (z0 < 13402431016077863595) = true := by simpa using a0
              have e : decide (num z0 z1 z2 z3 z4 z5 < 4002409555221667393417789825735904156556882819939007885332058136124031650490837864442687629129015664037894272559787) = true := decide_eq_true (by unfold num; omega)
              have E := shut e; clear e
              clear l0 u0 l1 u1 l2 u2 l3 u3 l4 u4 l5 u5 c1 c2 c3 c4 c5
              go_enter Try.func41, Try.ntmps41
              dsimp only [List.append]
              go_wp2_with fail
              go_ret
              exact ⟨by rw [E.out]; rfl, rfl⟩
            have t0 : decide (z0 < 13402431016077863595) = false := by simpa using a0
            have e : decide (num z0 z1 z2 z3 z4 z5 < 4002409555221667393417789825735904156556882819939007885332058136124031650490837864442687629129015664037894272559787) = false := decide_eq_false (by unfold num; omega)
            have E := shut e; clear e
            clear l0 u0 l1 u1 l2 u2 l3 u3 l4 u4 l5 u5 c1 c2 c3 c4 c5
            go_enter Try.func41, Try.ntmps41
            dsimp only [List.append]
            go_wp2_with fail
            go_ret
            exact ⟨by rw [E.out]; rfl, rfl⟩
          · have v1 : (z1 == 2210141511517208575) = false := by simpa using c1
            have e : decide (num z0 z1 z2 z3 z4 z5 < 4002409555221667393417789825735904156556882819939007885332058136124031650490837864442687629129015664037894272559787) = false := decide_eq_false (by unfold num; omega)
            have E := shut e; clear e
            clear l0 u0 l1 u1 l2 u2 l3 u3 l4 u4 l5 u5 c1 c2 c3 c4 c5
            go_enter Try.func41, Try.ntmps41
            dsimp only [List.append]
            go_wp2_with fail
            go_ret
            exact ⟨by rw [E.out]; rfl, rfl⟩
        · have v2 : (z2 == 7435674573564081700) = false := by simpa using c2
          have e : decide (num z0 z1 z2 z3 z4 z5 < 4002409555221667393417789825735904156556882819939007885332058136124031650490837864442687629129015664037894272559787) = false := decide_eq_false (by unfold num; omega)
          have E := shut e; clear e
          clear l0 u0 l1 u1 l2 u2 l3 u3 l4 u4 l5 u5 c2 c3 c4 c5
          go_enter Try.func41, Try.ntmps41
          dsimp only [List.append]
          go_wp2_with fail
          go_ret
          exact ⟨by rw [E.out]; rfl, rfl⟩
      · have v3 : (z3 == 7239337960414712511) = false := by simpa using c3
        have e : decide (num z0 z1 z2 z3 z4 z5 < 4002409555221667393417789825735904156556882819939007885332058136124031650490837864442687629129015664037894272559787) = false := decide_eq_false (by unfold num; omega)
        have E := shut e; clear e
        clear l0 u0 l1 u1 l2 u2 l3 u3 l4 u4 l5 u5 c3 c4 c5
        go_enter Try.func41, Try.ntmps41
        dsimp only [List.append]
        go_wp2_with fail
        go_ret
        exact ⟨by rw [E.out]; rfl, rfl⟩
    · have v4 : (z4 == 5412103778470702295) = false := by simpa using c4
      have e : decide (num z0 z1 z2 z3 z4 z5 < 4002409555221667393417789825735904156556882819939007885332058136124031650490837864442687629129015664037894272559787) = false := decide_eq_false (by unfold num; omega)
      have E := shut e; clear e
      clear l0 u0 l1 u1 l2 u2 l3 u3 l4 u4 l5 u5 c4 c5
      go_enter Try.func41, Try.ntmps41
      dsimp only [List.append]
      go_wp2_with fail
      go_ret
      exact ⟨by rw [E.out]; rfl, rfl⟩
  · have v5 : (z5 == 1873798617647539866) = false := by simpa using c5
    have e : decide (num z0 z1 z2 z3 z4 z5 < 4002409555221667393417789825735904156556882819939007885332058136124031650490837864442687629129015664037894272559787) = false := decide_eq_false (by unfold num; omega)
    have E := shut e; clear e
    clear l0 u0 l1 u1 l2 u2 l3 u3 l4 u4 l5 u5 c5
    go_enter Try.func41, Try.ntmps41
    dsimp only [List.append]
    go_wp2_with fail
    go_ret
    exact ⟨by rw [E.out]; rfl, rfl⟩
/-- Words that are stored anew. -/
theorem set_again (w : World) (b o : Nat) (u0 u1 u2 u3 u4 u5 v0 v1 v2 v3 v4 v5 : Value) :
    ((((((((((((w.setCell ⟨b, o, none⟩ u0).setCell ⟨b, o + 1, none⟩ u1).setCell ⟨b, o + 2, none⟩ u2).setCell ⟨b, o + 3, none⟩ u3).setCell ⟨b, o + 4, none⟩ u4).setCell ⟨b, o + 5, none⟩ u5).setCell ⟨b, o, none⟩ v0).setCell ⟨b, o + 1, none⟩ v1).setCell ⟨b, o + 2, none⟩ v2).setCell ⟨b, o + 3, none⟩ v3).setCell ⟨b, o + 4, none⟩ v4).setCell ⟨b, o + 5, none⟩ v5) = ((((((w.setCell ⟨b, o, none⟩ v0).setCell ⟨b, o + 1, none⟩ v1).setCell ⟨b, o + 2, none⟩ v2).setCell ⟨b, o + 3, none⟩ v3).setCell ⟨b, o + 4, none⟩ v4).setCell ⟨b, o + 5, none⟩ v5) := by
  have s10 : ∀ (w : World) (v v' : Value), (w.setCell ⟨b, o + 1, none⟩ v).setCell ⟨b, o, none⟩ v' = (w.setCell ⟨b, o, none⟩ v').setCell ⟨b, o + 1, none⟩ v := fun w v v' => set_swap w b v v' (by omega)
  have s20 : ∀ (w : World) (v v' : Value), (w.setCell ⟨b, o + 2, none⟩ v).setCell ⟨b, o, none⟩ v' = (w.setCell ⟨b, o, none⟩ v').setCell ⟨b, o + 2, none⟩ v := fun w v v' => set_swap w b v v' (by omega)
  have s21 : ∀ (w : World) (v v' : Value), (w.setCell ⟨b, o + 2, none⟩ v).setCell ⟨b, o + 1, none⟩ v' = (w.setCell ⟨b, o + 1, none⟩ v').setCell ⟨b, o + 2, none⟩ v := fun w v v' => set_swap w b v v' (by omega)
  have s30 : ∀ (w : World) (v v' : Value), (w.setCell ⟨b, o + 3, none⟩ v).setCell ⟨b, o, none⟩ v' = (w.setCell ⟨b, o, none⟩ v').setCell ⟨b, o + 3, none⟩ v := fun w v v' => set_swap w b v v' (by omega)
  have s31 : ∀ (w : World) (v v' : Value), (w.setCell ⟨b, o + 3, none⟩ v).setCell ⟨b, o + 1, none⟩ v' = (w.setCell ⟨b, o + 1, none⟩ v').setCell ⟨b, o + 3, none⟩ v := fun w v v' => set_swap w b v v' (by omega)
  have s32 : ∀ (w : World) (v v' : Value), (w.setCell ⟨b, o + 3, none⟩ v).setCell ⟨b, o + 2, none⟩ v' = (w.setCell ⟨b, o + 2, none⟩ v').setCell ⟨b, o + 3, none⟩ v := fun w v v' => set_swap w b v v' (by omega)
  have s40 : ∀ (w : World) (v v' : Value), (w.setCell ⟨b, o + 4, none⟩ v).setCell ⟨b, o, none⟩ v' = (w.setCell ⟨b, o, none⟩ v').setCell ⟨b, o + 4, none⟩ v := fun w v v' => set_swap w b v v' (by omega)
  have s41 : ∀ (w : World) (v v' : Value), (w.setCell ⟨b, o + 4, none⟩ v).setCell ⟨b, o + 1, none⟩ v' = (w.setCell ⟨b, o + 1, none⟩ v').setCell ⟨b, o + 4, none⟩ v := fun w v v' => set_swap w b v v' (by omega)
  have s42 : ∀ (w : World) (v v' : Value), (w.setCell ⟨b, o + 4, none⟩ v).setCell ⟨b, o + 2, none⟩ v' = (w.setCell ⟨b, o + 2, none⟩ v').setCell ⟨b, o + 4, none⟩ v := fun w v v' => set_swap w b v v' (by omega)
  have s43 : ∀ (w : World) (v v' : Value), (w.setCell ⟨b, o + 4, none⟩ v).setCell ⟨b, o + 3, none⟩ v' = (w.setCell ⟨b, o + 3, none⟩ v').setCell ⟨b, o + 4, none⟩ v := fun w v v' => set_swap w b v v' (by omega)
  have s50 : ∀ (w : World) (v v' : Value), (w.setCell ⟨b, o + 5, none⟩ v).setCell ⟨b, o, none⟩ v' = (w.setCell ⟨b, o, none⟩ v').setCell ⟨b, o + 5, none⟩ v := fun w v v' => set_swap w b v v' (by omega)
  have s51 : ∀ (w : World) (v v' : Value), (w.setCell ⟨b, o + 5, none⟩ v).setCell ⟨b, o + 1, none⟩ v' = (w.setCell ⟨b, o + 1, none⟩ v').setCell ⟨b, o + 5, none⟩ v := fun w v v' => set_swap w b v v' (by omega)
  have s52 : ∀ (w : World) (v v' : Value), (w.setCell ⟨b, o + 5, none⟩ v).setCell ⟨b, o + 2, none⟩ v' = (w.setCell ⟨b, o + 2, none⟩ v').setCell ⟨b, o + 5, none⟩ v := fun w v v' => set_swap w b v v' (by omega)
  have s53 : ∀ (w : World) (v v' : Value), (w.setCell ⟨b, o + 5, none⟩ v).setCell ⟨b, o + 3, none⟩ v' = (w.setCell ⟨b, o + 3, none⟩ v').setCell ⟨b, o + 5, none⟩ v := fun w v v' => set_swap w b v v' (by omega)
  have s54 : ∀ (w : World) (v v' : Value), (w.setCell ⟨b, o + 5, none⟩ v).setCell ⟨b, o + 4, none⟩ v' = (w.setCell ⟨b, o + 4, none⟩ v').setCell ⟨b, o + 5, none⟩ v := fun w v v' => set_swap w b v v' (by omega)
  simp only [s10, s20, s21, s30, s31, s32, s40, s41, s42, s43, s50, s51, s52, s53, s54, set_set]

theorem drewn_6 (w : World) : w.drew.drew.drew.drew.drew.drew = w.drewN 6 := by rw [show w.drew = w.drewN 1 from rfl]; simp only [World.drew_drewN]
theorem drewn_12 (w : World) : w.drew.drew.drew.drew.drew.drew.drew.drew.drew.drew.drew.drew = w.drewN 12 := by rw [show w.drew = w.drewN 1 from rfl]; simp only [World.drew_drewN]
/-- The difference modulo the prime. -/
def subm (X Y : Nat) : Nat := (X + 4002409555221667393417789825735904156556882819939007885332058136124031650490837864442687629129015664037894272559787 - Y) % 4002409555221667393417789825735904156556882819939007885332058136124031650490837864442687629129015664037894272559787
set_option maxRecDepth 100000 in
set_option maxHeartbeats 6400000 in
theorem eadd_t (bz oz bx ox b_y o_y : Nat) (z0 z1 z2 z3 z4 z5 x0 x1 x2 x3 x4 x5 y0 y1 y2 y3 y4 y5 : Int) (w : World) (hzx : bz ≠ bx ∨ oz = ox ∨ oz + 6 ≤ ox ∨ ox + 6 ≤ oz) (hzy : bz ≠ b_y ∨ oz = o_y ∨ oz + 6 ≤ o_y ∨ o_y + 6 ≤ oz)
    (hX : num x0 x1 x2 x3 x4 x5 < 4002409555221667393417789825735904156556882819939007885332058136124031650490837864442687629129015664037894272559787) (hY : num y0 y1 y2 y3 y4 y5 < 4002409555221667393417789825735904156556882819939007885332058136124031650490837864442687629129015664037894272559787)
    (gx0 : Wd x0) (gx1 : Wd x1) (gx2 : Wd x2) (gx3 : Wd x3) (gx4 : Wd x4) (gx5 : Wd x5) (gy0 : Wd y0) (gy1 : Wd y1) (gy2 : Wd y2) (gy3 : Wd y3) (gy4 : Wd y4) (gy5 : Wd y5)
    (hx0 : w.cell? ⟨bx, ox, none⟩ = some (.int .u64 x0)) (hx1 : w.cell? ⟨bx, ox + 1, none⟩ = some (.int .u64 x1)) (hx2 : w.cell? ⟨bx, ox + 2, none⟩ = some (.int .u64 x2)) (hx3 : w.cell? ⟨bx, ox + 3, none⟩ = some (.int .u64 x3)) (hx4 : w.cell? ⟨bx, ox + 4, none⟩ = some (.int .u64 x4)) (hx5 : w.cell? ⟨bx, ox + 5, none⟩ = some (.int .u64 x5)) (hy0 : w.cell? ⟨b_y, o_y, none⟩ = some (.int .u64 y0)) (hy1 : w.cell? ⟨b_y, o_y + 1, none⟩ = some (.int .u64 y1)) (hy2 : w.cell? ⟨b_y, o_y + 2, none⟩ = some (.int .u64 y2)) (hy3 : w.cell? ⟨b_y, o_y + 3, none⟩ = some (.int .u64 y3)) (hy4 : w.cell? ⟨b_y, o_y + 4, none⟩ = some (.int .u64 y4)) (hy5 : w.cell? ⟨b_y, o_y + 5, none⟩ = some (.int .u64 y5))
    (hz0 : w.cell? ⟨bz, oz, none⟩ = some (.int .u64 z0)) (hz1 : w.cell? ⟨bz, oz + 1, none⟩ = some (.int .u64 z1)) (hz2 : w.cell? ⟨bz, oz + 2, none⟩ = some (.int .u64 z2)) (hz3 : w.cell? ⟨bz, oz + 3, none⟩ = some (.int .u64 z3)) (hz4 : w.cell? ⟨bz, oz + 4, none⟩ = some (.int .u64 z4)) (hz5 : w.cell? ⟨bz, oz + 5, none⟩ = some (.int .u64 z5))
    (fz0 : w.frozen? ⟨bz, oz, none⟩ = false) (fz1 : w.frozen? ⟨bz, oz + 1, none⟩ = false) (fz2 : w.frozen? ⟨bz, oz + 2, none⟩ = false) (fz3 : w.frozen? ⟨bz, oz + 3, none⟩ = false) (fz4 : w.frozen? ⟨bz, oz + 4, none⟩ = false) (fz5 : w.frozen? ⟨bz, oz + 5, none⟩ = false) :
    Calls Try.prog 31 #[.pointer (some ⟨bz, oz, none⟩), .pointer (some ⟨bx, ox, none⟩), .pointer (some ⟨b_y, o_y, none⟩)] w fun e w' => e = .returned (.pointer (some ⟨bz, oz, none⟩)) ∧
      ∃ d0 d1 d2 d3 d4 d5 : Int, (Wd d0 ∧ Wd d1 ∧ Wd d2 ∧ Wd d3 ∧ Wd d4 ∧ Wd d5) ∧ num d0 d1 d2 d3 d4 d5 = (num x0 x1 x2 x3 x4 x5 + num y0 y1 y2 y3 y4 y5) % 4002409555221667393417789825735904156556882819939007885332058136124031650490837864442687629129015664037894272559787 ∧ ∃ m, w' = ((((((w.setCell ⟨bz, oz, none⟩ (.int .u64 d0)).setCell ⟨bz, oz + 1, none⟩ (.int .u64 d1)).setCell ⟨bz, oz + 2, none⟩ (.int .u64 d2)).setCell ⟨bz, oz + 3, none⟩ (.int .u64 d3)).setCell ⟨bz, oz + 4, none⟩ (.int .u64 d4)).setCell ⟨bz, oz + 5, none⟩ (.int .u64 d5)).drewN m := by
  obtain ⟨s0, k0, a0, r0⟩ := add64 gx0 gy0 (c := 0) Bt.zero
  obtain ⟨s1, k1, a1, r1⟩ := add64 gx1 gy1 (c := k0) a0.bt
  obtain ⟨s2, k2, a2, r2⟩ := add64 gx2 gy2 (c := k1) a1.bt
  obtain ⟨s3, k3, a3, r3⟩ := add64 gx3 gy3 (c := k2) a2.bt
  obtain ⟨s4, k4, a4, r4⟩ := add64 gx4 gy4 (c := k3) a3.bt
  obtain ⟨s5, k5, a5, r5⟩ := add64 gx5 gy5 (c := k4) a4.bt
  obtain ⟨d0, e0, b0, t0⟩ := sub64 a0.wd (y := 13402431016077863595) ⟨by omega, by omega⟩ (c := 0) Bt.zero
  obtain ⟨d1, e1, b1, t1⟩ := sub64 a1.wd (y := 2210141511517208575) ⟨by omega, by omega⟩ (c := e0) b0.bt
  obtain ⟨d2, e2, b2, t2⟩ := sub64 a2.wd (y := 7435674573564081700) ⟨by omega, by omega⟩ (c := e1) b1.bt
  obtain ⟨d3, e3, b3, t3⟩ := sub64 a3.wd (y := 7239337960414712511) ⟨by omega, by omega⟩ (c := e2) b2.bt
  obtain ⟨d4, e4, b4, t4⟩ := sub64 a4.wd (y := 5412103778470702295) ⟨by omega, by omega⟩ (c := e3) b3.bt
  obtain ⟨d5, e5, b5, t5⟩ := sub64 a5.wd (y := 1873798617647539866) ⟨by omega, by omega⟩ (c := e4) b4.bt
  have Ha0 := shut a0; have Hb0 := shut b0; have Hr0 := shut r0; have Ht0 := shut t0; have Hgx0 := shut gx0; have Hgy0 := shut gy0; have Hfz0 := shut fz0; clear a0 b0 r0 t0 gx0 gy0 fz0
  have Ha1 := shut a1; have Hb1 := shut b1; have Hr1 := shut r1; have Ht1 := shut t1; have Hgx1 := shut gx1; have Hgy1 := shut gy1; have Hfz1 := shut fz1; clear a1 b1 r1 t1 gx1 gy1 fz1
  have Ha2 := shut a2; have Hb2 := shut b2; have Hr2 := shut r2; have Ht2 := shut t2; have Hgx2 := shut gx2; have Hgy2 := shut gy2; have Hfz2 := shut fz2; clear a2 b2 r2 t2 gx2 gy2 fz2
  have Ha3 := shut a3; have Hb3 := shut b3; have Hr3 := shut r3; have Ht3 := shut t3; have Hgx3 := shut gx3; have Hgy3 := shut gy3; have Hfz3 := shut fz3; clear a3 b3 r3 t3 gx3 gy3 fz3
  have Ha4 := shut a4; have Hb4 := shut b4; have Hr4 := shut r4; have Ht4 := shut t4; have Hgx4 := shut gx4; have Hgy4 := shut gy4; have Hfz4 := shut fz4; clear a4 b4 r4 t4 gx4 gy4 fz4
  have Ha5 := shut a5; have Hb5 := shut b5; have Hr5 := shut r5; have Ht5 := shut t5; have Hgx5 := shut gx5; have Hgy5 := shut gy5; have Hfz5 := shut fz5; clear a5 b5 r5 t5 gx5 gy5 fz5
  have HhX := shut hX; have HhY := shut hY; clear hX hY
  have cx0 : w.cell? ⟨bx, ox, none⟩ = some (.int .u64 x0) := hx0
  have cy0 : w.cell? ⟨b_y, o_y, none⟩ = some (.int .u64 y0) := hy0
  have cz0 : w.cell? ⟨bz, oz, none⟩ = some (.int .u64 z0) := hz0
  have cx1 : (w.setCell ⟨bz, oz, none⟩ (.int .u64 s0)).cell? ⟨bx, ox + 1, none⟩ = some (.int .u64 x1) := keep (hx1) (by omega)
  have cy1 : (w.setCell ⟨bz, oz, none⟩ (.int .u64 s0)).cell? ⟨b_y, o_y + 1, none⟩ = some (.int .u64 y1) := keep (hy1) (by omega)
  have cz1 : (w.setCell ⟨bz, oz, none⟩ (.int .u64 s0)).cell? ⟨bz, oz + 1, none⟩ = some (.int .u64 z1) := keep (hz1) (by omega)
  have cx2 : ((w.setCell ⟨bz, oz, none⟩ (.int .u64 s0)).setCell ⟨bz, oz + 1, none⟩ (.int .u64 s1)).cell? ⟨bx, ox + 2, none⟩ = some (.int .u64 x2) := keep (keep (hx2) (by omega)) (by omega)
  have cy2 : ((w.setCell ⟨bz, oz, none⟩ (.int .u64 s0)).setCell ⟨bz, oz + 1, none⟩ (.int .u64 s1)).cell? ⟨b_y, o_y + 2, none⟩ = some (.int .u64 y2) := keep (keep (hy2) (by omega)) (by omega)
  have cz2 : ((w.setCell ⟨bz, oz, none⟩ (.int .u64 s0)).setCell ⟨bz, oz + 1, none⟩ (.int .u64 s1)).cell? ⟨bz, oz + 2, none⟩ = some (.int .u64 z2) := keep (keep (hz2) (by omega)) (by omega)
  have cx3 : (((w.setCell ⟨bz, oz, none⟩ (.int .u64 s0)).setCell ⟨bz, oz + 1, none⟩ (.int .u64 s1)).setCell ⟨bz, oz + 2, none⟩ (.int .u64 s2)).cell? ⟨bx, ox + 3, none⟩ = some (.int .u64 x3) := keep (keep (keep (hx3) (by omega)) (by omega)) (by omega)
  have cy3 : (((w.setCell ⟨bz, oz, none⟩ (.int .u64 s0)).setCell ⟨bz, oz + 1, none⟩ (.int .u64 s1)).setCell ⟨bz, oz + 2, none⟩ (.int .u64 s2)).cell? ⟨b_y, o_y + 3, none⟩ = some (.int .u64 y3) := keep (keep (keep (hy3) (by omega)) (by omega)) (by omega)
  have cz3 : (((w.setCell ⟨bz, oz, none⟩ (.int .u64 s0)).setCell ⟨bz, oz + 1, none⟩ (.int .u64 s1)).setCell ⟨bz, oz + 2, none⟩ (.int .u64 s2)).cell? ⟨bz, oz + 3, none⟩ = some (.int .u64 z3) := keep (keep (keep (hz3) (by omega)) (by omega)) (by omega)
  have cx4 : ((((w.setCell ⟨bz, oz, none⟩ (.int .u64 s0)).setCell ⟨bz, oz + 1, none⟩ (.int .u64 s1)).setCell ⟨bz, oz + 2, none⟩ (.int .u64 s2)).setCell ⟨bz, oz + 3, none⟩ (.int .u64 s3)).cell? ⟨bx, ox + 4, none⟩ = some (.int .u64 x4) := keep (keep (keep (keep (hx4) (by omega)) (by omega)) (by omega)) (by omega)
  have cy4 : ((((w.setCell ⟨bz, oz, none⟩ (.int .u64 s0)).setCell ⟨bz, oz + 1, none⟩ (.int .u64 s1)).setCell ⟨bz, oz + 2, none⟩ (.int .u64 s2)).setCell ⟨bz, oz + 3, none⟩ (.int .u64 s3)).cell? ⟨b_y, o_y + 4, none⟩ = some (.int .u64 y4) := keep (keep (keep (keep (hy4) (by omega)) (by omega)) (by omega)) (by omega)
  have cz4 : ((((w.setCell ⟨bz, oz, none⟩ (.int .u64 s0)).setCell ⟨bz, oz + 1, none⟩ (.int .u64 s1)).setCell ⟨bz, oz + 2, none⟩ (.int .u64 s2)).setCell ⟨bz, oz + 3, none⟩ (.int .u64 s3)).cell? ⟨bz, oz + 4, none⟩ = some (.int .u64 z4) := keep (keep (keep (keep (hz4) (by omega)) (by omega)) (by omega)) (by omega)
  have cx5 : (((((w.setCell ⟨bz, oz, none⟩ (.int .u64 s0)).setCell ⟨bz, oz + 1, none⟩ (.int .u64 s1)).setCell ⟨bz, oz + 2, none⟩ (.int .u64 s2)).setCell ⟨bz, oz + 3, none⟩ (.int .u64 s3)).setCell ⟨bz, oz + 4, none⟩ (.int .u64 s4)).cell? ⟨bx, ox + 5, none⟩ = some (.int .u64 x5) := keep (keep (keep (keep (keep (hx5) (by omega)) (by omega)) (by omega)) (by omega)) (by omega)
  have cy5 : (((((w.setCell ⟨bz, oz, none⟩ (.int .u64 s0)).setCell ⟨bz, oz + 1, none⟩ (.int .u64 s1)).setCell ⟨bz, oz + 2, none⟩ (.int .u64 s2)).setCell ⟨bz, oz + 3, none⟩ (.int .u64 s3)).setCell ⟨bz, oz + 4, none⟩ (.int .u64 s4)).cell? ⟨b_y, o_y + 5, none⟩ = some (.int .u64 y5) := keep (keep (keep (keep (keep (hy5) (by omega)) (by omega)) (by omega)) (by omega)) (by omega)
  have cz5 : (((((w.setCell ⟨bz, oz, none⟩ (.int .u64 s0)).setCell ⟨bz, oz + 1, none⟩ (.int .u64 s1)).setCell ⟨bz, oz + 2, none⟩ (.int .u64 s2)).setCell ⟨bz, oz + 3, none⟩ (.int .u64 s3)).setCell ⟨bz, oz + 4, none⟩ (.int .u64 s4)).cell? ⟨bz, oz + 5, none⟩ = some (.int .u64 z5) := keep (keep (keep (keep (keep (hz5) (by omega)) (by omega)) (by omega)) (by omega)) (by omega)
  have cs0 : ((((((w.setCell ⟨bz, oz, none⟩ (.int .u64 s0)).setCell ⟨bz, oz + 1, none⟩ (.int .u64 s1)).setCell ⟨bz, oz + 2, none⟩ (.int .u64 s2)).setCell ⟨bz, oz + 3, none⟩ (.int .u64 s3)).setCell ⟨bz, oz + 4, none⟩ (.int .u64 s4)).setCell ⟨bz, oz + 5, none⟩ (.int .u64 s5)).cell? ⟨bz, oz, none⟩ = some (.int .u64 s0) := keep (keep (keep (keep (keep (hit (hz0)) (by omega)) (by omega)) (by omega)) (by omega)) (by omega)
  have cs1 : ((((((w.setCell ⟨bz, oz, none⟩ (.int .u64 s0)).setCell ⟨bz, oz + 1, none⟩ (.int .u64 s1)).setCell ⟨bz, oz + 2, none⟩ (.int .u64 s2)).setCell ⟨bz, oz + 3, none⟩ (.int .u64 s3)).setCell ⟨bz, oz + 4, none⟩ (.int .u64 s4)).setCell ⟨bz, oz + 5, none⟩ (.int .u64 s5)).cell? ⟨bz, oz + 1, none⟩ = some (.int .u64 s1) := keep (keep (keep (keep (hit (keep (hz1) (by omega))) (by omega)) (by omega)) (by omega)) (by omega)
  have cs2 : ((((((w.setCell ⟨bz, oz, none⟩ (.int .u64 s0)).setCell ⟨bz, oz + 1, none⟩ (.int .u64 s1)).setCell ⟨bz, oz + 2, none⟩ (.int .u64 s2)).setCell ⟨bz, oz + 3, none⟩ (.int .u64 s3)).setCell ⟨bz, oz + 4, none⟩ (.int .u64 s4)).setCell ⟨bz, oz + 5, none⟩ (.int .u64 s5)).cell? ⟨bz, oz + 2, none⟩ = some (.int .u64 s2) := keep (keep (keep (hit (keep (keep (hz2) (by omega)) (by omega))) (by omega)) (by omega)) (by omega)
  have cs3 : ((((((w.setCell ⟨bz, oz, none⟩ (.int .u64 s0)).setCell ⟨bz, oz + 1, none⟩ (.int .u64 s1)).setCell ⟨bz, oz + 2, none⟩ (.int .u64 s2)).setCell ⟨bz, oz + 3, none⟩ (.int .u64 s3)).setCell ⟨bz, oz + 4, none⟩ (.int .u64 s4)).setCell ⟨bz, oz + 5, none⟩ (.int .u64 s5)).cell? ⟨bz, oz + 3, none⟩ = some (.int .u64 s3) := keep (keep (hit (keep (keep (keep (hz3) (by omega)) (by omega)) (by omega))) (by omega)) (by omega)
  have cs4 : ((((((w.setCell ⟨bz, oz, none⟩ (.int .u64 s0)).setCell ⟨bz, oz + 1, none⟩ (.int .u64 s1)).setCell ⟨bz, oz + 2, none⟩ (.int .u64 s2)).setCell ⟨bz, oz + 3, none⟩ (.int .u64 s3)).setCell ⟨bz, oz + 4, none⟩ (.int .u64 s4)).setCell ⟨bz, oz + 5, none⟩ (.int .u64 s5)).cell? ⟨bz, oz + 4, none⟩ = some (.int .u64 s4) := keep (hit (keep (keep (keep (keep (hz4) (by omega)) (by omega)) (by omega)) (by omega))) (by omega)
  have cs5 : ((((((w.setCell ⟨bz, oz, none⟩ (.int .u64 s0)).setCell ⟨bz, oz + 1, none⟩ (.int .u64 s1)).setCell ⟨bz, oz + 2, none⟩ (.int .u64 s2)).setCell ⟨bz, oz + 3, none⟩ (.int .u64 s3)).setCell ⟨bz, oz + 4, none⟩ (.int .u64 s4)).setCell ⟨bz, oz + 5, none⟩ (.int .u64 s5)).cell? ⟨bz, oz + 5, none⟩ = some (.int .u64 s5) := hit (keep (keep (keep (keep (keep (hz5) (by omega)) (by omega)) (by omega)) (by omega)) (by omega))
  have cd0 : ((((((w.setCell ⟨bz, oz, none⟩ (.int .u64 s0)).setCell ⟨bz, oz + 1, none⟩ (.int .u64 s1)).setCell ⟨bz, oz + 2, none⟩ (.int .u64 s2)).setCell ⟨bz, oz + 3, none⟩ (.int .u64 s3)).setCell ⟨bz, oz + 4, none⟩ (.int .u64 s4)).setCell ⟨bz, oz + 5, none⟩ (.int .u64 s5)).cell? ⟨bz, oz, none⟩ = some (.int .u64 s0) := cs0
  have cd1 : (((((((w.setCell ⟨bz, oz, none⟩ (.int .u64 s0)).setCell ⟨bz, oz + 1, none⟩ (.int .u64 s1)).setCell ⟨bz, oz + 2, none⟩ (.int .u64 s2)).setCell ⟨bz, oz + 3, none⟩ (.int .u64 s3)).setCell ⟨bz, oz + 4, none⟩ (.int .u64 s4)).setCell ⟨bz, oz + 5, none⟩ (.int .u64 s5)).setCell ⟨bz, oz, none⟩ (.int .u64 d0)).cell? ⟨bz, oz + 1, none⟩ = some (.int .u64 s1) := keep (cs1) (by omega)
  have cd2 : ((((((((w.setCell ⟨bz, oz, none⟩ (.int .u64 s0)).setCell ⟨bz, oz + 1, none⟩ (.int .u64 s1)).setCell ⟨bz, oz + 2, none⟩ (.int .u64 s2)).setCell ⟨bz, oz + 3, none⟩ (.int .u64 s3)).setCell ⟨bz, oz + 4, none⟩ (.int .u64 s4)).setCell ⟨bz, oz + 5, none⟩ (.int .u64 s5)).setCell ⟨bz, oz, none⟩ (.int .u64 d0)).setCell ⟨bz, oz + 1, none⟩ (.int .u64 d1)).cell? ⟨bz, oz + 2, none⟩ = some (.int .u64 s2) := keep (keep (cs2) (by omega)) (by omega)
  have cd3 : (((((((((w.setCell ⟨bz, oz, none⟩ (.int .u64 s0)).setCell ⟨bz, oz + 1, none⟩ (.int .u64 s1)).setCell ⟨bz, oz + 2, none⟩ (.int .u64 s2)).setCell ⟨bz, oz + 3, none⟩ (.int .u64 s3)).setCell ⟨bz, oz + 4, none⟩ (.int .u64 s4)).setCell ⟨bz, oz + 5, none⟩ (.int .u64 s5)).setCell ⟨bz, oz, none⟩ (.int .u64 d0)).setCell ⟨bz, oz + 1, none⟩ (.int .u64 d1)).setCell ⟨bz, oz + 2, none⟩ (.int .u64 d2)).cell? ⟨bz, oz + 3, none⟩ = some (.int .u64 s3) := keep (keep (keep (cs3) (by omega)) (by omega)) (by omega)
  have cd4 : ((((((((((w.setCell ⟨bz, oz, none⟩ (.int .u64 s0)).setCell ⟨bz, oz + 1, none⟩ (.int .u64 s1)).setCell ⟨bz, oz + 2, none⟩ (.int .u64 s2)).setCell ⟨bz, oz + 3, none⟩ (.int .u64 s3)).setCell ⟨bz, oz + 4, none⟩ (.int .u64 s4)).setCell ⟨bz, oz + 5, none⟩ (.int .u64 s5)).setCell ⟨bz, oz, none⟩ (.int .u64 d0)).setCell ⟨bz, oz + 1, none⟩ (.int .u64 d1)).setCell ⟨bz, oz + 2, none⟩ (.int .u64 d2)).setCell ⟨bz, oz + 3, none⟩ (.int .u64 d3)).cell? ⟨bz, oz + 4, none⟩ = some (.int .u64 s4) := keep (keep (keep (keep (cs4) (by omega)) (by omega)) (by omega)) (by omega)
  have cd5 : (((((((((((w.setCell ⟨bz, oz, none⟩ (.int .u64 s0)).setCell ⟨bz, oz + 1, none⟩ (.int .u64 s1)).setCell ⟨bz, oz + 2, none⟩ (.int .u64 s2)).setCell ⟨bz, oz + 3, none⟩ (.int .u64 s3)).setCell ⟨bz, oz + 4, none⟩ (.int .u64 s4)).setCell ⟨bz, oz + 5, none⟩ (.int .u64 s5)).setCell ⟨bz, oz, none⟩ (.int .u64 d0)).setCell ⟨bz, oz + 1, none⟩ (.int .u64 d1)).setCell ⟨bz, oz + 2, none⟩ (.int .u64 d2)).setCell ⟨bz, oz + 3, none⟩ (.int .u64 d3)).setCell ⟨bz, oz + 4, none⟩ (.int .u64 d4)).cell? ⟨bz, oz + 5, none⟩ = some (.int .u64 s5) := keep (keep (keep (keep (keep (cs5) (by omega)) (by omega)) (by omega)) (by omega)) (by omega)
  have Hcx0 := shut cx0; have Hcy0 := shut cy0; have Hcz0 := shut cz0; have Hcs0 := shut cs0; have Hcd0 := shut cd0; clear cx0 cy0 cz0 cs0 cd0
  have Hcx1 := shut cx1; have Hcy1 := shut cy1; have Hcz1 := shut cz1; have Hcs1 := shut cs1; have Hcd1 := shut cd1; clear cx1 cy1 cz1 cs1 cd1
  have Hcx2 := shut cx2; have Hcy2 := shut cy2; have Hcz2 := shut cz2; have Hcs2 := shut cs2; have Hcd2 := shut cd2; clear cx2 cy2 cz2 cs2 cd2
  have Hcx3 := shut cx3; have Hcy3 := shut cy3; have Hcz3 := shut cz3; have Hcs3 := shut cs3; have Hcd3 := shut cd3; clear cx3 cy3 cz3 cs3 cd3
  have Hcx4 := shut cx4; have Hcy4 := shut cy4; have Hcz4 := shut cz4; have Hcs4 := shut cs4; have Hcd4 := shut cd4; clear cx4 cy4 cz4 cs4 cd4
  have Hcx5 := shut cx5; have Hcy5 := shut cy5; have Hcz5 := shut cz5; have Hcs5 := shut cs5; have Hcd5 := shut cd5; clear cx5 cy5 cz5 cs5 cd5
  clear hx0 hy0 hz0 hx1 hy1 hz1 hx2 hy2 hz2 hx3 hy3 hz3 hx4 hy4 hz4 hx5 hy5 hz5
  have N1 := adds_num Ha0.out Ha1.out Ha2.out Ha3.out Ha4.out Ha5.out
  have N2 := subs_nump Hb0.out Hb1.out Hb2.out Hb3.out Hb4.out Hb5.out
  have E1 := add_small N1 (num_pos Hgx0.out Hgx1.out Hgx2.out Hgx3.out Hgx4.out Hgx5.out) (num_pos Hgy0.out Hgy1.out Hgy2.out Hgy3.out Hgy4.out Hgy5.out) (num_pos Ha0.out.wd Ha1.out.wd Ha2.out.wd Ha3.out.wd Ha4.out.wd Ha5.out.wd) (num_top Ha0.out.wd Ha1.out.wd Ha2.out.wd Ha3.out.wd Ha4.out.wd Ha5.out.wd) Ha5.out.bt HhX.out HhY.out
  have E2 := add_big N1 N2 (num_pos Hgx0.out Hgx1.out Hgx2.out Hgx3.out Hgx4.out Hgx5.out) (num_pos Hgy0.out Hgy1.out Hgy2.out Hgy3.out Hgy4.out Hgy5.out) (num_pos Ha0.out.wd Ha1.out.wd Ha2.out.wd Ha3.out.wd Ha4.out.wd Ha5.out.wd) (num_top Ha0.out.wd Ha1.out.wd Ha2.out.wd Ha3.out.wd Ha4.out.wd Ha5.out.wd) (num_pos Hb0.out.wd Hb1.out.wd Hb2.out.wd Hb3.out.wd Hb4.out.wd Hb5.out.wd) (num_top Hb0.out.wd Hb1.out.wd Hb2.out.wd Hb3.out.wd Hb4.out.wd Hb5.out.wd) Ha5.out.bt Hb5.out.bt HhX.out HhY.out
  have HE := shut (And.intro E1 E2); clear E1 E2 N1 N2
  by_cases hl : num s0 s1 s2 s3 s4 s5 < 4002409555221667393417789825735904156556882819939007885332058136124031650490837864442687629129015664037894272559787
  ·
    have HL := shut hl
    have ht : decide (num s0 s1 s2 s3 s4 s5 < 4002409555221667393417789825735904156556882819939007885332058136124031650490837864442687629129015664037894272559787) = true := by simpa using hl
    have HT := shut ht
    clear hl ht
    go_enter Try.func31, Try.ntmps31
    go_wp2_with fail
    have o0 := Hcx0.out
    have o1 := Hcy0.out
    have o2 := Hcz0.out
    have o3 := Hr0.out
    have o4 := Hfz0.out
    go_region
    clear o0 o1 o2 o3 o4
    go_wp2_with fail
    have o0 := Hcx1.out
    have o1 := Hcy1.out
    have o2 := Hcz1.out
    have o3 := Hr1.out
    have o4 := Hfz1.out
    go_region
    clear o0 o1 o2 o3 o4
    go_wp2_with fail
    have o0 := Hcx2.out
    have o1 := Hcy2.out
    have o2 := Hcz2.out
    have o3 := Hr2.out
    have o4 := Hfz2.out
    go_region
    clear o0 o1 o2 o3 o4
    go_wp2_with fail
    have o0 := Hcx3.out
    have o1 := Hcy3.out
    have o2 := Hcz3.out
    have o3 := Hr3.out
    have o4 := Hfz3.out
    go_region
    clear o0 o1 o2 o3 o4
    go_wp2_with fail
    have o0 := Hcx4.out
    have o1 := Hcy4.out
    have o2 := Hcz4.out
    have o3 := Hr4.out
    have o4 := Hfz4.out
    go_region
    clear o0 o1 o2 o3 o4
    go_wp2_with fail
    have o0 := Hcx5.out
    have o1 := Hcy5.out
    have o2 := Hcz5.out
    have o3 := Hr5.out
    have o4 := Hfz5.out
    go_region
    clear o0 o1 o2 o3 o4
    go_wp2_with fail
    refine (small_any bz oz s0 s1 s2 s3 s4 s5 _ Ha0.out.wd Ha1.out.wd Ha2.out.wd Ha3.out.wd Ha4.out.wd Ha5.out.wd (by simp only [World.cell?_drew]; exact Hcs0.out) (by simp only [World.cell?_drew]; exact Hcs1.out) (by simp only [World.cell?_drew]; exact Hcs2.out) (by simp only [World.cell?_drew]; exact Hcs3.out) (by simp only [World.cell?_drew]; exact Hcs4.out) (by simp only [World.cell?_drew]; exact Hcs5.out)).mono ?_
    rintro e w' ⟨rfl, rfl⟩
    have ht := HT.out
    go_wp2_with fail
    clear ht
    go_ret
    exact ⟨rfl, s0, s1, s2, s3, s4, s5, ⟨Ha0.out.wd, Ha1.out.wd, Ha2.out.wd, Ha3.out.wd, Ha4.out.wd, Ha5.out.wd⟩, HE.out.1 HL.out, 6, by with_reducible exact drewn_6 _⟩
  ·
    have HL := shut hl
    have ht : decide (num s0 s1 s2 s3 s4 s5 < 4002409555221667393417789825735904156556882819939007885332058136124031650490837864442687629129015664037894272559787) = false := by simpa using hl
    have HT := shut ht
    clear hl ht
    go_enter Try.func31, Try.ntmps31
    go_wp2_with fail
    have o0 := Hcx0.out
    have o1 := Hcy0.out
    have o2 := Hcz0.out
    have o3 := Hr0.out
    have o4 := Hfz0.out
    go_region
    clear o0 o1 o2 o3 o4
    go_wp2_with fail
    have o0 := Hcx1.out
    have o1 := Hcy1.out
    have o2 := Hcz1.out
    have o3 := Hr1.out
    have o4 := Hfz1.out
    go_region
    clear o0 o1 o2 o3 o4
    go_wp2_with fail
    have o0 := Hcx2.out
    have o1 := Hcy2.out
    have o2 := Hcz2.out
    have o3 := Hr2.out
    have o4 := Hfz2.out
    go_region
    clear o0 o1 o2 o3 o4
    go_wp2_with fail
    have o0 := Hcx3.out
    have o1 := Hcy3.out
    have o2 := Hcz3.out
    have o3 := Hr3.out
    have o4 := Hfz3.out
    go_region
    clear o0 o1 o2 o3 o4
    go_wp2_with fail
    have o0 := Hcx4.out
    have o1 := Hcy4.out
    have o2 := Hcz4.out
    have o3 := Hr4.out
    have o4 := Hfz4.out
    go_region
    clear o0 o1 o2 o3 o4
    go_wp2_with fail
    have o0 := Hcx5.out
    have o1 := Hcy5.out
    have o2 := Hcz5.out
    have o3 := Hr5.out
    have o4 := Hfz5.out
    go_region
    clear o0 o1 o2 o3 o4
    go_wp2_with fail
    refine (small_any bz oz s0 s1 s2 s3 s4 s5 _ Ha0.out.wd Ha1.out.wd Ha2.out.wd Ha3.out.wd Ha4.out.wd Ha5.out.wd (by simp only [World.cell?_drew]; exact Hcs0.out) (by simp only [World.cell?_drew]; exact Hcs1.out) (by simp only [World.cell?_drew]; exact Hcs2.out) (by simp only [World.cell?_drew]; exact Hcs3.out) (by simp only [World.cell?_drew]; exact Hcs4.out) (by simp only [World.cell?_drew]; exact Hcs5.out)).mono ?_
    rintro e w' ⟨rfl, rfl⟩
    have ht := HT.out
    go_wp2_with fail
    clear ht
    have o0 := Hcs0.out
    have o1 := Ht0.out
    have o2 := Hfz0.out
    go_region
    clear o0 o1 o2
    go_wp2_with fail
    have o0 := Hcd1.out
    have o1 := Ht1.out
    have o2 := Hfz1.out
    go_region
    clear o0 o1 o2
    go_wp2_with fail
    have o0 := Hcd2.out
    have o1 := Ht2.out
    have o2 := Hfz2.out
    go_region
    clear o0 o1 o2
    go_wp2_with fail
    have o0 := Hcd3.out
    have o1 := Ht3.out
    have o2 := Hfz3.out
    go_region
    clear o0 o1 o2
    go_wp2_with fail
    have o0 := Hcd4.out
    have o1 := Ht4.out
    have o2 := Hfz4.out
    go_region
    clear o0 o1 o2
    go_wp2_with fail
    have o0 := Hcd5.out
    have o1 := Ht5.out
    have o2 := Hfz5.out
    go_region
    clear o0 o1 o2
    go_wp2_with fail
    go_ret
    refine ⟨rfl, d0, d1, d2, d3, d4, d5, ⟨Hb0.out.wd, Hb1.out.wd, Hb2.out.wd, Hb3.out.wd, Hb4.out.wd, Hb5.out.wd⟩, HE.out.2 HL.out, 12, ?_⟩
    rw [set_again]; with_reducible exact drewn_12 _

theorem eadd (bz oz bx ox b_y o_y X Y R : Nat) (z0 z1 z2 z3 z4 z5 : Int) (w : World) (hR : R = (X + Y) % 4002409555221667393417789825735904156556882819939007885332058136124031650490837864442687629129015664037894272559787) (hzx : bz ≠ bx ∨ oz = ox ∨ oz + 6 ≤ ox ∨ ox + 6 ≤ oz) (hzy : bz ≠ b_y ∨ oz = o_y ∨ oz + 6 ≤ o_y ∨ o_y + 6 ≤ oz) (hX : X < 4002409555221667393417789825735904156556882819939007885332058136124031650490837864442687629129015664037894272559787) (hY : Y < 4002409555221667393417789825735904156556882819939007885332058136124031650490837864442687629129015664037894272559787)
    (hx0 : w.cell? ⟨bx, ox, none⟩ = some (.int .u64 (wd X 0 : Nat))) (hx1 : w.cell? ⟨bx, ox + 1, none⟩ = some (.int .u64 (wd X 1 : Nat))) (hx2 : w.cell? ⟨bx, ox + 2, none⟩ = some (.int .u64 (wd X 2 : Nat))) (hx3 : w.cell? ⟨bx, ox + 3, none⟩ = some (.int .u64 (wd X 3 : Nat))) (hx4 : w.cell? ⟨bx, ox + 4, none⟩ = some (.int .u64 (wd X 4 : Nat))) (hx5 : w.cell? ⟨bx, ox + 5, none⟩ = some (.int .u64 (wd X 5 : Nat)))
    (hy0 : w.cell? ⟨b_y, o_y, none⟩ = some (.int .u64 (wd Y 0 : Nat))) (hy1 : w.cell? ⟨b_y, o_y + 1, none⟩ = some (.int .u64 (wd Y 1 : Nat))) (hy2 : w.cell? ⟨b_y, o_y + 2, none⟩ = some (.int .u64 (wd Y 2 : Nat))) (hy3 : w.cell? ⟨b_y, o_y + 3, none⟩ = some (.int .u64 (wd Y 3 : Nat))) (hy4 : w.cell? ⟨b_y, o_y + 4, none⟩ = some (.int .u64 (wd Y 4 : Nat))) (hy5 : w.cell? ⟨b_y, o_y + 5, none⟩ = some (.int .u64 (wd Y 5 : Nat)))
    (hz0 : w.cell? ⟨bz, oz, none⟩ = some (.int .u64 z0)) (hz1 : w.cell? ⟨bz, oz + 1, none⟩ = some (.int .u64 z1)) (hz2 : w.cell? ⟨bz, oz + 2, none⟩ = some (.int .u64 z2)) (hz3 : w.cell? ⟨bz, oz + 3, none⟩ = some (.int .u64 z3)) (hz4 : w.cell? ⟨bz, oz + 4, none⟩ = some (.int .u64 z4)) (hz5 : w.cell? ⟨bz, oz + 5, none⟩ = some (.int .u64 z5))
    (fz0 : w.frozen? ⟨bz, oz, none⟩ = false) (fz1 : w.frozen? ⟨bz, oz + 1, none⟩ = false) (fz2 : w.frozen? ⟨bz, oz + 2, none⟩ = false) (fz3 : w.frozen? ⟨bz, oz + 3, none⟩ = false) (fz4 : w.frozen? ⟨bz, oz + 4, none⟩ = false) (fz5 : w.frozen? ⟨bz, oz + 5, none⟩ = false) :
    Calls Try.prog 31 #[.pointer (some ⟨bz, oz, none⟩), .pointer (some ⟨bx, ox, none⟩), .pointer (some ⟨b_y, o_y, none⟩)] w fun e w' => e = .returned (.pointer (some ⟨bz, oz, none⟩)) ∧
      ∃ m, w' = ((((((w.setCell ⟨bz, oz, none⟩ (.int .u64 (wd R 0 : Nat))).setCell ⟨bz, oz + 1, none⟩ (.int .u64 (wd R 1 : Nat))).setCell ⟨bz, oz + 2, none⟩ (.int .u64 (wd R 2 : Nat))).setCell ⟨bz, oz + 3, none⟩ (.int .u64 (wd R 3 : Nat))).setCell ⟨bz, oz + 4, none⟩ (.int .u64 (wd R 4 : Nat))).setCell ⟨bz, oz + 5, none⟩ (.int .u64 (wd R 5 : Nat))).drewN m := by
  have nX : num (wd X 0 : Nat) (wd X 1 : Nat) (wd X 2 : Nat) (wd X 3 : Nat) (wd X 4 : Nat) (wd X 5 : Nat) = (X : Int) := num_wd (by omega)
  have nY : num (wd Y 0 : Nat) (wd Y 1 : Nat) (wd Y 2 : Nat) (wd Y 3 : Nat) (wd Y 4 : Nat) (wd Y 5 : Nat) = (Y : Int) := num_wd (by omega)
  refine (eadd_t bz oz bx ox b_y o_y z0 z1 z2 z3 z4 z5 _ _ _ _ _ _ _ _ _ _ _ _ w hzx hzy (by rw [nX]; omega) (by rw [nY]; omega) (wd_nat _ _) (wd_nat _ _) (wd_nat _ _) (wd_nat _ _) (wd_nat _ _) (wd_nat _ _) (wd_nat _ _) (wd_nat _ _) (wd_nat _ _) (wd_nat _ _) (wd_nat _ _) (wd_nat _ _) hx0 hx1 hx2 hx3 hx4 hx5 hy0 hy1 hy2 hy3 hy4 hy5 hz0 hz1 hz2 hz3 hz4 hz5 fz0 fz1 fz2 fz3 fz4 fz5).mono ?_
  rintro e w' ⟨he, d0, d1, d2, d3, d4, d5, ⟨g0, g1, g2, g3, g4, g5⟩, hn, m, hw⟩
  obtain ⟨r0, r1, r2, r3, r4, r5⟩ := wd_num (A := R) g0 g1 g2 g3 g4 g5 (by rw [hn, nX, nY, hR]; omega)
  subst d0 d1 d2 d3 d4 d5
  exact ⟨he, m, hw⟩

set_option maxRecDepth 100000 in
set_option maxHeartbeats 6400000 in
theorem edouble_t (bz oz bx ox : Nat) (z0 z1 z2 z3 z4 z5 x0 x1 x2 x3 x4 x5 : Int) (w : World) (hzx : bz ≠ bx ∨ oz = ox ∨ oz + 6 ≤ ox ∨ ox + 6 ≤ oz) 
    (hX : num x0 x1 x2 x3 x4 x5 < 4002409555221667393417789825735904156556882819939007885332058136124031650490837864442687629129015664037894272559787) 
    (gx0 : Wd x0) (gx1 : Wd x1) (gx2 : Wd x2) (gx3 : Wd x3) (gx4 : Wd x4) (gx5 : Wd x5) 
    (hx0 : w.cell? ⟨bx, ox, none⟩ = some (.int .u64 x0)) (hx1 : w.cell? ⟨bx, ox + 1, none⟩ = some (.int .u64 x1)) (hx2 : w.cell? ⟨bx, ox + 2, none⟩ = some (.int .u64 x2)) (hx3 : w.cell? ⟨bx, ox + 3, none⟩ = some (.int .u64 x3)) (hx4 : w.cell? ⟨bx, ox + 4, none⟩ = some (.int .u64 x4)) (hx5 : w.cell? ⟨bx, ox + 5, none⟩ = some (.int .u64 x5)) 
    (hz0 : w.cell? ⟨bz, oz, none⟩ = some (.int .u64 z0)) (hz1 : w.cell? ⟨bz, oz + 1, none⟩ = some (.int .u64 z1)) (hz2 : w.cell? ⟨bz, oz + 2, none⟩ = some (.int .u64 z2)) (hz3 : w.cell? ⟨bz, oz + 3, none⟩ = some (.int .u64 z3)) (hz4 : w.cell? ⟨bz, oz + 4, none⟩ = some (.int .u64 z4)) (hz5 : w.cell? ⟨bz, oz + 5, none⟩ = some (.int .u64 z5))
    (fz0 : w.frozen? ⟨bz, oz, none⟩ = false) (fz1 : w.frozen? ⟨bz, oz + 1, none⟩ = false) (fz2 : w.frozen? ⟨bz, oz + 2, none⟩ = false) (fz3 : w.frozen? ⟨bz, oz + 3, none⟩ = false) (fz4 : w.frozen? ⟨bz, oz + 4, none⟩ = false) (fz5 : w.frozen? ⟨bz, oz + 5, none⟩ = false) :
    Calls Try.prog 33 #[.pointer (some ⟨bz, oz, none⟩), .pointer (some ⟨bx, ox, none⟩)] w fun e w' => e = .returned (.pointer (some ⟨bz, oz, none⟩)) ∧
      ∃ d0 d1 d2 d3 d4 d5 : Int, (Wd d0 ∧ Wd d1 ∧ Wd d2 ∧ Wd d3 ∧ Wd d4 ∧ Wd d5) ∧ num d0 d1 d2 d3 d4 d5 = (num x0 x1 x2 x3 x4 x5 + num x0 x1 x2 x3 x4 x5) % 4002409555221667393417789825735904156556882819939007885332058136124031650490837864442687629129015664037894272559787 ∧ ∃ m, w' = ((((((w.setCell ⟨bz, oz, none⟩ (.int .u64 d0)).setCell ⟨bz, oz + 1, none⟩ (.int .u64 d1)).setCell ⟨bz, oz + 2, none⟩ (.int .u64 d2)).setCell ⟨bz, oz + 3, none⟩ (.int .u64 d3)).setCell ⟨bz, oz + 4, none⟩ (.int .u64 d4)).setCell ⟨bz, oz + 5, none⟩ (.int .u64 d5)).drewN m := by
  obtain ⟨s0, k0, a0, r0⟩ := add64 gx0 gx0 (c := 0) Bt.zero
  obtain ⟨s1, k1, a1, r1⟩ := add64 gx1 gx1 (c := k0) a0.bt
  obtain ⟨s2, k2, a2, r2⟩ := add64 gx2 gx2 (c := k1) a1.bt
  obtain ⟨s3, k3, a3, r3⟩ := add64 gx3 gx3 (c := k2) a2.bt
  obtain ⟨s4, k4, a4, r4⟩ := add64 gx4 gx4 (c := k3) a3.bt
  obtain ⟨s5, k5, a5, r5⟩ := add64 gx5 gx5 (c := k4) a4.bt
  obtain ⟨d0, e0, b0, t0⟩ := sub64 a0.wd (y := 13402431016077863595) ⟨by omega, by omega⟩ (c := 0) Bt.zero
  obtain ⟨d1, e1, b1, t1⟩ := sub64 a1.wd (y := 2210141511517208575) ⟨by omega, by omega⟩ (c := e0) b0.bt
  obtain ⟨d2, e2, b2, t2⟩ := sub64 a2.wd (y := 7435674573564081700) ⟨by omega, by omega⟩ (c := e1) b1.bt
  obtain ⟨d3, e3, b3, t3⟩ := sub64 a3.wd (y := 7239337960414712511) ⟨by omega, by omega⟩ (c := e2) b2.bt
  obtain ⟨d4, e4, b4, t4⟩ := sub64 a4.wd (y := 5412103778470702295) ⟨by omega, by omega⟩ (c := e3) b3.bt
  obtain ⟨d5, e5, b5, t5⟩ := sub64 a5.wd (y := 1873798617647539866) ⟨by omega, by omega⟩ (c := e4) b4.bt
  have Ha0 := shut a0; have Hb0 := shut b0; have Hr0 := shut r0; have Ht0 := shut t0; have Hgx0 := shut gx0; have Hfz0 := shut fz0; clear a0 b0 r0 t0 gx0 fz0
  have Ha1 := shut a1; have Hb1 := shut b1; have Hr1 := shut r1; have Ht1 := shut t1; have Hgx1 := shut gx1; have Hfz1 := shut fz1; clear a1 b1 r1 t1 gx1 fz1
  have Ha2 := shut a2; have Hb2 := shut b2; have Hr2 := shut r2; have Ht2 := shut t2; have Hgx2 := shut gx2; have Hfz2 := shut fz2; clear a2 b2 r2 t2 gx2 fz2
  have Ha3 := shut a3; have Hb3 := shut b3; have Hr3 := shut r3; have Ht3 := shut t3; have Hgx3 := shut gx3; have Hfz3 := shut fz3; clear a3 b3 r3 t3 gx3 fz3
  have Ha4 := shut a4; have Hb4 := shut b4; have Hr4 := shut r4; have Ht4 := shut t4; have Hgx4 := shut gx4; have Hfz4 := shut fz4; clear a4 b4 r4 t4 gx4 fz4
  have Ha5 := shut a5; have Hb5 := shut b5; have Hr5 := shut r5; have Ht5 := shut t5; have Hgx5 := shut gx5; have Hfz5 := shut fz5; clear a5 b5 r5 t5 gx5 fz5
  have HhX := shut hX; clear hX
  have cx0 : w.cell? ⟨bx, ox, none⟩ = some (.int .u64 x0) := hx0
  have cz0 : w.cell? ⟨bz, oz, none⟩ = some (.int .u64 z0) := hz0
  have cx1 : (w.setCell ⟨bz, oz, none⟩ (.int .u64 s0)).cell? ⟨bx, ox + 1, none⟩ = some (.int .u64 x1) := keep (hx1) (by omega)
  have cz1 : (w.setCell ⟨bz, oz, none⟩ (.int .u64 s0)).cell? ⟨bz, oz + 1, none⟩ = some (.int .u64 z1) := keep (hz1) (by omega)
  have cx2 : ((w.setCell ⟨bz, oz, none⟩ (.int .u64 s0)).setCell ⟨bz, oz + 1, none⟩ (.int .u64 s1)).cell? ⟨bx, ox + 2, none⟩ = some (.int .u64 x2) := keep (keep (hx2) (by omega)) (by omega)
  have cz2 : ((w.setCell ⟨bz, oz, none⟩ (.int .u64 s0)).setCell ⟨bz, oz + 1, none⟩ (.int .u64 s1)).cell? ⟨bz, oz + 2, none⟩ = some (.int .u64 z2) := keep (keep (hz2) (by omega)) (by omega)
  have cx3 : (((w.setCell ⟨bz, oz, none⟩ (.int .u64 s0)).setCell ⟨bz, oz + 1, none⟩ (.int .u64 s1)).setCell ⟨bz, oz + 2, none⟩ (.int .u64 s2)).cell? ⟨bx, ox + 3, none⟩ = some (.int .u64 x3) := keep (keep (keep (hx3) (by omega)) (by omega)) (by omega)
  have cz3 : (((w.setCell ⟨bz, oz, none⟩ (.int .u64 s0)).setCell ⟨bz, oz + 1, none⟩ (.int .u64 s1)).setCell ⟨bz, oz + 2, none⟩ (.int .u64 s2)).cell? ⟨bz, oz + 3, none⟩ = some (.int .u64 z3) := keep (keep (keep (hz3) (by omega)) (by omega)) (by omega)
  have cx4 : ((((w.setCell ⟨bz, oz, none⟩ (.int .u64 s0)).setCell ⟨bz, oz + 1, none⟩ (.int .u64 s1)).setCell ⟨bz, oz + 2, none⟩ (.int .u64 s2)).setCell ⟨bz, oz + 3, none⟩ (.int .u64 s3)).cell? ⟨bx, ox + 4, none⟩ = some (.int .u64 x4) := keep (keep (keep (keep (hx4) (by omega)) (by omega)) (by omega)) (by omega)
  have cz4 : ((((w.setCell ⟨bz, oz, none⟩ (.int .u64 s0)).setCell ⟨bz, oz + 1, none⟩ (.int .u64 s1)).setCell ⟨bz, oz + 2, none⟩ (.int .u64 s2)).setCell ⟨bz, oz + 3, none⟩ (.int .u64 s3)).cell? ⟨bz, oz + 4, none⟩ = some (.int .u64 z4) := keep (keep (keep (keep (hz4) (by omega)) (by omega)) (by omega)) (by omega)
  have cx5 : (((((w.setCell ⟨bz, oz, none⟩ (.int .u64 s0)).setCell ⟨bz, oz + 1, none⟩ (.int .u64 s1)).setCell ⟨bz, oz + 2, none⟩ (.int .u64 s2)).setCell ⟨bz, oz + 3, none⟩ (.int .u64 s3)).setCell ⟨bz, oz + 4, none⟩ (.int .u64 s4)).cell? ⟨bx, ox + 5, none⟩ = some (.int .u64 x5) := keep (keep (keep (keep (keep (hx5) (by omega)) (by omega)) (by omega)) (by omega)) (by omega)
  have cz5 : (((((w.setCell ⟨bz, oz, none⟩ (.int .u64 s0)).setCell ⟨bz, oz + 1, none⟩ (.int .u64 s1)).setCell ⟨bz, oz + 2, none⟩ (.int .u64 s2)).setCell ⟨bz, oz + 3, none⟩ (.int .u64 s3)).setCell ⟨bz, oz + 4, none⟩ (.int .u64 s4)).cell? ⟨bz, oz + 5, none⟩ = some (.int .u64 z5) := keep (keep (keep (keep (keep (hz5) (by omega)) (by omega)) (by omega)) (by omega)) (by omega)
  have cs0 : ((((((w.setCell ⟨bz, oz, none⟩ (.int .u64 s0)).setCell ⟨bz, oz + 1, none⟩ (.int .u64 s1)).setCell ⟨bz, oz + 2, none⟩ (.int .u64 s2)).setCell ⟨bz, oz + 3, none⟩ (.int .u64 s3)).setCell ⟨bz, oz + 4, none⟩ (.int .u64 s4)).setCell ⟨bz, oz + 5, none⟩ (.int .u64 s5)).cell? ⟨bz, oz, none⟩ = some (.int .u64 s0) := keep (keep (keep (keep (keep (hit (hz0)) (by omega)) (by omega)) (by omega)) (by omega)) (by omega)
  have cs1 : ((((((w.setCell ⟨bz, oz, none⟩ (.int .u64 s0)).setCell ⟨bz, oz + 1, none⟩ (.int .u64 s1)).setCell ⟨bz, oz + 2, none⟩ (.int .u64 s2)).setCell ⟨bz, oz + 3, none⟩ (.int .u64 s3)).setCell ⟨bz, oz + 4, none⟩ (.int .u64 s4)).setCell ⟨bz, oz + 5, none⟩ (.int .u64 s5)).cell? ⟨bz, oz + 1, none⟩ = some (.int .u64 s1) := keep (keep (keep (keep (hit (keep (hz1) (by omega))) (by omega)) (by omega)) (by omega)) (by omega)
  have cs2 : ((((((w.setCell ⟨bz, oz, none⟩ (.int .u64 s0)).setCell ⟨bz, oz + 1, none⟩ (.int .u64 s1)).setCell ⟨bz, oz + 2, none⟩ (.int .u64 s2)).setCell ⟨bz, oz + 3, none⟩ (.int .u64 s3)).setCell ⟨bz, oz + 4, none⟩ (.int .u64 s4)).setCell ⟨bz, oz + 5, none⟩ (.int .u64 s5)).cell? ⟨bz, oz + 2, none⟩ = some (.int .u64 s2) := keep (keep (keep (hit (keep (keep (hz2) (by omega)) (by omega))) (by omega)) (by omega)) (by omega)
  have cs3 : ((((((w.setCell ⟨bz, oz, none⟩ (.int .u64 s0)).setCell ⟨bz, oz + 1, none⟩ (.int .u64 s1)).setCell ⟨bz, oz + 2, none⟩ (.int .u64 s2)).setCell ⟨bz, oz + 3, none⟩ (.int .u64 s3)).setCell ⟨bz, oz + 4, none⟩ (.int .u64 s4)).setCell ⟨bz, oz + 5, none⟩ (.int .u64 s5)).cell? ⟨bz, oz + 3, none⟩ = some (.int .u64 s3) := keep (keep (hit (keep (keep (keep (hz3) (by omega)) (by omega)) (by omega))) (by omega)) (by omega)
  have cs4 : ((((((w.setCell ⟨bz, oz, none⟩ (.int .u64 s0)).setCell ⟨bz, oz + 1, none⟩ (.int .u64 s1)).setCell ⟨bz, oz + 2, none⟩ (.int .u64 s2)).setCell ⟨bz, oz + 3, none⟩ (.int .u64 s3)).setCell ⟨bz, oz + 4, none⟩ (.int .u64 s4)).setCell ⟨bz, oz + 5, none⟩ (.int .u64 s5)).cell? ⟨bz, oz + 4, none⟩ = some (.int .u64 s4) := keep (hit (keep (keep (keep (keep (hz4) (by omega)) (by omega)) (by omega)) (by omega))) (by omega)
  have cs5 : ((((((w.setCell ⟨bz, oz, none⟩ (.int .u64 s0)).setCell ⟨bz, oz + 1, none⟩ (.int .u64 s1)).setCell ⟨bz, oz + 2, none⟩ (.int .u64 s2)).setCell ⟨bz, oz + 3, none⟩ (.int .u64 s3)).setCell ⟨bz, oz + 4, none⟩ (.int .u64 s4)).setCell ⟨bz, oz + 5, none⟩ (.int .u64 s5)).cell? ⟨bz, oz + 5, none⟩ = some (.int .u64 s5) := hit (keep (keep (keep (keep (keep (hz5) (by omega)) (by omega)) (by omega)) (by omega)) (by omega))
  have cd0 : ((((((w.setCell ⟨bz, oz, none⟩ (.int .u64 s0)).setCell ⟨bz, oz + 1, none⟩ (.int .u64 s1)).setCell ⟨bz, oz + 2, none⟩ (.int .u64 s2)).setCell ⟨bz, oz + 3, none⟩ (.int .u64 s3)).setCell ⟨bz, oz + 4, none⟩ (.int .u64 s4)).setCell ⟨bz, oz + 5, none⟩ (.int .u64 s5)).cell? ⟨bz, oz, none⟩ = some (.int .u64 s0) := cs0
  have cd1 : (((((((w.setCell ⟨bz, oz, none⟩ (.int .u64 s0)).setCell ⟨bz, oz + 1, none⟩ (.int .u64 s1)).setCell ⟨bz, oz + 2, none⟩ (.int .u64 s2)).setCell ⟨bz, oz + 3, none⟩ (.int .u64 s3)).setCell ⟨bz, oz + 4, none⟩ (.int .u64 s4)).setCell ⟨bz, oz + 5, none⟩ (.int .u64 s5)).setCell ⟨bz, oz, none⟩ (.int .u64 d0)).cell? ⟨bz, oz + 1, none⟩ = some (.int .u64 s1) := keep (cs1) (by omega)
  have cd2 : ((((((((w.setCell ⟨bz, oz, none⟩ (.int .u64 s0)).setCell ⟨bz, oz + 1, none⟩ (.int .u64 s1)).setCell ⟨bz, oz + 2, none⟩ (.int .u64 s2)).setCell ⟨bz, oz + 3, none⟩ (.int .u64 s3)).setCell ⟨bz, oz + 4, none⟩ (.int .u64 s4)).setCell ⟨bz, oz + 5, none⟩ (.int .u64 s5)).setCell ⟨bz, oz, none⟩ (.int .u64 d0)).setCell ⟨bz, oz + 1, none⟩ (.int .u64 d1)).cell? ⟨bz, oz + 2, none⟩ = some (.int .u64 s2) := keep (keep (cs2) (by omega)) (by omega)
  have cd3 : (((((((((w.setCell ⟨bz, oz, none⟩ (.int .u64 s0)).setCell ⟨bz, oz + 1, none⟩ (.int .u64 s1)).setCell ⟨bz, oz + 2, none⟩ (.int .u64 s2)).setCell ⟨bz, oz + 3, none⟩ (.int .u64 s3)).setCell ⟨bz, oz + 4, none⟩ (.int .u64 s4)).setCell ⟨bz, oz + 5, none⟩ (.int .u64 s5)).setCell ⟨bz, oz, none⟩ (.int .u64 d0)).setCell ⟨bz, oz + 1, none⟩ (.int .u64 d1)).setCell ⟨bz, oz + 2, none⟩ (.int .u64 d2)).cell? ⟨bz, oz + 3, none⟩ = some (.int .u64 s3) := keep (keep (keep (cs3) (by omega)) (by omega)) (by omega)
  have cd4 : ((((((((((w.setCell ⟨bz, oz, none⟩ (.int .u64 s0)).setCell ⟨bz, oz + 1, none⟩ (.int .u64 s1)).setCell ⟨bz, oz + 2, none⟩ (.int .u64 s2)).setCell ⟨bz, oz + 3, none⟩ (.int .u64 s3)).setCell ⟨bz, oz + 4, none⟩ (.int .u64 s4)).setCell ⟨bz, oz + 5, none⟩ (.int .u64 s5)).setCell ⟨bz, oz, none⟩ (.int .u64 d0)).setCell ⟨bz, oz + 1, none⟩ (.int .u64 d1)).setCell ⟨bz, oz + 2, none⟩ (.int .u64 d2)).setCell ⟨bz, oz + 3, none⟩ (.int .u64 d3)).cell? ⟨bz, oz + 4, none⟩ = some (.int .u64 s4) := keep (keep (keep (keep (cs4) (by omega)) (by omega)) (by omega)) (by omega)
  have cd5 : (((((((((((w.setCell ⟨bz, oz, none⟩ (.int .u64 s0)).setCell ⟨bz, oz + 1, none⟩ (.int .u64 s1)).setCell ⟨bz, oz + 2, none⟩ (.int .u64 s2)).setCell ⟨bz, oz + 3, none⟩ (.int .u64 s3)).setCell ⟨bz, oz + 4, none⟩ (.int .u64 s4)).setCell ⟨bz, oz + 5, none⟩ (.int .u64 s5)).setCell ⟨bz, oz, none⟩ (.int .u64 d0)).setCell ⟨bz, oz + 1, none⟩ (.int .u64 d1)).setCell ⟨bz, oz + 2, none⟩ (.int .u64 d2)).setCell ⟨bz, oz + 3, none⟩ (.int .u64 d3)).setCell ⟨bz, oz + 4, none⟩ (.int .u64 d4)).cell? ⟨bz, oz + 5, none⟩ = some (.int .u64 s5) := keep (keep (keep (keep (keep (cs5) (by omega)) (by omega)) (by omega)) (by omega)) (by omega)
  have Hcx0 := shut cx0; have Hcz0 := shut cz0; have Hcs0 := shut cs0; have Hcd0 := shut cd0; clear cx0 cz0 cs0 cd0
  have Hcx1 := shut cx1; have Hcz1 := shut cz1; have Hcs1 := shut cs1; have Hcd1 := shut cd1; clear cx1 cz1 cs1 cd1
  have Hcx2 := shut cx2; have Hcz2 := shut cz2; have Hcs2 := shut cs2; have Hcd2 := shut cd2; clear cx2 cz2 cs2 cd2
  have Hcx3 := shut cx3; have Hcz3 := shut cz3; have Hcs3 := shut cs3; have Hcd3 := shut cd3; clear cx3 cz3 cs3 cd3
  have Hcx4 := shut cx4; have Hcz4 := shut cz4; have Hcs4 := shut cs4; have Hcd4 := shut cd4; clear cx4 cz4 cs4 cd4
  have Hcx5 := shut cx5; have Hcz5 := shut cz5; have Hcs5 := shut cs5; have Hcd5 := shut cd5; clear cx5 cz5 cs5 cd5
  clear hx0 hz0 hx1 hz1 hx2 hz2 hx3 hz3 hx4 hz4 hx5 hz5
  have N1 := adds_num Ha0.out Ha1.out Ha2.out Ha3.out Ha4.out Ha5.out
  have N2 := subs_nump Hb0.out Hb1.out Hb2.out Hb3.out Hb4.out Hb5.out
  have E1 := add_small N1 (num_pos Hgx0.out Hgx1.out Hgx2.out Hgx3.out Hgx4.out Hgx5.out) (num_pos Hgx0.out Hgx1.out Hgx2.out Hgx3.out Hgx4.out Hgx5.out) (num_pos Ha0.out.wd Ha1.out.wd Ha2.out.wd Ha3.out.wd Ha4.out.wd Ha5.out.wd) (num_top Ha0.out.wd Ha1.out.wd Ha2.out.wd Ha3.out.wd Ha4.out.wd Ha5.out.wd) Ha5.out.bt HhX.out HhX.out
  have E2 := add_big N1 N2 (num_pos Hgx0.out Hgx1.out Hgx2.out Hgx3.out Hgx4.out Hgx5.out) (num_pos Hgx0.out Hgx1.out Hgx2.out Hgx3.out Hgx4.out Hgx5.out) (num_pos Ha0.out.wd Ha1.out.wd Ha2.out.wd Ha3.out.wd Ha4.out.wd Ha5.out.wd) (num_top Ha0.out.wd Ha1.out.wd Ha2.out.wd Ha3.out.wd Ha4.out.wd Ha5.out.wd) (num_pos Hb0.out.wd Hb1.out.wd Hb2.out.wd Hb3.out.wd Hb4.out.wd Hb5.out.wd) (num_top Hb0.out.wd Hb1.out.wd Hb2.out.wd Hb3.out.wd Hb4.out.wd Hb5.out.wd) Ha5.out.bt Hb5.out.bt HhX.out HhX.out
  have HE := shut (And.intro E1 E2); clear E1 E2 N1 N2
  by_cases hl : num s0 s1 s2 s3 s4 s5 < 4002409555221667393417789825735904156556882819939007885332058136124031650490837864442687629129015664037894272559787
  ·
    have HL := shut hl
    have ht : decide (num s0 s1 s2 s3 s4 s5 < 4002409555221667393417789825735904156556882819939007885332058136124031650490837864442687629129015664037894272559787) = true := by simpa using hl
    have HT := shut ht
    clear hl ht
    go_enter Try.func33, Try.ntmps33
    go_wp2_with fail
    have o0 := Hcx0.out
    have o1 := Hcz0.out
    have o2 := Hr0.out
    have o3 := Hfz0.out
    go_region
    clear o0 o1 o2 o3
    go_wp2_with fail
    have o0 := Hcx1.out
    have o1 := Hcz1.out
    have o2 := Hr1.out
    have o3 := Hfz1.out
    go_region
    clear o0 o1 o2 o3
    go_wp2_with fail
    have o0 := Hcx2.out
    have o1 := Hcz2.out
    have o2 := Hr2.out
    have o3 := Hfz2.out
    go_region
    clear o0 o1 o2 o3
    go_wp2_with fail
    have o0 := Hcx3.out
    have o1 := Hcz3.out
    have o2 := Hr3.out
    have o3 := Hfz3.out
    go_region
    clear o0 o1 o2 o3
    go_wp2_with fail
    have o0 := Hcx4.out
    have o1 := Hcz4.out
    have o2 := Hr4.out
    have o3 := Hfz4.out
    go_region
    clear o0 o1 o2 o3
    go_wp2_with fail
    have o0 := Hcx5.out
    have o1 := Hcz5.out
    have o2 := Hr5.out
    have o3 := Hfz5.out
    go_region
    clear o0 o1 o2 o3
    go_wp2_with fail
    refine (small_any bz oz s0 s1 s2 s3 s4 s5 _ Ha0.out.wd Ha1.out.wd Ha2.out.wd Ha3.out.wd Ha4.out.wd Ha5.out.wd (by simp only [World.cell?_drew]; exact Hcs0.out) (by simp only [World.cell?_drew]; exact Hcs1.out) (by simp only [World.cell?_drew]; exact Hcs2.out) (by simp only [World.cell?_drew]; exact Hcs3.out) (by simp only [World.cell?_drew]; exact Hcs4.out) (by simp only [World.cell?_drew]; exact Hcs5.out)).mono ?_
    rintro e w' ⟨rfl, rfl⟩
    have ht := HT.out
    go_wp2_with fail
    clear ht
    go_ret
    exact ⟨rfl, s0, s1, s2, s3, s4, s5, ⟨Ha0.out.wd, Ha1.out.wd, Ha2.out.wd, Ha3.out.wd, Ha4.out.wd, Ha5.out.wd⟩, HE.out.1 HL.out, 6, by with_reducible exact drewn_6 _⟩
  ·
    have HL := shut hl
    have ht : decide (num s0 s1 s2 s3 s4 s5 < 4002409555221667393417789825735904156556882819939007885332058136124031650490837864442687629129015664037894272559787) = false := by simpa using hl
    have HT := shut ht
    clear hl ht
    go_enter Try.func33, Try.ntmps33
    go_wp2_with fail
    have o0 := Hcx0.out
    have o1 := Hcz0.out
    have o2 := Hr0.out
    have o3 := Hfz0.out
    go_region
    clear o0 o1 o2 o3
    go_wp2_with fail
    have o0 := Hcx1.out
    have o1 := Hcz1.out
    have o2 := Hr1.out
    have o3 := Hfz1.out
    go_region
    clear o0 o1 o2 o3
    go_wp2_with fail
    have o0 := Hcx2.out
    have o1 := Hcz2.out
    have o2 := Hr2.out
    have o3 := Hfz2.out
    go_region
    clear o0 o1 o2 o3
    go_wp2_with fail
    have o0 := Hcx3.out
    have o1 := Hcz3.out
    have o2 := Hr3.out
    have o3 := Hfz3.out
    go_region
    clear o0 o1 o2 o3
    go_wp2_with fail
    have o0 := Hcx4.out
    have o1 := Hcz4.out
    have o2 := Hr4.out
    have o3 := Hfz4.out
    go_region
    clear o0 o1 o2 o3
    go_wp2_with fail
    have o0 := Hcx5.out
    have o1 := Hcz5.out
    have o2 := Hr5.out
    have o3 := Hfz5.out
    go_region
    clear o0 o1 o2 o3
    go_wp2_with fail
    refine (small_any bz oz s0 s1 s2 s3 s4 s5 _ Ha0.out.wd Ha1.out.wd Ha2.out.wd Ha3.out.wd Ha4.out.wd Ha5.out.wd (by simp only [World.cell?_drew]; exact Hcs0.out) (by simp only [World.cell?_drew]; exact Hcs1.out) (by simp only [World.cell?_drew]; exact Hcs2.out) (by simp only [World.cell?_drew]; exact Hcs3.out) (by simp only [World.cell?_drew]; exact Hcs4.out) (by simp only [World.cell?_drew]; exact Hcs5.out)).mono ?_
    rintro e w' ⟨rfl, rfl⟩
    have ht := HT.out
    go_wp2_with fail
    clear ht
    have o0 := Hcs0.out
    have o1 := Ht0.out
    have o2 := Hfz0.out
    go_region
    clear o0 o1 o2
    go_wp2_with fail
    have o0 := Hcd1.out
    have o1 := Ht1.out
    have o2 := Hfz1.out
    go_region
    clear o0 o1 o2
    go_wp2_with fail
    have o0 := Hcd2.out
    have o1 := Ht2.out
    have o2 := Hfz2.out
    go_region
    clear o0 o1 o2
    go_wp2_with fail
    have o0 := Hcd3.out
    have o1 := Ht3.out
    have o2 := Hfz3.out
    go_region
    clear o0 o1 o2
    go_wp2_with fail
    have o0 := Hcd4.out
    have o1 := Ht4.out
    have o2 := Hfz4.out
    go_region
    clear o0 o1 o2
    go_wp2_with fail
    have o0 := Hcd5.out
    have o1 := Ht5.out
    have o2 := Hfz5.out
    go_region
    clear o0 o1 o2
    go_wp2_with fail
    go_ret
    refine ⟨rfl, d0, d1, d2, d3, d4, d5, ⟨Hb0.out.wd, Hb1.out.wd, Hb2.out.wd, Hb3.out.wd, Hb4.out.wd, Hb5.out.wd⟩, HE.out.2 HL.out, 12, ?_⟩
    rw [set_again]; with_reducible exact drewn_12 _

theorem edouble (bz oz bx ox X R : Nat) (z0 z1 z2 z3 z4 z5 : Int) (w : World) (hR : R = (X + X) % 4002409555221667393417789825735904156556882819939007885332058136124031650490837864442687629129015664037894272559787) (hzx : bz ≠ bx ∨ oz = ox ∨ oz + 6 ≤ ox ∨ ox + 6 ≤ oz) (hX : X < 4002409555221667393417789825735904156556882819939007885332058136124031650490837864442687629129015664037894272559787)
    (hx0 : w.cell? ⟨bx, ox, none⟩ = some (.int .u64 (wd X 0 : Nat))) (hx1 : w.cell? ⟨bx, ox + 1, none⟩ = some (.int .u64 (wd X 1 : Nat))) (hx2 : w.cell? ⟨bx, ox + 2, none⟩ = some (.int .u64 (wd X 2 : Nat))) (hx3 : w.cell? ⟨bx, ox + 3, none⟩ = some (.int .u64 (wd X 3 : Nat))) (hx4 : w.cell? ⟨bx, ox + 4, none⟩ = some (.int .u64 (wd X 4 : Nat))) (hx5 : w.cell? ⟨bx, ox + 5, none⟩ = some (.int .u64 (wd X 5 : Nat)))
    (hz0 : w.cell? ⟨bz, oz, none⟩ = some (.int .u64 z0)) (hz1 : w.cell? ⟨bz, oz + 1, none⟩ = some (.int .u64 z1)) (hz2 : w.cell? ⟨bz, oz + 2, none⟩ = some (.int .u64 z2)) (hz3 : w.cell? ⟨bz, oz + 3, none⟩ = some (.int .u64 z3)) (hz4 : w.cell? ⟨bz, oz + 4, none⟩ = some (.int .u64 z4)) (hz5 : w.cell? ⟨bz, oz + 5, none⟩ = some (.int .u64 z5))
    (fz0 : w.frozen? ⟨bz, oz, none⟩ = false) (fz1 : w.frozen? ⟨bz, oz + 1, none⟩ = false) (fz2 : w.frozen? ⟨bz, oz + 2, none⟩ = false) (fz3 : w.frozen? ⟨bz, oz + 3, none⟩ = false) (fz4 : w.frozen? ⟨bz, oz + 4, none⟩ = false) (fz5 : w.frozen? ⟨bz, oz + 5, none⟩ = false) :
    Calls Try.prog 33 #[.pointer (some ⟨bz, oz, none⟩), .pointer (some ⟨bx, ox, none⟩)] w fun e w' => e = .returned (.pointer (some ⟨bz, oz, none⟩)) ∧
      ∃ m, w' = ((((((w.setCell ⟨bz, oz, none⟩ (.int .u64 (wd R 0 : Nat))).setCell ⟨bz, oz + 1, none⟩ (.int .u64 (wd R 1 : Nat))).setCell ⟨bz, oz + 2, none⟩ (.int .u64 (wd R 2 : Nat))).setCell ⟨bz, oz + 3, none⟩ (.int .u64 (wd R 3 : Nat))).setCell ⟨bz, oz + 4, none⟩ (.int .u64 (wd R 4 : Nat))).setCell ⟨bz, oz + 5, none⟩ (.int .u64 (wd R 5 : Nat))).drewN m := by
  have nX : num (wd X 0 : Nat) (wd X 1 : Nat) (wd X 2 : Nat) (wd X 3 : Nat) (wd X 4 : Nat) (wd X 5 : Nat) = (X : Int) := num_wd (by omega)
  refine (edouble_t bz oz bx ox z0 z1 z2 z3 z4 z5 _ _ _ _ _ _ w hzx (by rw [nX]; omega) (wd_nat _ _) (wd_nat _ _) (wd_nat _ _) (wd_nat _ _) (wd_nat _ _) (wd_nat _ _) hx0 hx1 hx2 hx3 hx4 hx5 hz0 hz1 hz2 hz3 hz4 hz5 fz0 fz1 fz2 fz3 fz4 fz5).mono ?_
  rintro e w' ⟨he, d0, d1, d2, d3, d4, d5, ⟨g0, g1, g2, g3, g4, g5⟩, hn, m, hw⟩
  obtain ⟨r0, r1, r2, r3, r4, r5⟩ := wd_num (A := R) g0 g1 g2 g3 g4 g5 (by rw [hn, nX, hR]; omega)
  subst d0 d1 d2 d3 d4 d5
  exact ⟨he, m, hw⟩

set_option maxRecDepth 100000 in
set_option maxHeartbeats 6400000 in
theorem esub_t (bz oz bx ox b_y o_y : Nat) (z0 z1 z2 z3 z4 z5 x0 x1 x2 x3 x4 x5 y0 y1 y2 y3 y4 y5 : Int) (w : World) (hzx : bz ≠ bx ∨ oz = ox ∨ oz + 6 ≤ ox ∨ ox + 6 ≤ oz) (hzy : bz ≠ b_y ∨ oz = o_y ∨ oz + 6 ≤ o_y ∨ o_y + 6 ≤ oz)
    (hX : num x0 x1 x2 x3 x4 x5 < 4002409555221667393417789825735904156556882819939007885332058136124031650490837864442687629129015664037894272559787) (hY : num y0 y1 y2 y3 y4 y5 < 4002409555221667393417789825735904156556882819939007885332058136124031650490837864442687629129015664037894272559787)
    (gx0 : Wd x0) (gx1 : Wd x1) (gx2 : Wd x2) (gx3 : Wd x3) (gx4 : Wd x4) (gx5 : Wd x5) (gy0 : Wd y0) (gy1 : Wd y1) (gy2 : Wd y2) (gy3 : Wd y3) (gy4 : Wd y4) (gy5 : Wd y5)
    (hx0 : w.cell? ⟨bx, ox, none⟩ = some (.int .u64 x0)) (hx1 : w.cell? ⟨bx, ox + 1, none⟩ = some (.int .u64 x1)) (hx2 : w.cell? ⟨bx, ox + 2, none⟩ = some (.int .u64 x2)) (hx3 : w.cell? ⟨bx, ox + 3, none⟩ = some (.int .u64 x3)) (hx4 : w.cell? ⟨bx, ox + 4, none⟩ = some (.int .u64 x4)) (hx5 : w.cell? ⟨bx, ox + 5, none⟩ = some (.int .u64 x5)) (hy0 : w.cell? ⟨b_y, o_y, none⟩ = some (.int .u64 y0)) (hy1 : w.cell? ⟨b_y, o_y + 1, none⟩ = some (.int .u64 y1)) (hy2 : w.cell? ⟨b_y, o_y + 2, none⟩ = some (.int .u64 y2)) (hy3 : w.cell? ⟨b_y, o_y + 3, none⟩ = some (.int .u64 y3)) (hy4 : w.cell? ⟨b_y, o_y + 4, none⟩ = some (.int .u64 y4)) (hy5 : w.cell? ⟨b_y, o_y + 5, none⟩ = some (.int .u64 y5))
    (hz0 : w.cell? ⟨bz, oz, none⟩ = some (.int .u64 z0)) (hz1 : w.cell? ⟨bz, oz + 1, none⟩ = some (.int .u64 z1)) (hz2 : w.cell? ⟨bz, oz + 2, none⟩ = some (.int .u64 z2)) (hz3 : w.cell? ⟨bz, oz + 3, none⟩ = some (.int .u64 z3)) (hz4 : w.cell? ⟨bz, oz + 4, none⟩ = some (.int .u64 z4)) (hz5 : w.cell? ⟨bz, oz + 5, none⟩ = some (.int .u64 z5))
    (fz0 : w.frozen? ⟨bz, oz, none⟩ = false) (fz1 : w.frozen? ⟨bz, oz + 1, none⟩ = false) (fz2 : w.frozen? ⟨bz, oz + 2, none⟩ = false) (fz3 : w.frozen? ⟨bz, oz + 3, none⟩ = false) (fz4 : w.frozen? ⟨bz, oz + 4, none⟩ = false) (fz5 : w.frozen? ⟨bz, oz + 5, none⟩ = false) :
    Calls Try.prog 32 #[.pointer (some ⟨bz, oz, none⟩), .pointer (some ⟨bx, ox, none⟩), .pointer (some ⟨b_y, o_y, none⟩)] w fun e w' => e = .returned (.pointer (some ⟨bz, oz, none⟩)) ∧
      ∃ d0 d1 d2 d3 d4 d5 : Int, (Wd d0 ∧ Wd d1 ∧ Wd d2 ∧ Wd d3 ∧ Wd d4 ∧ Wd d5) ∧ num d0 d1 d2 d3 d4 d5 = (num x0 x1 x2 x3 x4 x5 + 4002409555221667393417789825735904156556882819939007885332058136124031650490837864442687629129015664037894272559787 - num y0 y1 y2 y3 y4 y5) % 4002409555221667393417789825735904156556882819939007885332058136124031650490837864442687629129015664037894272559787 ∧ ∃ m, w' = ((((((w.setCell ⟨bz, oz, none⟩ (.int .u64 d0)).setCell ⟨bz, oz + 1, none⟩ (.int .u64 d1)).setCell ⟨bz, oz + 2, none⟩ (.int .u64 d2)).setCell ⟨bz, oz + 3, none⟩ (.int .u64 d3)).setCell ⟨bz, oz + 4, none⟩ (.int .u64 d4)).setCell ⟨bz, oz + 5, none⟩ (.int .u64 d5)).drewN m := by
  obtain ⟨s0, k0, a0, r0⟩ := sub64 gx0 gy0 (c := 0) Bt.zero
  obtain ⟨s1, k1, a1, r1⟩ := sub64 gx1 gy1 (c := k0) a0.bt
  obtain ⟨s2, k2, a2, r2⟩ := sub64 gx2 gy2 (c := k1) a1.bt
  obtain ⟨s3, k3, a3, r3⟩ := sub64 gx3 gy3 (c := k2) a2.bt
  obtain ⟨s4, k4, a4, r4⟩ := sub64 gx4 gy4 (c := k3) a3.bt
  obtain ⟨s5, k5, a5, r5⟩ := sub64 gx5 gy5 (c := k4) a4.bt
  obtain ⟨d0, e0, b0, t0⟩ := add64 a0.wd (y := 13402431016077863595) ⟨by omega, by omega⟩ (c := 0) Bt.zero
  obtain ⟨d1, e1, b1, t1⟩ := add64 a1.wd (y := 2210141511517208575) ⟨by omega, by omega⟩ (c := e0) b0.bt
  obtain ⟨d2, e2, b2, t2⟩ := add64 a2.wd (y := 7435674573564081700) ⟨by omega, by omega⟩ (c := e1) b1.bt
  obtain ⟨d3, e3, b3, t3⟩ := add64 a3.wd (y := 7239337960414712511) ⟨by omega, by omega⟩ (c := e2) b2.bt
  obtain ⟨d4, e4, b4, t4⟩ := add64 a4.wd (y := 5412103778470702295) ⟨by omega, by omega⟩ (c := e3) b3.bt
  obtain ⟨d5, e5, b5, t5⟩ := add64 a5.wd (y := 1873798617647539866) ⟨by omega, by omega⟩ (c := e4) b4.bt
  have Ha0 := shut a0; have Hb0 := shut b0; have Hr0 := shut r0; have Ht0 := shut t0; have Hgx0 := shut gx0; have Hgy0 := shut gy0; have Hfz0 := shut fz0; clear a0 b0 r0 t0 gx0 gy0 fz0
  have Ha1 := shut a1; have Hb1 := shut b1; have Hr1 := shut r1; have Ht1 := shut t1; have Hgx1 := shut gx1; have Hgy1 := shut gy1; have Hfz1 := shut fz1; clear a1 b1 r1 t1 gx1 gy1 fz1
  have Ha2 := shut a2; have Hb2 := shut b2; have Hr2 := shut r2; have Ht2 := shut t2; have Hgx2 := shut gx2; have Hgy2 := shut gy2; have Hfz2 := shut fz2; clear a2 b2 r2 t2 gx2 gy2 fz2
  have Ha3 := shut a3; have Hb3 := shut b3; have Hr3 := shut r3; have Ht3 := shut t3; have Hgx3 := shut gx3; have Hgy3 := shut gy3; have Hfz3 := shut fz3; clear a3 b3 r3 t3 gx3 gy3 fz3
  have Ha4 := shut a4; have Hb4 := shut b4; have Hr4 := shut r4; have Ht4 := shut t4; have Hgx4 := shut gx4; have Hgy4 := shut gy4; have Hfz4 := shut fz4; clear a4 b4 r4 t4 gx4 gy4 fz4
  have Ha5 := shut a5; have Hb5 := shut b5; have Hr5 := shut r5; have Ht5 := shut t5; have Hgx5 := shut gx5; have Hgy5 := shut gy5; have Hfz5 := shut fz5; clear a5 b5 r5 t5 gx5 gy5 fz5
  have HhX := shut hX; have HhY := shut hY; clear hX hY
  have cx0 : w.cell? ⟨bx, ox, none⟩ = some (.int .u64 x0) := hx0
  have cy0 : w.cell? ⟨b_y, o_y, none⟩ = some (.int .u64 y0) := hy0
  have cz0 : w.cell? ⟨bz, oz, none⟩ = some (.int .u64 z0) := hz0
  have cx1 : (w.setCell ⟨bz, oz, none⟩ (.int .u64 s0)).cell? ⟨bx, ox + 1, none⟩ = some (.int .u64 x1) := keep (hx1) (by omega)
  have cy1 : (w.setCell ⟨bz, oz, none⟩ (.int .u64 s0)).cell? ⟨b_y, o_y + 1, none⟩ = some (.int .u64 y1) := keep (hy1) (by omega)
  have cz1 : (w.setCell ⟨bz, oz, none⟩ (.int .u64 s0)).cell? ⟨bz, oz + 1, none⟩ = some (.int .u64 z1) := keep (hz1) (by omega)
  have cx2 : ((w.setCell ⟨bz, oz, none⟩ (.int .u64 s0)).setCell ⟨bz, oz + 1, none⟩ (.int .u64 s1)).cell? ⟨bx, ox + 2, none⟩ = some (.int .u64 x2) := keep (keep (hx2) (by omega)) (by omega)
  have cy2 : ((w.setCell ⟨bz, oz, none⟩ (.int .u64 s0)).setCell ⟨bz, oz + 1, none⟩ (.int .u64 s1)).cell? ⟨b_y, o_y + 2, none⟩ = some (.int .u64 y2) := keep (keep (hy2) (by omega)) (by omega)
  have cz2 : ((w.setCell ⟨bz, oz, none⟩ (.int .u64 s0)).setCell ⟨bz, oz + 1, none⟩ (.int .u64 s1)).cell? ⟨bz, oz + 2, none⟩ = some (.int .u64 z2) := keep (keep (hz2) (by omega)) (by omega)
  have cx3 : (((w.setCell ⟨bz, oz, none⟩ (.int .u64 s0)).setCell ⟨bz, oz + 1, none⟩ (.int .u64 s1)).setCell ⟨bz, oz + 2, none⟩ (.int .u64 s2)).cell? ⟨bx, ox + 3, none⟩ = some (.int .u64 x3) := keep (keep (keep (hx3) (by omega)) (by omega)) (by omega)
  have cy3 : (((w.setCell ⟨bz, oz, none⟩ (.int .u64 s0)).setCell ⟨bz, oz + 1, none⟩ (.int .u64 s1)).setCell ⟨bz, oz + 2, none⟩ (.int .u64 s2)).cell? ⟨b_y, o_y + 3, none⟩ = some (.int .u64 y3) := keep (keep (keep (hy3) (by omega)) (by omega)) (by omega)
  have cz3 : (((w.setCell ⟨bz, oz, none⟩ (.int .u64 s0)).setCell ⟨bz, oz + 1, none⟩ (.int .u64 s1)).setCell ⟨bz, oz + 2, none⟩ (.int .u64 s2)).cell? ⟨bz, oz + 3, none⟩ = some (.int .u64 z3) := keep (keep (keep (hz3) (by omega)) (by omega)) (by omega)
  have cx4 : ((((w.setCell ⟨bz, oz, none⟩ (.int .u64 s0)).setCell ⟨bz, oz + 1, none⟩ (.int .u64 s1)).setCell ⟨bz, oz + 2, none⟩ (.int .u64 s2)).setCell ⟨bz, oz + 3, none⟩ (.int .u64 s3)).cell? ⟨bx, ox + 4, none⟩ = some (.int .u64 x4) := keep (keep (keep (keep (hx4) (by omega)) (by omega)) (by omega)) (by omega)
  have cy4 : ((((w.setCell ⟨bz, oz, none⟩ (.int .u64 s0)).setCell ⟨bz, oz + 1, none⟩ (.int .u64 s1)).setCell ⟨bz, oz + 2, none⟩ (.int .u64 s2)).setCell ⟨bz, oz + 3, none⟩ (.int .u64 s3)).cell? ⟨b_y, o_y + 4, none⟩ = some (.int .u64 y4) := keep (keep (keep (keep (hy4) (by omega)) (by omega)) (by omega)) (by omega)
  have cz4 : ((((w.setCell ⟨bz, oz, none⟩ (.int .u64 s0)).setCell ⟨bz, oz + 1, none⟩ (.int .u64 s1)).setCell ⟨bz, oz + 2, none⟩ (.int .u64 s2)).setCell ⟨bz, oz + 3, none⟩ (.int .u64 s3)).cell? ⟨bz, oz + 4, none⟩ = some (.int .u64 z4) := keep (keep (keep (keep (hz4) (by omega)) (by omega)) (by omega)) (by omega)
  have cx5 : (((((w.setCell ⟨bz, oz, none⟩ (.int .u64 s0)).setCell ⟨bz, oz + 1, none⟩ (.int .u64 s1)).setCell ⟨bz, oz + 2, none⟩ (.int .u64 s2)).setCell ⟨bz, oz + 3, none⟩ (.int .u64 s3)).setCell ⟨bz, oz + 4, none⟩ (.int .u64 s4)).cell? ⟨bx, ox + 5, none⟩ = some (.int .u64 x5) := keep (keep (keep (keep (keep (hx5) (by omega)) (by omega)) (by omega)) (by omega)) (by omega)
  have cy5 : (((((w.setCell ⟨bz, oz, none⟩ (.int .u64 s0)).setCell ⟨bz, oz + 1, none⟩ (.int .u64 s1)).setCell ⟨bz, oz + 2, none⟩ (.int .u64 s2)).setCell ⟨bz, oz + 3, none⟩ (.int .u64 s3)).setCell ⟨bz, oz + 4, none⟩ (.int .u64 s4)).cell? ⟨b_y, o_y + 5, none⟩ = some (.int .u64 y5) := keep (keep (keep (keep (keep (hy5) (by omega)) (by omega)) (by omega)) (by omega)) (by omega)
  have cz5 : (((((w.setCell ⟨bz, oz, none⟩ (.int .u64 s0)).setCell ⟨bz, oz + 1, none⟩ (.int .u64 s1)).setCell ⟨bz, oz + 2, none⟩ (.int .u64 s2)).setCell ⟨bz, oz + 3, none⟩ (.int .u64 s3)).setCell ⟨bz, oz + 4, none⟩ (.int .u64 s4)).cell? ⟨bz, oz + 5, none⟩ = some (.int .u64 z5) := keep (keep (keep (keep (keep (hz5) (by omega)) (by omega)) (by omega)) (by omega)) (by omega)
  have cs0 : ((((((w.setCell ⟨bz, oz, none⟩ (.int .u64 s0)).setCell ⟨bz, oz + 1, none⟩ (.int .u64 s1)).setCell ⟨bz, oz + 2, none⟩ (.int .u64 s2)).setCell ⟨bz, oz + 3, none⟩ (.int .u64 s3)).setCell ⟨bz, oz + 4, none⟩ (.int .u64 s4)).setCell ⟨bz, oz + 5, none⟩ (.int .u64 s5)).cell? ⟨bz, oz, none⟩ = some (.int .u64 s0) := keep (keep (keep (keep (keep (hit (hz0)) (by omega)) (by omega)) (by omega)) (by omega)) (by omega)
  have cs1 : ((((((w.setCell ⟨bz, oz, none⟩ (.int .u64 s0)).setCell ⟨bz, oz + 1, none⟩ (.int .u64 s1)).setCell ⟨bz, oz + 2, none⟩ (.int .u64 s2)).setCell ⟨bz, oz + 3, none⟩ (.int .u64 s3)).setCell ⟨bz, oz + 4, none⟩ (.int .u64 s4)).setCell ⟨bz, oz + 5, none⟩ (.int .u64 s5)).cell? ⟨bz, oz + 1, none⟩ = some (.int .u64 s1) := keep (keep (keep (keep (hit (keep (hz1) (by omega))) (by omega)) (by omega)) (by omega)) (by omega)
  have cs2 : ((((((w.setCell ⟨bz, oz, none⟩ (.int .u64 s0)).setCell ⟨bz, oz + 1, none⟩ (.int .u64 s1)).setCell ⟨bz, oz + 2, none⟩ (.int .u64 s2)).setCell ⟨bz, oz + 3, none⟩ (.int .u64 s3)).setCell ⟨bz, oz + 4, none⟩ (.int .u64 s4)).setCell ⟨bz, oz + 5, none⟩ (.int .u64 s5)).cell? ⟨bz, oz + 2, none⟩ = some (.int .u64 s2) := keep (keep (keep (hit (keep (keep (hz2) (by omega)) (by omega))) (by omega)) (by omega)) (by omega)
  have cs3 : ((((((w.setCell ⟨bz, oz, none⟩ (.int .u64 s0)).setCell ⟨bz, oz + 1, none⟩ (.int .u64 s1)).setCell ⟨bz, oz + 2, none⟩ (.int .u64 s2)).setCell ⟨bz, oz + 3, none⟩ (.int .u64 s3)).setCell ⟨bz, oz + 4, none⟩ (.int .u64 s4)).setCell ⟨bz, oz + 5, none⟩ (.int .u64 s5)).cell? ⟨bz, oz + 3, none⟩ = some (.int .u64 s3) := keep (keep (hit (keep (keep (keep (hz3) (by omega)) (by omega)) (by omega))) (by omega)) (by omega)
  have cs4 : ((((((w.setCell ⟨bz, oz, none⟩ (.int .u64 s0)).setCell ⟨bz, oz + 1, none⟩ (.int .u64 s1)).setCell ⟨bz, oz + 2, none⟩ (.int .u64 s2)).setCell ⟨bz, oz + 3, none⟩ (.int .u64 s3)).setCell ⟨bz, oz + 4, none⟩ (.int .u64 s4)).setCell ⟨bz, oz + 5, none⟩ (.int .u64 s5)).cell? ⟨bz, oz + 4, none⟩ = some (.int .u64 s4) := keep (hit (keep (keep (keep (keep (hz4) (by omega)) (by omega)) (by omega)) (by omega))) (by omega)
  have cs5 : ((((((w.setCell ⟨bz, oz, none⟩ (.int .u64 s0)).setCell ⟨bz, oz + 1, none⟩ (.int .u64 s1)).setCell ⟨bz, oz + 2, none⟩ (.int .u64 s2)).setCell ⟨bz, oz + 3, none⟩ (.int .u64 s3)).setCell ⟨bz, oz + 4, none⟩ (.int .u64 s4)).setCell ⟨bz, oz + 5, none⟩ (.int .u64 s5)).cell? ⟨bz, oz + 5, none⟩ = some (.int .u64 s5) := hit (keep (keep (keep (keep (keep (hz5) (by omega)) (by omega)) (by omega)) (by omega)) (by omega))
  have cd0 : ((((((w.setCell ⟨bz, oz, none⟩ (.int .u64 s0)).setCell ⟨bz, oz + 1, none⟩ (.int .u64 s1)).setCell ⟨bz, oz + 2, none⟩ (.int .u64 s2)).setCell ⟨bz, oz + 3, none⟩ (.int .u64 s3)).setCell ⟨bz, oz + 4, none⟩ (.int .u64 s4)).setCell ⟨bz, oz + 5, none⟩ (.int .u64 s5)).cell? ⟨bz, oz, none⟩ = some (.int .u64 s0) := cs0
  have cd1 : (((((((w.setCell ⟨bz, oz, none⟩ (.int .u64 s0)).setCell ⟨bz, oz + 1, none⟩ (.int .u64 s1)).setCell ⟨bz, oz + 2, none⟩ (.int .u64 s2)).setCell ⟨bz, oz + 3, none⟩ (.int .u64 s3)).setCell ⟨bz, oz + 4, none⟩ (.int .u64 s4)).setCell ⟨bz, oz + 5, none⟩ (.int .u64 s5)).setCell ⟨bz, oz, none⟩ (.int .u64 d0)).cell? ⟨bz, oz + 1, none⟩ = some (.int .u64 s1) := keep (cs1) (by omega)
  have cd2 : ((((((((w.setCell ⟨bz, oz, none⟩ (.int .u64 s0)).setCell ⟨bz, oz + 1, none⟩ (.int .u64 s1)).setCell ⟨bz, oz + 2, none⟩ (.int .u64 s2)).setCell ⟨bz, oz + 3, none⟩ (.int .u64 s3)).setCell ⟨bz, oz + 4, none⟩ (.int .u64 s4)).setCell ⟨bz, oz + 5, none⟩ (.int .u64 s5)).setCell ⟨bz, oz, none⟩ (.int .u64 d0)).setCell ⟨bz, oz + 1, none⟩ (.int .u64 d1)).cell? ⟨bz, oz + 2, none⟩ = some (.int .u64 s2) := keep (keep (cs2) (by omega)) (by omega)
  have cd3 : (((((((((w.setCell ⟨bz, oz, none⟩ (.int .u64 s0)).setCell ⟨bz, oz + 1, none⟩ (.int .u64 s1)).setCell ⟨bz, oz + 2, none⟩ (.int .u64 s2)).setCell ⟨bz, oz + 3, none⟩ (.int .u64 s3)).setCell ⟨bz, oz + 4, none⟩ (.int .u64 s4)).setCell ⟨bz, oz + 5, none⟩ (.int .u64 s5)).setCell ⟨bz, oz, none⟩ (.int .u64 d0)).setCell ⟨bz, oz + 1, none⟩ (.int .u64 d1)).setCell ⟨bz, oz + 2, none⟩ (.int .u64 d2)).cell? ⟨bz, oz + 3, none⟩ = some (.int .u64 s3) := keep (keep (keep (cs3) (by omega)) (by omega)) (by omega)
  have cd4 : ((((((((((w.setCell ⟨bz, oz, none⟩ (.int .u64 s0)).setCell ⟨bz, oz + 1, none⟩ (.int .u64 s1)).setCell ⟨bz, oz + 2, none⟩ (.int .u64 s2)).setCell ⟨bz, oz + 3, none⟩ (.int .u64 s3)).setCell ⟨bz, oz + 4, none⟩ (.int .u64 s4)).setCell ⟨bz, oz + 5, none⟩ (.int .u64 s5)).setCell ⟨bz, oz, none⟩ (.int .u64 d0)).setCell ⟨bz, oz + 1, none⟩ (.int .u64 d1)).setCell ⟨bz, oz + 2, none⟩ (.int .u64 d2)).setCell ⟨bz, oz + 3, none⟩ (.int .u64 d3)).cell? ⟨bz, oz + 4, none⟩ = some (.int .u64 s4) := keep (keep (keep (keep (cs4) (by omega)) (by omega)) (by omega)) (by omega)
  have cd5 : (((((((((((w.setCell ⟨bz, oz, none⟩ (.int .u64 s0)).setCell ⟨bz, oz + 1, none⟩ (.int .u64 s1)).setCell ⟨bz, oz + 2, none⟩ (.int .u64 s2)).setCell ⟨bz, oz + 3, none⟩ (.int .u64 s3)).setCell ⟨bz, oz + 4, none⟩ (.int .u64 s4)).setCell ⟨bz, oz + 5, none⟩ (.int .u64 s5)).setCell ⟨bz, oz, none⟩ (.int .u64 d0)).setCell ⟨bz, oz + 1, none⟩ (.int .u64 d1)).setCell ⟨bz, oz + 2, none⟩ (.int .u64 d2)).setCell ⟨bz, oz + 3, none⟩ (.int .u64 d3)).setCell ⟨bz, oz + 4, none⟩ (.int .u64 d4)).cell? ⟨bz, oz + 5, none⟩ = some (.int .u64 s5) := keep (keep (keep (keep (keep (cs5) (by omega)) (by omega)) (by omega)) (by omega)) (by omega)
  have Hcx0 := shut cx0; have Hcy0 := shut cy0; have Hcz0 := shut cz0; have Hcs0 := shut cs0; have Hcd0 := shut cd0; clear cx0 cy0 cz0 cs0 cd0
  have Hcx1 := shut cx1; have Hcy1 := shut cy1; have Hcz1 := shut cz1; have Hcs1 := shut cs1; have Hcd1 := shut cd1; clear cx1 cy1 cz1 cs1 cd1
  have Hcx2 := shut cx2; have Hcy2 := shut cy2; have Hcz2 := shut cz2; have Hcs2 := shut cs2; have Hcd2 := shut cd2; clear cx2 cy2 cz2 cs2 cd2
  have Hcx3 := shut cx3; have Hcy3 := shut cy3; have Hcz3 := shut cz3; have Hcs3 := shut cs3; have Hcd3 := shut cd3; clear cx3 cy3 cz3 cs3 cd3
  have Hcx4 := shut cx4; have Hcy4 := shut cy4; have Hcz4 := shut cz4; have Hcs4 := shut cs4; have Hcd4 := shut cd4; clear cx4 cy4 cz4 cs4 cd4
  have Hcx5 := shut cx5; have Hcy5 := shut cy5; have Hcz5 := shut cz5; have Hcs5 := shut cs5; have Hcd5 := shut cd5; clear cx5 cy5 cz5 cs5 cd5
  clear hx0 hy0 hz0 hx1 hy1 hz1 hx2 hy2 hz2 hx3 hy3 hz3 hx4 hy4 hz4 hx5 hy5 hz5
  have N1 := subs_num Ha0.out Ha1.out Ha2.out Ha3.out Ha4.out Ha5.out
  have N2 := adds_nump Hb0.out Hb1.out Hb2.out Hb3.out Hb4.out Hb5.out
  have E1 := sub_small N1 (num_pos Hgx0.out Hgx1.out Hgx2.out Hgx3.out Hgx4.out Hgx5.out) (num_pos Hgy0.out Hgy1.out Hgy2.out Hgy3.out Hgy4.out Hgy5.out) (num_pos Ha0.out.wd Ha1.out.wd Ha2.out.wd Ha3.out.wd Ha4.out.wd Ha5.out.wd) (num_top Ha0.out.wd Ha1.out.wd Ha2.out.wd Ha3.out.wd Ha4.out.wd Ha5.out.wd) Ha5.out.bt HhX.out HhY.out
  have E2 := sub_big N1 N2 (num_pos Hgx0.out Hgx1.out Hgx2.out Hgx3.out Hgx4.out Hgx5.out) (num_pos Hgy0.out Hgy1.out Hgy2.out Hgy3.out Hgy4.out Hgy5.out) (num_pos Ha0.out.wd Ha1.out.wd Ha2.out.wd Ha3.out.wd Ha4.out.wd Ha5.out.wd) (num_top Ha0.out.wd Ha1.out.wd Ha2.out.wd Ha3.out.wd Ha4.out.wd Ha5.out.wd) (num_pos Hb0.out.wd Hb1.out.wd Hb2.out.wd Hb3.out.wd Hb4.out.wd Hb5.out.wd) (num_top Hb0.out.wd Hb1.out.wd Hb2.out.wd Hb3.out.wd Hb4.out.wd Hb5.out.wd) Ha5.out.bt Hb5.out.bt HhX.out HhY.out
  have HE := shut (And.intro E1 E2); clear E1 E2 N1 N2
  by_cases hl : k5 = 0
  ·
    have HL := shut hl
    have ht : (k5 != 0) = false := by simpa using hl
    have HT := shut ht
    clear hl ht
    go_enter Try.func32, Try.ntmps32
    go_wp2_with fail
    have o0 := Hcx0.out
    have o1 := Hcy0.out
    have o2 := Hcz0.out
    have o3 := Hr0.out
    have o4 := Hfz0.out
    go_region
    clear o0 o1 o2 o3 o4
    go_wp2_with fail
    have o0 := Hcx1.out
    have o1 := Hcy1.out
    have o2 := Hcz1.out
    have o3 := Hr1.out
    have o4 := Hfz1.out
    go_region
    clear o0 o1 o2 o3 o4
    go_wp2_with fail
    have o0 := Hcx2.out
    have o1 := Hcy2.out
    have o2 := Hcz2.out
    have o3 := Hr2.out
    have o4 := Hfz2.out
    go_region
    clear o0 o1 o2 o3 o4
    go_wp2_with fail
    have o0 := Hcx3.out
    have o1 := Hcy3.out
    have o2 := Hcz3.out
    have o3 := Hr3.out
    have o4 := Hfz3.out
    go_region
    clear o0 o1 o2 o3 o4
    go_wp2_with fail
    have o0 := Hcx4.out
    have o1 := Hcy4.out
    have o2 := Hcz4.out
    have o3 := Hr4.out
    have o4 := Hfz4.out
    go_region
    clear o0 o1 o2 o3 o4
    go_wp2_with fail
    have o0 := Hcx5.out
    have o1 := Hcy5.out
    have o2 := Hcz5.out
    have o3 := Hr5.out
    have o4 := Hfz5.out
    go_region
    clear o0 o1 o2 o3 o4
    have ht := HT.out
    go_wp2_with fail
    clear ht
    go_ret
    exact ⟨rfl, s0, s1, s2, s3, s4, s5, ⟨Ha0.out.wd, Ha1.out.wd, Ha2.out.wd, Ha3.out.wd, Ha4.out.wd, Ha5.out.wd⟩, HE.out.1 HL.out, 6, by with_reducible exact drewn_6 _⟩
  ·
    have HL := shut hl
    have ht : (k5 != 0) = true := by simpa using hl
    have HT := shut ht
    clear hl ht
    go_enter Try.func32, Try.ntmps32
    go_wp2_with fail
    have o0 := Hcx0.out
    have o1 := Hcy0.out
    have o2 := Hcz0.out
    have o3 := Hr0.out
    have o4 := Hfz0.out
    go_region
    clear o0 o1 o2 o3 o4
    go_wp2_with fail
    have o0 := Hcx1.out
    have o1 := Hcy1.out
    have o2 := Hcz1.out
    have o3 := Hr1.out
    have o4 := Hfz1.out
    go_region
    clear o0 o1 o2 o3 o4
    go_wp2_with fail
    have o0 := Hcx2.out
    have o1 := Hcy2.out
    have o2 := Hcz2.out
    have o3 := Hr2.out
    have o4 := Hfz2.out
    go_region
    clear o0 o1 o2 o3 o4
    go_wp2_with fail
    have o0 := Hcx3.out
    have o1 := Hcy3.out
    have o2 := Hcz3.out
    have o3 := Hr3.out
    have o4 := Hfz3.out
    go_region
    clear o0 o1 o2 o3 o4
    go_wp2_with fail
    have o0 := Hcx4.out
    have o1 := Hcy4.out
    have o2 := Hcz4.out
    have o3 := Hr4.out
    have o4 := Hfz4.out
    go_region
    clear o0 o1 o2 o3 o4
    go_wp2_with fail
    have o0 := Hcx5.out
    have o1 := Hcy5.out
    have o2 := Hcz5.out
    have o3 := Hr5.out
    have o4 := Hfz5.out
    go_region
    clear o0 o1 o2 o3 o4
    have ht := HT.out
    go_wp2_with fail
    clear ht
    have o0 := Hcs0.out
    have o1 := Ht0.out
    have o2 := Hfz0.out
    go_region
    clear o0 o1 o2
    go_wp2_with fail
    have o0 := Hcd1.out
    have o1 := Ht1.out
    have o2 := Hfz1.out
    go_region
    clear o0 o1 o2
    go_wp2_with fail
    have o0 := Hcd2.out
    have o1 := Ht2.out
    have o2 := Hfz2.out
    go_region
    clear o0 o1 o2
    go_wp2_with fail
    have o0 := Hcd3.out
    have o1 := Ht3.out
    have o2 := Hfz3.out
    go_region
    clear o0 o1 o2
    go_wp2_with fail
    have o0 := Hcd4.out
    have o1 := Ht4.out
    have o2 := Hfz4.out
    go_region
    clear o0 o1 o2
    go_wp2_with fail
    have o0 := Hcd5.out
    have o1 := Ht5.out
    have o2 := Hfz5.out
    go_region
    clear o0 o1 o2
    go_wp2_with fail
    go_ret
    refine ⟨rfl, d0, d1, d2, d3, d4, d5, ⟨Hb0.out.wd, Hb1.out.wd, Hb2.out.wd, Hb3.out.wd, Hb4.out.wd, Hb5.out.wd⟩, HE.out.2 HL.out, 12, ?_⟩
    rw [set_again]; with_reducible exact drewn_12 _

theorem esub (bz oz bx ox b_y o_y X Y R : Nat) (z0 z1 z2 z3 z4 z5 : Int) (w : World) (hR : R = subm X Y) (hzx : bz ≠ bx ∨ oz = ox ∨ oz + 6 ≤ ox ∨ ox + 6 ≤ oz) (hzy : bz ≠ b_y ∨ oz = o_y ∨ oz + 6 ≤ o_y ∨ o_y + 6 ≤ oz) (hX : X < 4002409555221667393417789825735904156556882819939007885332058136124031650490837864442687629129015664037894272559787) (hY : Y < 4002409555221667393417789825735904156556882819939007885332058136124031650490837864442687629129015664037894272559787)
    (hx0 : w.cell? ⟨bx, ox, none⟩ = some (.int .u64 (wd X 0 : Nat))) (hx1 : w.cell? ⟨bx, ox + 1, none⟩ = some (.int .u64 (wd X 1 : Nat))) (hx2 : w.cell? ⟨bx, ox + 2, none⟩ = some (.int .u64 (wd X 2 : Nat))) (hx3 : w.cell? ⟨bx, ox + 3, none⟩ = some (.int .u64 (wd X 3 : Nat))) (hx4 : w.cell? ⟨bx, ox + 4, none⟩ = some (.int .u64 (wd X 4 : Nat))) (hx5 : w.cell? ⟨bx, ox + 5, none⟩ = some (.int .u64 (wd X 5 : Nat)))
    (hy0 : w.cell? ⟨b_y, o_y, none⟩ = some (.int .u64 (wd Y 0 : Nat))) (hy1 : w.cell? ⟨b_y, o_y + 1, none⟩ = some (.int .u64 (wd Y 1 : Nat))) (hy2 : w.cell? ⟨b_y, o_y + 2, none⟩ = some (.int .u64 (wd Y 2 : Nat))) (hy3 : w.cell? ⟨b_y, o_y + 3, none⟩ = some (.int .u64 (wd Y 3 : Nat))) (hy4 : w.cell? ⟨b_y, o_y + 4, none⟩ = some (.int .u64 (wd Y 4 : Nat))) (hy5 : w.cell? ⟨b_y, o_y + 5, none⟩ = some (.int .u64 (wd Y 5 : Nat)))
    (hz0 : w.cell? ⟨bz, oz, none⟩ = some (.int .u64 z0)) (hz1 : w.cell? ⟨bz, oz + 1, none⟩ = some (.int .u64 z1)) (hz2 : w.cell? ⟨bz, oz + 2, none⟩ = some (.int .u64 z2)) (hz3 : w.cell? ⟨bz, oz + 3, none⟩ = some (.int .u64 z3)) (hz4 : w.cell? ⟨bz, oz + 4, none⟩ = some (.int .u64 z4)) (hz5 : w.cell? ⟨bz, oz + 5, none⟩ = some (.int .u64 z5))
    (fz0 : w.frozen? ⟨bz, oz, none⟩ = false) (fz1 : w.frozen? ⟨bz, oz + 1, none⟩ = false) (fz2 : w.frozen? ⟨bz, oz + 2, none⟩ = false) (fz3 : w.frozen? ⟨bz, oz + 3, none⟩ = false) (fz4 : w.frozen? ⟨bz, oz + 4, none⟩ = false) (fz5 : w.frozen? ⟨bz, oz + 5, none⟩ = false) :
    Calls Try.prog 32 #[.pointer (some ⟨bz, oz, none⟩), .pointer (some ⟨bx, ox, none⟩), .pointer (some ⟨b_y, o_y, none⟩)] w fun e w' => e = .returned (.pointer (some ⟨bz, oz, none⟩)) ∧
      ∃ m, w' = ((((((w.setCell ⟨bz, oz, none⟩ (.int .u64 (wd R 0 : Nat))).setCell ⟨bz, oz + 1, none⟩ (.int .u64 (wd R 1 : Nat))).setCell ⟨bz, oz + 2, none⟩ (.int .u64 (wd R 2 : Nat))).setCell ⟨bz, oz + 3, none⟩ (.int .u64 (wd R 3 : Nat))).setCell ⟨bz, oz + 4, none⟩ (.int .u64 (wd R 4 : Nat))).setCell ⟨bz, oz + 5, none⟩ (.int .u64 (wd R 5 : Nat))).drewN m := by
  have nX : num (wd X 0 : Nat) (wd X 1 : Nat) (wd X 2 : Nat) (wd X 3 : Nat) (wd X 4 : Nat) (wd X 5 : Nat) = (X : Int) := num_wd (by omega)
  have nY : num (wd Y 0 : Nat) (wd Y 1 : Nat) (wd Y 2 : Nat) (wd Y 3 : Nat) (wd Y 4 : Nat) (wd Y 5 : Nat) = (Y : Int) := num_wd (by omega)
  refine (esub_t bz oz bx ox b_y o_y z0 z1 z2 z3 z4 z5 _ _ _ _ _ _ _ _ _ _ _ _ w hzx hzy (by rw [nX]; omega) (by rw [nY]; omega) (wd_nat _ _) (wd_nat _ _) (wd_nat _ _) (wd_nat _ _) (wd_nat _ _) (wd_nat _ _) (wd_nat _ _) (wd_nat _ _) (wd_nat _ _) (wd_nat _ _) (wd_nat _ _) (wd_nat _ _) hx0 hx1 hx2 hx3 hx4 hx5 hy0 hy1 hy2 hy3 hy4 hy5 hz0 hz1 hz2 hz3 hz4 hz5 fz0 fz1 fz2 fz3 fz4 fz5).mono ?_
  rintro e w' ⟨he, d0, d1, d2, d3, d4, d5, ⟨g0, g1, g2, g3, g4, g5⟩, hn, m, hw⟩
  obtain ⟨r0, r1, r2, r3, r4, r5⟩ := wd_num (A := R) g0 g1 g2 g3 g4 g5 (by rw [hn, nX, nY, hR]; unfold subm; omega)
  subst d0 d1 d2 d3 d4 d5
  exact ⟨he, m, hw⟩


end Go.Proofs.Ytmkmakeoidmdhaa
