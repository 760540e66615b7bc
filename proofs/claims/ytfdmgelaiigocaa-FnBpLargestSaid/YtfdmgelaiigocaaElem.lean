/- Contracts of the field's functions on words: the test against the prime; sum, difference, double, each modulo the prime. -/
import Derived.Test.YtfdmgelaiigocaaBits
import Derived.WalkKit
import Derived.WalkSpells
import Derived.WalkLawsBesides
import Derived.Deep.QuietTactic
import Derived.BigQuiet
import Derived.BigRegion
namespace Go.Proofs.Ytfdmgelaiigocaa
open Go.RowKit Num

/-- A number of its words. -/
def num (z0 z1 z2 z3 z4 z5 : Int) : Int := z0 + 18446744073709551616 * z1 + 340282366920938463463374607431768211456 * z2 + 6277101735386680763835789423207666416102355444464034512896 * z3 + 115792089237316195423570985008687907853269984665640564039457584007913129639936 * z4 + 2135987035920910082395021706169552114602704522356652769947041607822219725780640550022962086936576 * z5
theorem num_pos {x0 x1 x2 x3 x4 x5 : Int} (g0 : Wd x0) (g1 : Wd x1) (g2 : Wd x2) (g3 : Wd x3) (g4 : Wd x4) (g5 : Wd x5) : 0 ≤ num x0 x1 x2 x3 x4 x5 := by
  unfold Wd at *; unfold num; omega
theorem num_top {x0 x1 x2 x3 x4 x5 : Int} (g0 : Wd x0) (g1 : Wd x1) (g2 : Wd x2) (g3 : Wd x3) (g4 : Wd x4) (g5 : Wd x5) : num x0 x1 x2 x3 x4 x5 < 39402006196394479212279040100143613805079739270465446667948293404245721771497210611414266254884915640806627990306816 := by
  unfold Wd at *; unfold num; omega
theorem adds_num {x0 x1 x2 x3 x4 x5 y0 y1 y2 y3 y4 y5 s0 s1 s2 s3 s4 s5 k0 k1 k2 k3 k4 k5 : Int} (a0 : Adds x0 y0 0 s0 k0) (a1 : Adds x1 y1 k0 s1 k1) (a2 : Adds x2 y2 k1 s2 k2) (a3 : Adds x3 y3 k2 s3 k3) (a4 : Adds x4 y4 k3 s4 k4) (a5 : Adds x5 y5 k4 s5 k5) : num x0 x1 x2 x3 x4 x5 + num y0 y1 y2 y3 y4 y5 = num s0 s1 s2 s3 s4 s5 + 39402006196394479212279040100143613805079739270465446667948293404245721771497210611414266254884915640806627990306816 * k5 := by
  unfold Adds at *; unfold num; omega
theorem adds_nump {s0 s1 s2 s3 s4 s5 d0 d1 d2 d3 d4 d5 e0 e1 e2 e3 e4 e5 : Int} (b0 : Adds s0 13402431016077863595 0 d0 e0) (b1 : Adds s1 2210141511517208575 e0 d1 e1) (b2 : Adds s2 7435674573564081700 e1 d2 e2) (b3 : Adds s3 7239337960414712511 e2 d3 e3) (b4 : Adds s4 5412103778470702295 e3 d4 e4) (b5 : Adds s5 1873798617647539866 e4 d5 e5) : num s0 s1 s2 s3 s4 s5 + 4002409555221667393417789825735904156556882819939007885332058136124031650490837864442687629129015664037894272559787 = num d0 d1 d2 d3 d4 d5 + 39402006196394479212279040100143613805079739270465446667948293404245721771497210611414266254884915640806627990306816 * e5 := by
  unfold Adds at *; unfold num; omega
theorem subs_num {x0 x1 x2 x3 x4 x5 y0 y1 y2 y3 y4 y5 s0 s1 s2 s3 s4 s5 k0 k1 k2 k3 k4 k5 : Int} (a0 : Subs x0 y0 0 s0 k0) (a1 : Subs x1 y1 k0 s1 k1) (a2 : Subs x2 y2 k1 s2 k2) (a3 : Subs x3 y3 k2 s3 k3) (a4 : Subs x4 y4 k3 s4 k4) (a5 : Subs x5 y5 k4 s5 k5) : num x0 x1 x2 x3 x4 x5 - num y0 y1 y2 y3 y4 y5 = num s0 s1 s2 s3 s4 s5 - 39402006196394479212279040100143613805079739270465446667948293404245721771497210611414266254884915640806627990306816 * k5 := by
  unfold Subs at *; unfold num; omega
theorem subs_nump {s0 s1 s2 s3 s4 s5 d0 d1 d2 d3 d4 d5 e0 e1 e2 e3 e4 e5 : Int} (b0 : Subs s0 13402431016077863595 0 d0 e0) (b1 : Subs s1 2210141511517208575 e0 d1 e1) (b2 : Subs s2 7435674573564081700 e1 d2 e2) (b3 : Subs s3 7239337960414712511 e2 d3 e3) (b4 : Subs s4 5412103778470702295 e3 d4 e4) (b5 : Subs s5 1873798617647539866 e4 d5 e5) : num s0 s1 s2 s3 s4 s5 - 4002409555221667393417789825735904156556882819939007885332058136124031650490837864442687629129015664037894272559787 = num d0 d1 d2 d3 d4 d5 - 39402006196394479212279040100143613805079739270465446667948293404245721771497210611414266254884915640806627990306816 * e5 := by
  unfold Subs at *; unfold num; omega
theorem add_small {X Y S k : Int} (h : X + Y = S + 39402006196394479212279040100143613805079739270465446667948293404245721771497210611414266254884915640806627990306816 * k) (x0 : 0 ≤ X) (y0 : 0 ≤ Y) (_s0 : 0 ≤ S) (_s1 : S < 39402006196394479212279040100143613805079739270465446667948293404245721771497210611414266254884915640806627990306816) (hk : Bt k) (hx : X < 4002409555221667393417789825735904156556882819939007885332058136124031650490837864442687629129015664037894272559787) (hy : Y < 4002409555221667393417789825735904156556882819939007885332058136124031650490837864442687629129015664037894272559787) (hl : S < 4002409555221667393417789825735904156556882819939007885332058136124031650490837864442687629129015664037894272559787) : S = (X + Y) % 4002409555221667393417789825735904156556882819939007885332058136124031650490837864442687629129015664037894272559787 := by
  obtain ⟨h0, h1⟩ := hk
  have : k = 0 := by omega
  subst this
  rw [h, Int.emod_eq_of_lt (by omega) (by omega)]; omega
theorem add_big {X Y S D k e : Int} (h : X + Y = S + 39402006196394479212279040100143613805079739270465446667948293404245721771497210611414266254884915640806627990306816 * k) (h' : S - 4002409555221667393417789825735904156556882819939007885332058136124031650490837864442687629129015664037894272559787 = D - 39402006196394479212279040100143613805079739270465446667948293404245721771497210611414266254884915640806627990306816 * e) (x0 : 0 ≤ X) (y0 : 0 ≤ Y) (_s0 : 0 ≤ S) (_s1 : S < 39402006196394479212279040100143613805079739270465446667948293404245721771497210611414266254884915640806627990306816) (d0 : 0 ≤ D) (d1 : D < 39402006196394479212279040100143613805079739270465446667948293404245721771497210611414266254884915640806627990306816) (hk : Bt k) (he : Bt e) (hx : X < 4002409555221667393417789825735904156556882819939007885332058136124031650490837864442687629129015664037894272559787) (hy : Y < 4002409555221667393417789825735904156556882819939007885332058136124031650490837864442687629129015664037894272559787) (hl : ¬ S < 4002409555221667393417789825735904156556882819939007885332058136124031650490837864442687629129015664037894272559787) : D = (X + Y) % 4002409555221667393417789825735904156556882819939007885332058136124031650490837864442687629129015664037894272559787 := by
  obtain ⟨h0, h1⟩ := hk
  obtain ⟨g0, g1⟩ := he
  have : k = 0 := by omega
  have : e = 0 := by omega
  subst k e
  have : (X + Y) % 4002409555221667393417789825735904156556882819939007885332058136124031650490837864442687629129015664037894272559787 = D := by rw [show X + Y = D + 4002409555221667393417789825735904156556882819939007885332058136124031650490837864442687629129015664037894272559787 from by omega, Int.add_emod_right, Int.emod_eq_of_lt (by omega) (by omega)]
  omega
theorem sub_small {X Y S k : Int} (h : X - Y = S - 39402006196394479212279040100143613805079739270465446667948293404245721771497210611414266254884915640806627990306816 * k) (_x0 : 0 ≤ X) (y0 : 0 ≤ Y) (_s0 : 0 ≤ S) (_s1 : S < 39402006196394479212279040100143613805079739270465446667948293404245721771497210611414266254884915640806627990306816) (_hk : Bt k) (hx : X < 4002409555221667393417789825735904156556882819939007885332058136124031650490837864442687629129015664037894272559787) (_hy : Y < 4002409555221667393417789825735904156556882819939007885332058136124031650490837864442687629129015664037894272559787) (hl : k = 0) : S = (X + 4002409555221667393417789825735904156556882819939007885332058136124031650490837864442687629129015664037894272559787 - Y) % 4002409555221667393417789825735904156556882819939007885332058136124031650490837864442687629129015664037894272559787 := by
  subst hl
  have : (X + 4002409555221667393417789825735904156556882819939007885332058136124031650490837864442687629129015664037894272559787 - Y) % 4002409555221667393417789825735904156556882819939007885332058136124031650490837864442687629129015664037894272559787 = S := by rw [show X + 4002409555221667393417789825735904156556882819939007885332058136124031650490837864442687629129015664037894272559787 - Y = S + 4002409555221667393417789825735904156556882819939007885332058136124031650490837864442687629129015664037894272559787 from by omega, Int.add_emod_right, Int.emod_eq_of_lt (by omega) (by omega)]
  omega
theorem sub_big {X Y S D k e : Int} (h : X - Y = S - 39402006196394479212279040100143613805079739270465446667948293404245721771497210611414266254884915640806627990306816 * k) (h' : S + 4002409555221667393417789825735904156556882819939007885332058136124031650490837864442687629129015664037894272559787 = D + 39402006196394479212279040100143613805079739270465446667948293404245721771497210611414266254884915640806627990306816 * e) (x0 : 0 ≤ X) (y0 : 0 ≤ Y) (_s0 : 0 ≤ S) (_s1 : S < 39402006196394479212279040100143613805079739270465446667948293404245721771497210611414266254884915640806627990306816) (d0 : 0 ≤ D) (d1 : D < 39402006196394479212279040100143613805079739270465446667948293404245721771497210611414266254884915640806627990306816) (hk : Bt k) (he : Bt e) (_hx : X < 4002409555221667393417789825735904156556882819939007885332058136124031650490837864442687629129015664037894272559787) (hy : Y < 4002409555221667393417789825735904156556882819939007885332058136124031650490837864442687629129015664037894272559787) (hl : ¬ k = 0) : D = (X + 4002409555221667393417789825735904156556882819939007885332058136124031650490837864442687629129015664037894272559787 - Y) % 4002409555221667393417789825735904156556882819939007885332058136124031650490837864442687629129015664037894272559787 := by
  obtain ⟨h0, h1⟩ := hk
  obtain ⟨g0, g1⟩ := he
  have : k = 1 := by omega
  have : e = 1 := by omega
  subst k e
  rw [show X + 4002409555221667393417789825735904156556882819939007885332058136124031650490837864442687629129015664037894272559787 - Y = D from by omega, Int.emod_eq_of_lt (by omega) (by omega)]
theorem num_wd {A : Nat} (h : A < 39402006196394479212279040100143613805079739270465446667948293404245721771497210611414266254884915640806627990306816) : num (wd A 0 : Nat) (wd A 1 : Nat) (wd A 2 : Nat) (wd A 3 : Nat) (wd A 4 : Nat) (wd A 5 : Nat) = (A : Int) := by
  unfold num wd; omega
theorem wd_num {x0 x1 x2 x3 x4 x5 : Int} {A : Nat} (g0 : Wd x0) (g1 : Wd x1) (g2 : Wd x2) (g3 : Wd x3) (g4 : Wd x4) (g5 : Wd x5) (h : num x0 x1 x2 x3 x4 x5 = (A : Int)) : x0 = (wd A 0 : Nat) ∧ x1 = (wd A 1 : Nat) ∧ x2 = (wd A 2 : Nat) ∧ x3 = (wd A 3 : Nat) ∧ x4 = (wd A 4 : Nat) ∧ x5 = (wd A 5 : Nat) := by
  unfold Wd at *; unfold num at h; unfold wd; omega
set_option maxRecDepth 100000 in
set_option maxHeartbeats 1600000 in
theorem small_any (b o : Nat) (z0 z1 z2 z3 z4 z5 : Int) (w : World) (g0 : Wd z0) (g1 : Wd z1) (g2 : Wd z2) (g3 : Wd z3) (g4 : Wd z4) (g5 : Wd z5) (h0 : w.cell? ⟨b, o, none⟩ = some (.int .u64 z0)) (h1 : w.cell? ⟨b, o + 1, none⟩ = some (.int .u64 z1)) (h2 : w.cell? ⟨b, o + 2, none⟩ = some (.int .u64 z2)) (h3 : w.cell? ⟨b, o + 3, none⟩ = some (.int .u64 z3)) (h4 : w.cell? ⟨b, o + 4, none⟩ = some (.int .u64 z4)) (h5 : w.cell? ⟨b, o + 5, none⟩ = some (.int .u64 z5)) :
    Calls Try.prog 39 #[.pointer (some ⟨b, o, none⟩)] w fun e w' => e = .returned (.bool (decide (num z0 z1 z2 z3 z4 z5 < 4002409555221667393417789825735904156556882819939007885332058136124031650490837864442687629129015664037894272559787))) ∧ w = w' := by
  obtain ⟨l0, u0⟩ := g0
  obtain ⟨l1, u1⟩ := g1
  obtain ⟨l2, u2⟩ := g2
  obtain ⟨l3, u3⟩ := g3
  obtain ⟨l4, u4⟩ := g4
  obtain ⟨l5, u5⟩ := g5
  by_cases a5 : z5 < 1873798617647539866
  · have t5 : decide (z5 < 1873798617647539866) = true := by simpa using a5
    have e : decide (num z0 z1 z2 z3 z4 z5 < 4002409555221667393417789825735904156556882819939007885332058136124031650490837864442687629129015664037894272559787) = true := decide_eq_true (by unfold num; omega)
    have E := shut e; clear e
    clear l0 u0 l1 u1 l2 u2 l3 u3 l4 u4 l5 u5
    go_enter Try.func39, Try.ntmps39
    dsimp only [List.append]
    go_wp2_with fail
    go_ret
    exact ⟨by rw [E.out]; rfl, rfl⟩
  have t5 : decide (z5 < 1873798617647539866) = false := by simpa using a5
  by_cases c5 : z5 = 1873798617647539866
  · have v5 : (z5 == 1873798617647539866) = true := by simpa using c5
    by_cases a4 : z4 < 5412103778470702295
    · have t4 : decide (z4 < 5412103778470702295) = true := by simpa using a4
      have e : decide (num z0 z1 z2 z3 z4 z5 < 4002409555221667393417789825735904156556882819939007885332058136124031650490837864442687629129015664037894272559787) = true := decide_eq_true (by unfold num; omega)
      have E := shut e; clear e
      clear l0 u0 l1 u1 l2 u2 l3 u3 l4 u4 l5 u5 c5
      go_enter Try.func39, Try.ntmps39
      dsimp only [List.append]
      go_wp2_with fail
      go_ret
      exact ⟨by rw [E.out]; rfl, rfl⟩
    have t4 : decide (z4 < 5412103778470702295) = false := by simpa using a4
    by_cases c4 : z4 = 5412103778470702295
    · have v4 : (z4 == 5412103778470702295) = true := by simpa using c4
      by_cases a3 : z3 < 7239337960414712511
      · have t3 : decide (z3 < 7239337960414712511) = true := by simpa using a3
        have e : decide (num z0 z1 z2 z3 z4 z5 < 4002409555221667393417789825735904156556882819939007885332058136124031650490837864442687629129015664037894272559787) = true := decide_eq_true (by unfold num; omega)
        have E := shut e; clear e
        clear l0 u0 l1 u1 l2 u2 l3 u3 l4 u4 l5 u5 c4 c5
        go_enter Try.func39, Try.ntmps39
        dsimp only [List.append]
        go_wp2_with fail
        go_ret
        exact ⟨by rw [E.out]; rfl, rfl⟩
      have t3 : decide (z3 < 7239337960414712511) = false := by simpa using a3
      by_cases c3 : z3 = 7239337960414712511
      · have v3 : (z3 == 7239337960414712511) = true := by simpa using c3
        by_cases a2 : z2 < 7435674573564081700
        · have t2 : decide (z2 < 7435674573564081700) = true := by simpa using a2
          have e : decide (num z0 z1 z2 z3 z4 z5 < 4002409555221667393417789825735904156556882819939007885332058136124031650490837864442687629129015664037894272559787) = true := decide_eq_true (by unfold num; omega)
          have E := shut e; clear e
          clear l0 u0 l1 u1 l2 u2 l3 u3 l4 u4 l5 u5 c3 c4 c5
          go_enter Try.func39, Try.ntmps39
          dsimp only [List.append]
          go_wp2_with fail
          go_ret
          exact ⟨by rw [E.out]; rfl, rfl⟩
        have t2 : decide (z2 < 7435674573564081700) = false := by simpa using a2
        by_cases c2 : z2 = 7435674573564081700
        · have v2 : (z2 == 7435674573564081700) = true := by simpa using c2
          by_cases a1 : z1 < 2210141511517208575
          · have t1 : decide (z1 < 2210141511517208575) = true := by simpa using a1
            have e : decide (num z0 z1 z2 z3 z4 z5 < 4002409555221667393417789825735904156556882819939007885332058136124031650490837864442687629129015664037894272559787) = true := decide_eq_true (by unfold num; omega)
            have E := shut e; clear e
            clear l0 u0 l1 u1 l2 u2 l3 u3 l4 u4 l5 u5 c2 c3 c4 c5
            go_enter Try.func39, Try.ntmps39
            dsimp only [List.append]
            go_wp2_with fail
            go_ret
            exact ⟨by rw [E.out]; rfl, rfl⟩
          have t1 : decide (z1 < 2210141511517208575) = false := by simpa using a1
          by_cases c1 : z1 = 2210141511517208575
          · have v1 : (z1 == 2210141511517208575) = true := by simpa using c1
            by_cases a0 : z0 < 13402431016077863595
            · have t0 : decide (z0 < 13402431016077863595) = true := by simpa using a0
              have e : decide (num z0 z1 z2 z3 z4 z5 < 4002409555221667393417789825735904156556882819939007885332058136124031650490837864442687629129015664037894272559787) = true := decide_eq_true (by unfold num; omega)
              have E := shut e; clear e
              clear l0 u0 l1 u1 l2 u2 l3 u3 l4 u4 l5 u5 c1 c2 c3 c4 c5
              go_enter Try.func39, Try.ntmps39
              dsimp only [List.append]
              go_wp2_with fail
              go_ret
              exact ⟨by rw [E.out]; rfl, rfl⟩
            have t0 : decide (z0 < 13402431016077863595) = false := by simpa using a0
            have e : decide (num z0 z1 z2 z3 z4 z5 < 4002409555221667393417789825735904156556882819939007885332058136124031650490837864442687629129015664037894272559787) = false := decide_eq_false (by unfold num; omega)
            have E := shut e; clear e
            clear l0 u0 l1 u1 l2 u2 l3 u3 l4 u4 l5 u5 c1 c2 c3 c4 c5
            go_enter Try.func39, Try.ntmps39
            dsimp only [List.append]
            go_wp2_with fail
            go_ret
            exact ⟨by rw [E.out]; rfl, rfl⟩
          · have v1 : (z1 == 2210141511517208575) = false := by simpa using c1
            have e : decide (num z0 z1 z2 z3 z4 z5 < 4002409555221667393417789825735904156556882819939007885332058136124031650490837864442687629129015664037894272559787) = false := decide_eq_false (by unfold num; omega)
            have E := shut e; clear e
            clear l0 u0 l1 u1 l2 u2 l3 u3 l4 u4 l5 u5 c1 c2 c3 c4 c5
            go_enter Try.func39, Try.ntmps39
            dsimp only [List.append]
            go_wp2_with fail
            go_ret
            exact ⟨by rw [E.out]; rfl, rfl⟩
        · have v2 : (z2 == 7435674573564081700) = false := by simpa using c2
          have e : decide (num z0 z1 z2 z3 z4 z5 < 4002409555221667393417789825735904156556882819939007885332058136124031650490837864442687629129015664037894272559787) = false := decide_eq_false (by unfold num; omega)
          have E := shut e; clear e
          clear l0 u0 l1 u1 l2 u2 l3 u3 l4 u4 l5 u5 c2 c3 c4 c5
          go_enter Try.func39, Try.ntmps39
          dsimp only [List.append]
          go_wp2_with fail
          go_ret
          exact ⟨by rw [E.out]; rfl, rfl⟩
      · have v3 : (z3 == 7239337960414712511) = false := by simpa using c3
        have e : decide (num z0 z1 z2 z3 z4 z5 < 4002409555221667393417789825735904156556882819939007885332058136124031650490837864442687629129015664037894272559787) = false := decide_eq_false (by unfold num; omega)
        have E := shut e; clear e
        clear l0 u0 l1 u1 l2 u2 l3 u3 l4 u4 l5 u5 c3 c4 c5
        go_enter Try.func39, Try.ntmps39
        dsimp only [List.append]
        go_wp2_with fail
        go_ret
        exact ⟨by rw [E.out]; rfl, rfl⟩
    · have v4 : (z4 == 5412103778470702295) = false := by simpa using c4
      have e : decide (num z0 z1 z2 z3 z4 z5 < 4002409555221667393417789825735904156556882819939007885332058136124031650490837864442687629129015664037894272559787) = false := decide_eq_false (by unfold num; omega)
      have E := shut e; clear e
      clear l0 u0 l1 u1 l2 u2 l3 u3 l4 u4 l5 u5 c4 c5
      go_enter Try.func39, Try.ntmps39
      dsimp only [List.append]
      go_wp2_with fail
      go_ret
      exact ⟨by rw [E.out]; rfl, rfl⟩
  · have v5 : (z5 == 1873798617647539866) = false := by simpa using c5
    have e : decide (num z0 z1 z2 z3 z4 z5 < 4002409555221667393417789825735904156556882819939007885332058136124031650490837864442687629129015664037894272559787) = false := decide_eq_false (by unfold num; omega)
    have E := shut e; clear e
    clear l0 u0 l1 u1 l2 u2 l3 u3 l4 u4 l5 u5 c5
    go_enter Try.func39, Try.ntmps39
    dsimp only [List.append]
    go_wp2_with fail
    go_ret
    exact ⟨by rw [E.out]; rfl, rfl⟩
/-- Words that are stored anew. -/
theorem set_again (w : World) (b o : Nat) (u0 u1 u2 u3 u4 u5 v0 v1 v2 v3 v4 v5 : Value) :
    ((((((((((((w.setCell ⟨b, o, none⟩ u0).setCell ⟨b, o + 1, none⟩ u1).setCell ⟨b, o + 2, none⟩ u2).setCell ⟨b, o + 3, none⟩ u3).setCell ⟨b, o + 4, none⟩ u4).setCell ⟨b, o + 5, none⟩ u5).setCell ⟨b, o, none⟩ v0).setCell ⟨b, o + 1, none⟩ v1).setCell ⟨b, o + 2, none⟩ v2).setCell ⟨b, o + 3, none⟩ v3).setCell ⟨b, o + 4, none⟩ v4).setCell ⟨b, o + 5, none⟩ v5) = ((((((w.setCell ⟨b, o, none⟩ v0).setCell ⟨b, o + 1, none⟩ v1).setCell ⟨b, o + 2, none⟩ v2).setCell ⟨b, o + 3, none⟩ v3).setCell ⟨b, o + 4, none⟩ v4).setCell ⟨b, o + 5, none⟩ v5) := by
  have s10 : ∀ (w : World) (v v' : Value), (w.setCell ⟨b, o + 1, none⟩ v).setCell ⟨b, o, none⟩ v' = (w.setCell ⟨b, o, none⟩ v').setCell ⟨b, o + 1, none⟩ v := fun w v v' => set_swap w b v v' (by omega)
  have s20 : ∀ (w : World) (v v' : Value), (w.setCell ⟨b, o + 2, none⟩ v).setCell ⟨b, o, none⟩ v' = (w.setCell ⟨b, o, none⟩ v').setCell ⟨b, o + 2, none⟩ v := fun w v v' => set_swap w b v v' (by omega)
  have s21 : ∀ (w : World) (v v' : Value), (w.setCell ⟨b, o + 2, none⟩ v).setCell ⟨b, o + 1, none⟩ v' = (w.setCell ⟨b, o + 1, none⟩ v').setCell ⟨b, o + 2, none⟩ v := fun w v v' => set_swap w b v v' (by omega)
  have s30 : ∀ (w : World) (v v' : Value), (w.setCell ⟨b, o + 3, none⟩ v).setCell ⟨b, o, none⟩ v' = (w.setCell ⟨b, o, none⟩ v').setCell ⟨b, o + 3, none⟩ v := fun w v v' => set_swap w b v v' (by omega)
  have s31 : ∀ (w : World) (v v' : Value), (w.setCell ⟨b, o + 3, none⟩ v).setCell ⟨b, o + 1, none⟩ v' = (w.setCell ⟨b, o + 1, none⟩ v').setCell ⟨b, o + 3, none⟩ v := fun w v v' => set_swap w b v v' (by omega)
  have s32 : ∀ (w : World) (v v' : Value), (w.setCell ⟨b, o + 3, none⟩ v).setCell ⟨b, o + 2, none⟩ v' = (w.setCell ⟨b, o + 2, none⟩ v').setCell ⟨b, o + 3, none⟩ v := fun w v v' => set_swap w b v v' (by omega)
  have s40 : ∀ (w : World) (v v' : Value), (w.setCell ⟨b, o + 4, none⟩ v).setCell ⟨b, o, none⟩ v' = (w.setCell ⟨b, o, none⟩ v').setCell ⟨b, o + 4, none⟩ v := fun w v v' => set_swap w b v v' (by omega)
  have s41 : ∀ (w : World) (v v' : Value), (w.setCell ⟨b, o + 4, none⟩ v).setCell ⟨b, o + 1, none⟩ v' = (w.setCell ⟨b, o + 1, none⟩ v').setCell ⟨b, o + 4, none⟩ v := fun w v v' => set_swap w b v v' (by omega)
  have s42 : ∀ (w : World) (v v' : Value), (w.setCell ⟨b, o + 4, none⟩ v).setCell ⟨b, o + 2, none⟩ v' = (w.setCell ⟨b, o + 2, none⟩ v').setCell ⟨b, o + 4, none⟩ v := fun w v v' => set_swap w b v v' (by omega)
  have s43 : ∀ (w : World) (v v' : Value), (w.setCell ⟨b, o + 4, none⟩ v).setCell ⟨b, o + 3, none⟩ v' = (w.setCell ⟨b, o + 3, none⟩ v').setCell ⟨b, o + 4, none⟩ v := fun w v v' => set_swap w b v v' (by omega)
  have s50 : ∀ (w : World) (v v' : Value), (w.setCell ⟨b, o + 5, none⟩ v).setCell ⟨b, o, none⟩ v' = (w.setCell ⟨b, o, none⟩ v').setCell ⟨b, o + 5, none⟩ v := fun w v v' => set_swap w b v v' (by omega)
  have s51 : ∀ (w : World) (v v' : Value), (w.setCell ⟨b, o + 5, none⟩ v).setCell ⟨b, o + 1, none⟩ v' = (w.setCell ⟨b, o + 1, none⟩ v').setCell ⟨b, o + 5, none⟩ v := fun w v v' => set_swap w b v v' (by omega)
  have s52 : ∀ (w : World) (v v' : Value), (w.setCell ⟨b, o + 5, none⟩ v).setCell ⟨b, o + 2, none⟩ v' = (w.setCell ⟨b, o + 2, none⟩ v').setCell ⟨b, o + 5, none⟩ v := fun w v v' => set_swap w b v v' (by omega)
  have s53 : ∀ (w : World) (v v' : Value), (w.setCell ⟨b, o + 5, none⟩ v).setCell ⟨b, o + 3, none⟩ v' = (w.setCell ⟨b, o + 3, none⟩ v').setCell ⟨b, o + 5, none⟩ v := fun w v v' => set_swap w b v v' (by omega)
  have s54 : ∀ (w : World) (v v' : Value), (w.setCell ⟨b, o + 5, none⟩ v).setCell ⟨b, o + 4, none⟩ v' = (w.setCell ⟨b, o + 4, none⟩ v').setCell ⟨b, o + 5, none⟩ v := fun w v v' => set_swap w b v v' (by omega)
  simp only [s10, s20, s21, s30, s31, s32, s40, s41, s42, s43, s50, s51, s52, s53, s54, set_set]

theorem drewn_6 (w : World) : w.drew.drew.drew.drew.drew.drew = w.drewN 6 := by rw [show w.drew = w.drewN 1 from rfl]; simp only [World.drew_drewN]
theorem drewn_12 (w : World) : w.drew.drew.drew.drew.drew.drew.drew.drew.drew.drew.drew.drew = w.drewN 12 := by rw [show w.drew = w.drewN 1 from rfl]; simp only [World.drew_drewN]
/-- The difference modulo the prime. -/
def subm (X Y : Nat) : Nat := (X + 4002409555221667393417789825735904156556882819939007885332058136124031650490837864442687629129015664037894272559787 - Y) % 4002409555221667393417789825735904156556882819939007885332058136124031650490837864442687629129015664037894272559787

end Go.Proofs.Ytfdmgelaiigocaa
