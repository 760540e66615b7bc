/- Contract of the field's way out of the Montgomery form. -/
import Derived.Test.YtfdmgelaiigocaaMadd
import Derived.Test.YtfdmgelaiigocaaTurn
import Derived.Deep.RegionWith
import Derived.Deep.CutRange
import Derived.StillTailTactics
namespace Go.Proofs.Ytfdmgelaiigocaa
open Go.RowKit Num

theorem inv_word (z : Int) (_h : Wd z) : ∃ m : Int, (Wd m ∧ (z + m * 13402431016077863595) % 18446744073709551616 = 0) ∧ IntKind.u64.wrap (z * 9940570264628428797) = m := by
  refine ⟨z * 9940570264628428797 % 18446744073709551616, ⟨⟨by omega, by omega⟩, ?_⟩, by rw [u64wrap]⟩
  have e : z * 9940570264628428797 % 18446744073709551616 = z * 9940570264628428797 - 18446744073709551616 * (z * 9940570264628428797 / 18446744073709551616) := by omega
  omega
/-- One round: the number and so often the prime, less a word. -/
theorem mont_round {x0 x1 x2 x3 x4 x5 y0 y1 y2 y3 y4 m l C0 : Int} {C1 C2 C3 C4 C5 : Int} (gm : Wd m) (hm : (x0 + m * 13402431016077863595) % 18446744073709551616 = 0) (e0 : Madd1 m 13402431016077863595 x0 C0 l) (e1 : Madd2 m 2210141511517208575 x1 C0 C1 y0) (e2 : Madd2 m 7435674573564081700 x2 C1 C2 y1) (e3 : Madd2 m 7239337960414712511 x3 C2 C3 y2) (e4 : Madd2 m 5412103778470702295 x4 C3 C4 y3) (e5 : Madd2 m 1873798617647539866 x5 C4 C5 y4) (hx : num x0 x1 x2 x3 x4 x5 < 4002409555221667393417789825735904156556882819939007885332058136124031650490837864442687629129015664037894272559787) (g0 : Wd x0) (_g1 : Wd x1) (_g2 : Wd x2) (_g3 : Wd x3) (_g4 : Wd x4) (_g5 : Wd x5) : num y0 y1 y2 y3 y4 C5 * 18446744073709551616 = num x0 x1 x2 x3 x4 x5 + m * 4002409555221667393417789825735904156556882819939007885332058136124031650490837864442687629129015664037894272559787 ∧ num y0 y1 y2 y3 y4 C5 < 4002409555221667393417789825735904156556882819939007885332058136124031650490837864442687629129015664037894272559787 := by
  unfold Madd1 Madd2 Wd at *
  unfold num at *
  have hl : l = 0 := by omega
  have h1 : (y0 + 18446744073709551616 * y1 + 340282366920938463463374607431768211456 * y2 + 6277101735386680763835789423207666416102355444464034512896 * y3 + 115792089237316195423570985008687907853269984665640564039457584007913129639936 * y4 + 2135987035920910082395021706169552114602704522356652769947041607822219725780640550022962086936576 * C5) * 18446744073709551616 = (x0 + 18446744073709551616 * x1 + 340282366920938463463374607431768211456 * x2 + 6277101735386680763835789423207666416102355444464034512896 * x3 + 115792089237316195423570985008687907853269984665640564039457584007913129639936 * x4 + 2135987035920910082395021706169552114602704522356652769947041607822219725780640550022962086936576 * x5) + m * 4002409555221667393417789825735904156556882819939007885332058136124031650490837864442687629129015664037894272559787 := by omega
  exact ⟨h1, by omega⟩


/-- What the calls of a round give. -/
def MontR (x0 x1 x2 x3 x4 x5 m C0 C1 C2 C3 C4 y0 y1 y2 y3 y4 y5 : Int) : Prop :=
  IntKind.u64.wrap (x0 * 9940570264628428797) = m ∧ (∀ w, Calls Try.prog 37 #[.int .u64 m, .int .u64 13402431016077863595, .int .u64 x0] w fun e w' => e = .returned (.int .u64 C0) ∧ w = w') ∧ (∀ w, Calls Try.prog 38 #[.int .u64 m, .int .u64 2210141511517208575, .int .u64 x1, .int .u64 C0] w fun e w' => e = .returned (.tuple #[.int .u64 C1, .int .u64 y0]) ∧ w = w') ∧ (∀ w, Calls Try.prog 38 #[.int .u64 m, .int .u64 7435674573564081700, .int .u64 x2, .int .u64 C1] w fun e w' => e = .returned (.tuple #[.int .u64 C2, .int .u64 y1]) ∧ w = w') ∧ (∀ w, Calls Try.prog 38 #[.int .u64 m, .int .u64 7239337960414712511, .int .u64 x3, .int .u64 C2] w fun e w' => e = .returned (.tuple #[.int .u64 C3, .int .u64 y2]) ∧ w = w') ∧ (∀ w, Calls Try.prog 38 #[.int .u64 m, .int .u64 5412103778470702295, .int .u64 x4, .int .u64 C3] w fun e w' => e = .returned (.tuple #[.int .u64 C4, .int .u64 y3]) ∧ w = w') ∧ (∀ w, Calls Try.prog 38 #[.int .u64 m, .int .u64 1873798617647539866, .int .u64 x5, .int .u64 C4] w fun e w' => e = .returned (.tuple #[.int .u64 y5, .int .u64 y4]) ∧ w = w')
theorem mont_rnd (x0 x1 x2 x3 x4 x5 : Int) (g0 : Wd x0) (g1 : Wd x1) (g2 : Wd x2) (g3 : Wd x3) (g4 : Wd x4) (g5 : Wd x5) (hx : num x0 x1 x2 x3 x4 x5 < 4002409555221667393417789825735904156556882819939007885332058136124031650490837864442687629129015664037894272559787) : ∃ m C0 C1 C2 C3 C4 y0 y1 y2 y3 y4 y5 : Int, MontR x0 x1 x2 x3 x4 x5 m C0 C1 C2 C3 C4 y0 y1 y2 y3 y4 y5 ∧ (Wd y0 ∧ Wd y1 ∧ Wd y2 ∧ Wd y3 ∧ Wd y4 ∧ Wd y5) ∧ num y0 y1 y2 y3 y4 y5 < 4002409555221667393417789825735904156556882819939007885332058136124031650490837864442687629129015664037894272559787 ∧ num y0 y1 y2 y3 y4 y5 * 18446744073709551616 = num x0 x1 x2 x3 x4 x5 + m * 4002409555221667393417789825735904156556882819939007885332058136124031650490837864442687629129015664037894272559787 := by
  obtain ⟨m, p, a⟩ := inv_word x0 g0
  obtain ⟨C0, l, e0, k0⟩ := madd0 p.1 (b := 13402431016077863595) ⟨by omega, by omega⟩ g0
  obtain ⟨C1, y0, e1, k1⟩ := madd2 p.1 (b := 2210141511517208575) ⟨by omega, by omega⟩ g1 e0.2.1
  obtain ⟨C2, y1, e2, k2⟩ := madd2 p.1 (b := 7435674573564081700) ⟨by omega, by omega⟩ g2 e1.2.1
  obtain ⟨C3, y2, e3, k3⟩ := madd2 p.1 (b := 7239337960414712511) ⟨by omega, by omega⟩ g3 e2.2.1
  obtain ⟨C4, y3, e4, k4⟩ := madd2 p.1 (b := 5412103778470702295) ⟨by omega, by omega⟩ g4 e3.2.1
  obtain ⟨y5, y4, e5, k5⟩ := madd2 p.1 (b := 1873798617647539866) ⟨by omega, by omega⟩ g5 e4.2.1
  obtain ⟨h1, h2⟩ := mont_round p.1 p.2 e0 e1 e2 e3 e4 e5 hx g0 g1 g2 g3 g4 g5
  exact ⟨m, C0, C1, C2, C3, C4, y0, y1, y2, y3, y4, y5, ⟨a, k0, k1, k2, k3, k4, k5⟩, ⟨e1.2.2, e2.2.2, e3.2.2, e4.2.2, e5.2.2, e5.2.1⟩, h2, h1⟩
theorem mont_sum {N0 N1 N2 N3 N4 N5 N6 m0 m1 m2 m3 m4 m5 : Int} (r0 : N1 * 18446744073709551616 = N0 + m0 * 4002409555221667393417789825735904156556882819939007885332058136124031650490837864442687629129015664037894272559787) (r1 : N2 * 18446744073709551616 = N1 + m1 * 4002409555221667393417789825735904156556882819939007885332058136124031650490837864442687629129015664037894272559787) (r2 : N3 * 18446744073709551616 = N2 + m2 * 4002409555221667393417789825735904156556882819939007885332058136124031650490837864442687629129015664037894272559787) (r3 : N4 * 18446744073709551616 = N3 + m3 * 4002409555221667393417789825735904156556882819939007885332058136124031650490837864442687629129015664037894272559787) (r4 : N5 * 18446744073709551616 = N4 + m4 * 4002409555221667393417789825735904156556882819939007885332058136124031650490837864442687629129015664037894272559787) (r5 : N6 * 18446744073709551616 = N5 + m5 * 4002409555221667393417789825735904156556882819939007885332058136124031650490837864442687629129015664037894272559787) : ∃ M : Int, N6 * 39402006196394479212279040100143613805079739270465446667948293404245721771497210611414266254884915640806627990306816 = N0 + M * 4002409555221667393417789825735904156556882819939007885332058136124031650490837864442687629129015664037894272559787 :=
  ⟨m0 * 1 + m1 * 18446744073709551616 + m2 * 340282366920938463463374607431768211456 + m3 * 6277101735386680763835789423207666416102355444464034512896 + m4 * 115792089237316195423570985008687907853269984665640564039457584007913129639936 + m5 * 2135987035920910082395021706169552114602704522356652769947041607822219725780640550022962086936576, by omega⟩
/-- The block as it stands. -/
structure Stt (b o : Nat) (w wx : World) (x0 x1 x2 x3 x4 x5 : Int) : Prop where
  c0 : wx.cell? ⟨b, o, none⟩ = some (.int .u64 x0)
  c1 : wx.cell? ⟨b, o + 1, none⟩ = some (.int .u64 x1)
  c2 : wx.cell? ⟨b, o + 2, none⟩ = some (.int .u64 x2)
  c3 : wx.cell? ⟨b, o + 3, none⟩ = some (.int .u64 x3)
  c4 : wx.cell? ⟨b, o + 4, none⟩ = some (.int .u64 x4)
  c5 : wx.cell? ⟨b, o + 5, none⟩ = some (.int .u64 x5)
  f0 : wx.frozen? ⟨b, o, none⟩ = false
  f1 : wx.frozen? ⟨b, o + 1, none⟩ = false
  f2 : wx.frozen? ⟨b, o + 2, none⟩ = false
  f3 : wx.frozen? ⟨b, o + 3, none⟩ = false
  f4 : wx.frozen? ⟨b, o + 4, none⟩ = false
  f5 : wx.frozen? ⟨b, o + 5, none⟩ = false
  t : Turns b w wx
theorem stt_upd0 {b o : Nat} {w W : World} {x0 x1 x2 x3 x4 x5 : Int} (h : Stt b o w W x0 x1 x2 x3 x4 x5) (v : Int) : Stt b o w ((W.setCell ⟨b, o, none⟩ (.int .u64 v)).drew) v x1 x2 x3 x4 x5 :=
  ⟨upd_hit rfl h.c0, upd_keep rfl h.c1 (by omega), upd_keep rfl h.c2 (by omega), upd_keep rfl h.c3 (by omega), upd_keep rfl h.c4 (by omega), upd_keep rfl h.c5 (by omega), upd_frozen rfl h.f0, upd_frozen rfl h.f1, upd_frozen rfl h.f2, upd_frozen rfl h.f3, upd_frozen rfl h.f4, upd_frozen rfl h.f5, upd_turns rfl h.t⟩
theorem stt_put0 {b o : Nat} {w W : World} {x0 x1 x2 x3 x4 x5 : Int} (h : Stt b o w W x0 x1 x2 x3 x4 x5) (v : Int) : Stt b o w (W.setCell ⟨b, o, none⟩ (.int .u64 v)) v x1 x2 x3 x4 x5 :=
  ⟨put_hit rfl h.c0, put_keep rfl h.c1 (by omega), put_keep rfl h.c2 (by omega), put_keep rfl h.c3 (by omega), put_keep rfl h.c4 (by omega), put_keep rfl h.c5 (by omega), put_frozen rfl h.f0, put_frozen rfl h.f1, put_frozen rfl h.f2, put_frozen rfl h.f3, put_frozen rfl h.f4, put_frozen rfl h.f5, put_turns rfl h.t⟩
theorem stt_upd1 {b o : Nat} {w W : World} {x0 x1 x2 x3 x4 x5 : Int} (h : Stt b o w W x0 x1 x2 x3 x4 x5) (v : Int) : Stt b o w ((W.setCell ⟨b, o + 1, none⟩ (.int .u64 v)).drew) x0 v x2 x3 x4 x5 :=
  ⟨upd_keep rfl h.c0 (by omega), upd_hit rfl h.c1, upd_keep rfl h.c2 (by omega), upd_keep rfl h.c3 (by omega), upd_keep rfl h.c4 (by omega), upd_keep rfl h.c5 (by omega), upd_frozen rfl h.f0, upd_frozen rfl h.f1, upd_frozen rfl h.f2, upd_frozen rfl h.f3, upd_frozen rfl h.f4, upd_frozen rfl h.f5, upd_turns rfl h.t⟩
theorem stt_put1 {b o : Nat} {w W : World} {x0 x1 x2 x3 x4 x5 : Int} (h : Stt b o w W x0 x1 x2 x3 x4 x5) (v : Int) : Stt b o w (W.setCell ⟨b, o + 1, none⟩ (.int .u64 v)) x0 v x2 x3 x4 x5 :=
  ⟨put_keep rfl h.c0 (by omega), put_hit rfl h.c1, put_keep rfl h.c2 (by omega), put_keep rfl h.c3 (by omega), put_keep rfl h.c4 (by omega), put_keep rfl h.c5 (by omega), put_frozen rfl h.f0, put_frozen rfl h.f1, put_frozen rfl h.f2, put_frozen rfl h.f3, put_frozen rfl h.f4, put_frozen rfl h.f5, put_turns rfl h.t⟩
theorem stt_upd2 {b o : Nat} {w W : World} {x0 x1 x2 x3 x4 x5 : Int} (h : Stt b o w W x0 x1 x2 x3 x4 x5) (v : Int) : Stt b o w ((W.setCell ⟨b, o + 2, none⟩ (.int .u64 v)).drew) x0 x1 v x3 x4 x5 :=
  ⟨upd_keep rfl h.c0 (by omega), upd_keep rfl h.c1 (by omega), upd_hit rfl h.c2, upd_keep rfl h.c3 (by omega), upd_keep rfl h.c4 (by omega), upd_keep rfl h.c5 (by omega), upd_frozen rfl h.f0, upd_frozen rfl h.f1, upd_frozen rfl h.f2, upd_frozen rfl h.f3, upd_frozen rfl h.f4, upd_frozen rfl h.f5, upd_turns rfl h.t⟩
theorem stt_put2 {b o : Nat} {w W : World} {x0 x1 x2 x3 x4 x5 : Int} (h : Stt b o w W x0 x1 x2 x3 x4 x5) (v : Int) : Stt b o w (W.setCell ⟨b, o + 2, none⟩ (.int .u64 v)) x0 x1 v x3 x4 x5 :=
  ⟨put_keep rfl h.c0 (by omega), put_keep rfl h.c1 (by omega), put_hit rfl h.c2, put_keep rfl h.c3 (by omega), put_keep rfl h.c4 (by omega), put_keep rfl h.c5 (by omega), put_frozen rfl h.f0, put_frozen rfl h.f1, put_frozen rfl h.f2, put_frozen rfl h.f3, put_frozen rfl h.f4, put_frozen rfl h.f5, put_turns rfl h.t⟩
theorem stt_upd3 {b o : Nat} {w W : World} {x0 x1 x2 x3 x4 x5 : Int} (h : Stt b o w W x0 x1 x2 x3 x4 x5) (v : Int) : Stt b o w ((W.setCell ⟨b, o + 3, none⟩ (.int .u64 v)).drew) x0 x1 x2 v x4 x5 :=
  ⟨upd_keep rfl h.c0 (by omega), upd_keep rfl h.c1 (by omega), upd_keep rfl h.c2 (by omega), upd_hit rfl h.c3, upd_keep rfl h.c4 (by omega), upd_keep rfl h.c5 (by omega), upd_frozen rfl h.f0, upd_frozen rfl h.f1, upd_frozen rfl h.f2, upd_frozen rfl h.f3, upd_frozen rfl h.f4, upd_frozen rfl h.f5, upd_turns rfl h.t⟩
theorem stt_put3 {b o : Nat} {w W : World} {x0 x1 x2 x3 x4 x5 : Int} (h : Stt b o w W x0 x1 x2 x3 x4 x5) (v : Int) : Stt b o w (W.setCell ⟨b, o + 3, none⟩ (.int .u64 v)) x0 x1 x2 v x4 x5 :=
  ⟨put_keep rfl h.c0 (by omega), put_keep rfl h.c1 (by omega), put_keep rfl h.c2 (by omega), put_hit rfl h.c3, put_keep rfl h.c4 (by omega), put_keep rfl h.c5 (by omega), put_frozen rfl h.f0, put_frozen rfl h.f1, put_frozen rfl h.f2, put_frozen rfl h.f3, put_frozen rfl h.f4, put_frozen rfl h.f5, put_turns rfl h.t⟩
theorem stt_upd4 {b o : Nat} {w W : World} {x0 x1 x2 x3 x4 x5 : Int} (h : Stt b o w W x0 x1 x2 x3 x4 x5) (v : Int) : Stt b o w ((W.setCell ⟨b, o + 4, none⟩ (.int .u64 v)).drew) x0 x1 x2 x3 v x5 :=
  ⟨upd_keep rfl h.c0 (by omega), upd_keep rfl h.c1 (by omega), upd_keep rfl h.c2 (by omega), upd_keep rfl h.c3 (by omega), upd_hit rfl h.c4, upd_keep rfl h.c5 (by omega), upd_frozen rfl h.f0, upd_frozen rfl h.f1, upd_frozen rfl h.f2, upd_frozen rfl h.f3, upd_frozen rfl h.f4, upd_frozen rfl h.f5, upd_turns rfl h.t⟩
theorem stt_put4 {b o : Nat} {w W : World} {x0 x1 x2 x3 x4 x5 : Int} (h : Stt b o w W x0 x1 x2 x3 x4 x5) (v : Int) : Stt b o w (W.setCell ⟨b, o + 4, none⟩ (.int .u64 v)) x0 x1 x2 x3 v x5 :=
  ⟨put_keep rfl h.c0 (by omega), put_keep rfl h.c1 (by omega), put_keep rfl h.c2 (by omega), put_keep rfl h.c3 (by omega), put_hit rfl h.c4, put_keep rfl h.c5 (by omega), put_frozen rfl h.f0, put_frozen rfl h.f1, put_frozen rfl h.f2, put_frozen rfl h.f3, put_frozen rfl h.f4, put_frozen rfl h.f5, put_turns rfl h.t⟩
theorem stt_upd5 {b o : Nat} {w W : World} {x0 x1 x2 x3 x4 x5 : Int} (h : Stt b o w W x0 x1 x2 x3 x4 x5) (v : Int) : Stt b o w ((W.setCell ⟨b, o + 5, none⟩ (.int .u64 v)).drew) x0 x1 x2 x3 x4 v :=
  ⟨upd_keep rfl h.c0 (by omega), upd_keep rfl h.c1 (by omega), upd_keep rfl h.c2 (by omega), upd_keep rfl h.c3 (by omega), upd_keep rfl h.c4 (by omega), upd_hit rfl h.c5, upd_frozen rfl h.f0, upd_frozen rfl h.f1, upd_frozen rfl h.f2, upd_frozen rfl h.f3, upd_frozen rfl h.f4, upd_frozen rfl h.f5, upd_turns rfl h.t⟩
theorem stt_put5 {b o : Nat} {w W : World} {x0 x1 x2 x3 x4 x5 : Int} (h : Stt b o w W x0 x1 x2 x3 x4 x5) (v : Int) : Stt b o w (W.setCell ⟨b, o + 5, none⟩ (.int .u64 v)) x0 x1 x2 x3 x4 v :=
  ⟨put_keep rfl h.c0 (by omega), put_keep rfl h.c1 (by omega), put_keep rfl h.c2 (by omega), put_keep rfl h.c3 (by omega), put_keep rfl h.c4 (by omega), put_hit rfl h.c5, put_frozen rfl h.f0, put_frozen rfl h.f1, put_frozen rfl h.f2, put_frozen rfl h.f3, put_frozen rfl h.f4, put_frozen rfl h.f5, put_turns rfl h.t⟩
/-- What is left. -/
def Montd (b o : Nat) (w : World) (X : Int) (e : Ending) (w' : World) : Prop :=
  e = .returned (.tuple #[]) ∧ ∃ d0 d1 d2 d3 d4 d5 : Int, (Wd d0 ∧ Wd d1 ∧ Wd d2 ∧ Wd d3 ∧ Wd d4 ∧ Wd d5) ∧ num d0 d1 d2 d3 d4 d5 < 4002409555221667393417789825735904156556882819939007885332058136124031650490837864442687629129015664037894272559787 ∧ (∃ M : Int, num d0 d1 d2 d3 d4 d5 * 39402006196394479212279040100143613805079739270465446667948293404245721771497210611414266254884915640806627990306816 = X + M * 4002409555221667393417789825735904156556882819939007885332058136124031650490837864442687629129015664037894272559787) ∧ (w'.cell? ⟨b, o, none⟩ = some (.int .u64 d0) ∧ w'.cell? ⟨b, o + 1, none⟩ = some (.int .u64 d1) ∧ w'.cell? ⟨b, o + 2, none⟩ = some (.int .u64 d2) ∧ w'.cell? ⟨b, o + 3, none⟩ = some (.int .u64 d3) ∧ w'.cell? ⟨b, o + 4, none⟩ = some (.int .u64 d4) ∧ w'.cell? ⟨b, o + 5, none⟩ = some (.int .u64 d5)) ∧ Turns b w w'
def hd : Code → Code | .seq a _ => a | c => c
def tl : Code → Code | .seq _ b => b | c => c
noncomputable def bd : Code := Try.f33.body.getD .skip
set_option maxRecDepth 100000 in
/-- A frame of this function: the first slot is the argument. -/
def Frx (p : Value) (a : Act) : Prop := ∃ f : Nat → Value, a = ⟨#[p, f 1, f 2, f 3, f 4, f 5, f 6, f 7, f 8, f 9, f 10, f 11, f 12, f 13, f 14, f 15, f 16, f 17, f 18, f 19, f 20, f 21, f 22, f 23, f 24, f 25, f 26, f 27, f 28, f 29, f 30, f 31, f 32, f 33, f 34, f 35, f 36, f 37, f 38, f 39, f 40, f 41, f 42, f 43, f 44, f 45, f 46, f 47, f 48, f 49, f 50, f 51, f 52, f 53, f 54, f 55, f 56, f 57, f 58, f 59, f 60, f 61, f 62, f 63, f 64, f 65, f 66, f 67, f 68, f 69, f 70, f 71, f 72, f 73, f 74, f 75, f 76, f 77, f 78, f 79, f 80, f 81, f 82, f 83, f 84, f 85, f 86, f 87, f 88, f 89, f 90, f 91, f 92, f 93, f 94, f 95, f 96, f 97, f 98, f 99, f 100, f 101, f 102, f 103, f 104, f 105, f 106, f 107, f 108, f 109, f 110, f 111, f 112, f 113, f 114, f 115, f 116, f 117, f 118, f 119, f 120, f 121, f 122, f 123, f 124, f 125, f 126, f 127, f 128, f 129, f 130, f 131, f 132, f 133, f 134, f 135, f 136, f 137, f 138, f 139, f 140, f 141, f 142, f 143, f 144, f 145, f 146, f 147, f 148, f 149, f 150, f 151, f 152, f 153, f 154, f 155, f 156, f 157, f 158, f 159, f 160, f 161, f 162, f 163, f 164, f 165, f 166, f 167, f 168, f 169, f 170, f 171, f 172, f 173, f 174, f 175, f 176, f 177, f 178, f 179, f 180, f 181, f 182, f 183, f 184, f 185, f 186, f 187, f 188, f 189, f 190, f 191, f 192, f 193, f 194, f 195, f 196, f 197, f 198, f 199, f 200, f 201, f 202, f 203, f 204, f 205, f 206, f 207, f 208, f 209, f 210, f 211, f 212, f 213, f 214, f 215, f 216, f 217, f 218, f 219, f 220, f 221, f 222, f 223, f 224, f 225, f 226, f 227, f 228, f 229, f 230, f 231, f 232, f 233, f 234, f 235, f 236, f 237, f 238, f 239, f 240, f 241, f 242, f 243, f 244, f 245, f 246, f 247, f 248, f 249, f 250, f 251, f 252, f 253, f 254, f 255, f 256, f 257, f 258, f 259, f 260, f 261, f 262, f 263, f 264, f 265, f 266, f 267, f 268, f 269, f 270, f 271, f 272, f 273, f 274, f 275, f 276, f 277, f 278, f 279, f 280, f 281, f 282, f 283, f 284, f 285, f 286, f 287, f 288, f 289, f 290, f 291, f 292, f 293, f 294, f 295, f 296, f 297, f 298, f 299, f 300, f 301, f 302, f 303, f 304, f 305, f 306, f 307, f 308, f 309, f 310, f 311, f 312, f 313, f 314, f 315, f 316, f 317, f 318, f 319, f 320, f 321, f 322, f 323, f 324, f 325, f 326, f 327, f 328, f 329, f 330, f 331, f 332, f 333, f 334, f 335, f 336, f 337, f 338, f 339, f 340, f 341, f 342, f 343, f 344, f 345, f 346, f 347, f 348, f 349, f 350, f 351, f 352, f 353, f 354, f 355, f 356, f 357, f 358, f 359, f 360, f 361, f 362, f 363, f 364, f 365, f 366, f 367, f 368, f 369, f 370, f 371, f 372, f 373, f 374, f 375, f 376, f 377, f 378, f 379, f 380, f 381, f 382, f 383, f 384, f 385, f 386, f 387, f 388, f 389, f 390, f 391, f 392, f 393, f 394, f 395, f 396, f 397, f 398, f 399, f 400, f 401, f 402, f 403, f 404, f 405, f 406, f 407, f 408, f 409, f 410, f 411, f 412, f 413, f 414, f 415, f 416, f 417, f 418, f 419, f 420, f 421, f 422, f 423, f 424, f 425, f 426, f 427, f 428, f 429, f 430, f 431, f 432, f 433, f 434, f 435, f 436, f 437, f 438, f 439, f 440, f 441, f 442, f 443, f 444, f 445, f 446, f 447, f 448, f 449, f 450, f 451, f 452, f 453, f 454, f 455, f 456, f 457, f 458, f 459, f 460, f 461, f 462, f 463, f 464, f 465, f 466, f 467, f 468, f 469, f 470, f 471, f 472, f 473, f 474, f 475, f 476, f 477, f 478, f 479, f 480, f 481, f 482, f 483, f 484, f 485, f 486, f 487, f 488, f 489, f 490, f 491, f 492, f 493, f 494, f 495, f 496, f 497, f 498, f 499, f 500, f 501, f 502, f 503, f 504, f 505, f 506, f 507, f 508, f 509, f 510, f 511, f 512, f 513, f 514, f 515, f 516, f 517, f 518, f 519, f 520, f 521, f 522, f 523, f 524, f 525, f 526, f 527, f 528, f 529, f 530, f 531, f 532, f 533, f 534, f 535, f 536, f 537, f 538, f 539, f 540, f 541, f 542, f 543, f 544, f 545, f 546, f 547, f 548, f 549, f 550, f 551, f 552, f 553, f 554, f 555, f 556, f 557, f 558, f 559, f 560, f 561, f 562, f 563, f 564, f 565, f 566, f 567, f 568], []⟩
def AllL : Nat → (List Value → Prop) → Prop | 0, P => P [] | n + 1, P => ∀ s, AllL n (fun l => P (s :: l))
theorem allL : ∀ (n : Nat) (P : List Value → Prop), AllL n P → ∀ l : List Value, l.length = n → P l
  | 0, _, h, [], _ => h
  | n + 1, _, h, s :: l, e => allL n _ (h s) l (Nat.succ.inj e)
set_option maxRecDepth 100000 in
set_option maxHeartbeats 4000000 in
theorem frx_of (p : Value) (l : List Value) (hl : l.length = 568) : Frx p ⟨(p :: l).toArray, []⟩ := by
  refine allL 568 (fun l => Frx p ⟨(p :: l).toArray, []⟩) ?_ l hl
  intro s1 s2 s3 s4 s5 s6 s7 s8 s9 s10 s11 s12 s13 s14 s15 s16 s17 s18 s19 s20 s21 s22 s23 s24 s25 s26 s27 s28 s29 s30 s31 s32 s33 s34 s35 s36 s37 s38 s39 s40 s41 s42 s43 s44 s45 s46 s47 s48 s49 s50 s51 s52 s53 s54 s55 s56 s57 s58 s59 s60 s61 s62 s63 s64 s65 s66 s67 s68 s69 s70 s71 s72 s73 s74 s75 s76 s77 s78 s79 s80 s81 s82 s83 s84 s85 s86 s87 s88 s89 s90 s91 s92 s93 s94 s95 s96 s97 s98 s99 s100 s101 s102 s103 s104 s105 s106 s107 s108 s109 s110 s111 s112 s113 s114 s115 s116 s117 s118 s119 s120 s121 s122 s123 s124 s125 s126 s127 s128 s129 s130 s131 s132 s133 s134 s135 s136 s137 s138 s139 s140 s141 s142 s143 s144 s145 s146 s147 s148 s149 s150 s151 s152 s153 s154 s155 s156 s157 s158 s159 s160 s161 s162 s163 s164 s165 s166 s167 s168 s169 s170 s171 s172 s173 s174 s175 s176 s177 s178 s179 s180 s181 s182 s183 s184 s185 s186 s187 s188 s189 s190 s191 s192 s193 s194 s195 s196 s197 s198 s199 s200 s201 s202 s203 s204 s205 s206 s207 s208 s209 s210 s211 s212 s213 s214 s215 s216 s217 s218 s219 s220 s221 s222 s223 s224 s225 s226 s227 s228 s229 s230 s231 s232 s233 s234 s235 s236 s237 s238 s239 s240 s241 s242 s243 s244 s245 s246 s247 s248 s249 s250 s251 s252 s253 s254 s255 s256 s257 s258 s259 s260 s261 s262 s263 s264 s265 s266 s267 s268 s269 s270 s271 s272 s273 s274 s275 s276 s277 s278 s279 s280 s281 s282 s283 s284 s285 s286 s287 s288 s289 s290 s291 s292 s293 s294 s295 s296 s297 s298 s299 s300 s301 s302 s303 s304 s305 s306 s307 s308 s309 s310 s311 s312 s313 s314 s315 s316 s317 s318 s319 s320 s321 s322 s323 s324 s325 s326 s327 s328 s329 s330 s331 s332 s333 s334 s335 s336 s337 s338 s339 s340 s341 s342 s343 s344 s345 s346 s347 s348 s349 s350 s351 s352 s353 s354 s355 s356 s357 s358 s359 s360 s361 s362 s363 s364 s365 s366 s367 s368 s369 s370 s371 s372 s373 s374 s375 s376 s377 s378 s379 s380 s381 s382 s383 s384 s385 s386 s387 s388 s389 s390 s391 s392 s393 s394 s395 s396 s397 s398 s399 s400 s401 s402 s403 s404 s405 s406 s407 s408 s409 s410 s411 s412 s413 s414 s415 s416 s417 s418 s419 s420 s421 s422 s423 s424 s425 s426 s427 s428 s429 s430 s431 s432 s433 s434 s435 s436 s437 s438 s439 s440 s441 s442 s443 s444 s445 s446 s447 s448 s449 s450 s451 s452 s453 s454 s455 s456 s457 s458 s459 s460 s461 s462 s463 s464 s465 s466 s467 s468 s469 s470 s471 s472 s473 s474 s475 s476 s477 s478 s479 s480 s481 s482 s483 s484 s485 s486 s487 s488 s489 s490 s491 s492 s493 s494 s495 s496 s497 s498 s499 s500 s501 s502 s503 s504 s505 s506 s507 s508 s509 s510 s511 s512 s513 s514 s515 s516 s517 s518 s519 s520 s521 s522 s523 s524 s525 s526 s527 s528 s529 s530 s531 s532 s533 s534 s535 s536 s537 s538 s539 s540 s541 s542 s543 s544 s545 s546 s547 s548 s549 s550 s551 s552 s553 s554 s555 s556 s557 s558 s559 s560 s561 s562 s563 s564 s565 s566 s567 s568
  exact ⟨fun i => ([p, s1, s2, s3, s4, s5, s6, s7, s8, s9, s10, s11, s12, s13, s14, s15, s16, s17, s18, s19, s20, s21, s22, s23, s24, s25, s26, s27, s28, s29, s30, s31, s32, s33, s34, s35, s36, s37, s38, s39, s40, s41, s42, s43, s44, s45, s46, s47, s48, s49, s50, s51, s52, s53, s54, s55, s56, s57, s58, s59, s60, s61, s62, s63, s64, s65, s66, s67, s68, s69, s70, s71, s72, s73, s74, s75, s76, s77, s78, s79, s80, s81, s82, s83, s84, s85, s86, s87, s88, s89, s90, s91, s92, s93, s94, s95, s96, s97, s98, s99, s100, s101, s102, s103, s104, s105, s106, s107, s108, s109, s110, s111, s112, s113, s114, s115, s116, s117, s118, s119, s120, s121, s122, s123, s124, s125, s126, s127, s128, s129, s130, s131, s132, s133, s134, s135, s136, s137, s138, s139, s140, s141, s142, s143, s144, s145, s146, s147, s148, s149, s150, s151, s152, s153, s154, s155, s156, s157, s158, s159, s160, s161, s162, s163, s164, s165, s166, s167, s168, s169, s170, s171, s172, s173, s174, s175, s176, s177, s178, s179, s180, s181, s182, s183, s184, s185, s186, s187, s188, s189, s190, s191, s192, s193, s194, s195, s196, s197, s198, s199, s200, s201, s202, s203, s204, s205, s206, s207, s208, s209, s210, s211, s212, s213, s214, s215, s216, s217, s218, s219, s220, s221, s222, s223, s224, s225, s226, s227, s228, s229, s230, s231, s232, s233, s234, s235, s236, s237, s238, s239, s240, s241, s242, s243, s244, s245, s246, s247, s248, s249, s250, s251, s252, s253, s254, s255, s256, s257, s258, s259, s260, s261, s262, s263, s264, s265, s266, s267, s268, s269, s270, s271, s272, s273, s274, s275, s276, s277, s278, s279, s280, s281, s282, s283, s284, s285, s286, s287, s288, s289, s290, s291, s292, s293, s294, s295, s296, s297, s298, s299, s300, s301, s302, s303, s304, s305, s306, s307, s308, s309, s310, s311, s312, s313, s314, s315, s316, s317, s318, s319, s320, s321, s322, s323, s324, s325, s326, s327, s328, s329, s330, s331, s332, s333, s334, s335, s336, s337, s338, s339, s340, s341, s342, s343, s344, s345, s346, s347, s348, s349, s350, s351, s352, s353, s354, s355, s356, s357, s358, s359, s360, s361, s362, s363, s364, s365, s366, s367, s368, s369, s370, s371, s372, s373, s374, s375, s376, s377, s378, s379, s380, s381, s382, s383, s384, s385, s386, s387, s388, s389, s390, s391, s392, s393, s394, s395, s396, s397, s398, s399, s400, s401, s402, s403, s404, s405, s406, s407, s408, s409, s410, s411, s412, s413, s414, s415, s416, s417, s418, s419, s420, s421, s422, s423, s424, s425, s426, s427, s428, s429, s430, s431, s432, s433, s434, s435, s436, s437, s438, s439, s440, s441, s442, s443, s444, s445, s446, s447, s448, s449, s450, s451, s452, s453, s454, s455, s456, s457, s458, s459, s460, s461, s462, s463, s464, s465, s466, s467, s468, s469, s470, s471, s472, s473, s474, s475, s476, s477, s478, s479, s480, s481, s482, s483, s484, s485, s486, s487, s488, s489, s490, s491, s492, s493, s494, s495, s496, s497, s498, s499, s500, s501, s502, s503, s504, s505, s506, s507, s508, s509, s510, s511, s512, s513, s514, s515, s516, s517, s518, s519, s520, s521, s522, s523, s524, s525, s526, s527, s528, s529, s530, s531, s532, s533, s534, s535, s536, s537, s538, s539, s540, s541, s542, s543, s544, s545, s546, s547, s548, s549, s550, s551, s552, s553, s554, s555, s556, s557, s558, s559, s560, s561, s562, s563, s564, s565, s566, s567, s568] : List Value).getD i p, rfl⟩
set_option maxRecDepth 100000 in
set_option maxHeartbeats 64000000 in
theorem rnd_0 {K : Act → World → Prop} {Q' : Exit → Act → World → Prop} (b o : Nat) (w wx : World) (m0 C0_0 C0_1 C0_2 C0_3 C0_4 z0_0 z0_1 z0_2 z0_3 z0_4 z0_5 z1_0 z1_1 z1_2 z1_3 z1_4 z1_5 : Int) (M : Shut (MontR z0_0 z0_1 z0_2 z0_3 z0_4 z0_5 m0 C0_0 C0_1 C0_2 C0_3 C0_4 z1_0 z1_1 z1_2 z1_3 z1_4 z1_5)) (hst : Shut (Stt b o w wx z0_0 z0_1 z0_2 z0_3 z0_4 z0_5)) (a : Act) (ha : Frx (.pointer (some ⟨b, o, none⟩)) a) (hK : ∀ a' w', Frx (.pointer (some ⟨b, o, none⟩)) a' ∧ Shut (Stt b o w w' z1_0 z1_1 z1_2 z1_3 z1_4 z1_5) → K a' w') : Code.wp Try.prog (hd bd) (Exit.then K Q') a wx := by
  refine wp_cut (fun a' w' => Frx (.pointer (some ⟨b, o, none⟩)) a' ∧ Shut (Stt b o w w' z1_0 z1_1 z1_2 z1_3 z1_4 z1_5)) hK ?_
  clear hK
  intro J K' hJ hK'
  obtain ⟨f, rfl⟩ := ha
  conv => arg 2; whnf
  have o0 := hst.out.c0; have o1 := M.out.1
  go_wp2_with fail
  clear o0 o1
  refine (M.out.2.1 _).mono ?_
  rintro e w' ⟨rfl, rfl⟩
  go_upto_region 2 with fail
  go_cut [3] from 26 to 38 (fun c wx => c = .int .u64 C0_1 ∧ Shut (Stt b o w wx z1_0 z0_1 z0_2 z0_3 z0_4 z0_5))
  case first =>
    have o0 := hst.out.c1; have o1 := hst.out.c0; have o2 := hst.out.f0
    refine wp_region_still_tail 14 (by kernel_rfl) (by kernel_rfl) ?_
    simp only [List.take_succ_cons, List.take_zero, List.drop_succ_cons, List.drop_zero]
    repeat still_step
    still_call ((M.out.2.2.1 _).mono (fun _ _ h => ⟨h.1, h.2.symm⟩))
    repeat still_step
    refine wpStill_nil ?_
    change wpList _ _ _ _ _ (World.drew _)
    go_wp2_with fail
    clear o0 o1 o2
    go_meet
    exact ⟨rfl, shut (stt_upd0 hst.out _)⟩
  clear hst
  obtain ⟨rfl, hst⟩ := hcut
  go_upto_region 3 with fail
  go_cut [3] from 39 to 51 (fun c wx => c = .int .u64 C0_2 ∧ Shut (Stt b o w wx z1_0 z1_1 z0_2 z0_3 z0_4 z0_5))
  case first =>
    have o0 := hst.out.c2; have o1 := hst.out.c1; have o2 := hst.out.f1
    refine wp_region_still_tail 14 (by kernel_rfl) (by kernel_rfl) ?_
    simp only [List.take_succ_cons, List.take_zero, List.drop_succ_cons, List.drop_zero]
    repeat still_step
    still_call ((M.out.2.2.2.1 _).mono (fun _ _ h => ⟨h.1, h.2.symm⟩))
    repeat still_step
    refine wpStill_nil ?_
    change wpList _ _ _ _ _ (World.drew _)
    go_wp2_with fail
    clear o0 o1 o2
    go_meet
    exact ⟨rfl, shut (stt_upd1 hst.out _)⟩
  clear hst
  obtain ⟨rfl, hst⟩ := hcut
  go_upto_region 4 with fail
  go_cut [3] from 52 to 64 (fun c wx => c = .int .u64 C0_3 ∧ Shut (Stt b o w wx z1_0 z1_1 z1_2 z0_3 z0_4 z0_5))
  case first =>
    have o0 := hst.out.c3; have o1 := hst.out.c2; have o2 := hst.out.f2
    refine wp_region_still_tail 14 (by kernel_rfl) (by kernel_rfl) ?_
    simp only [List.take_succ_cons, List.take_zero, List.drop_succ_cons, List.drop_zero]
    repeat still_step
    still_call ((M.out.2.2.2.2.1 _).mono (fun _ _ h => ⟨h.1, h.2.symm⟩))
    repeat still_step
    refine wpStill_nil ?_
    change wpList _ _ _ _ _ (World.drew _)
    go_wp2_with fail
    clear o0 o1 o2
    go_meet
    exact ⟨rfl, shut (stt_upd2 hst.out _)⟩
  clear hst
  obtain ⟨rfl, hst⟩ := hcut
  go_upto_region 5 with fail
  go_cut [3] from 65 to 77 (fun c wx => c = .int .u64 C0_4 ∧ Shut (Stt b o w wx z1_0 z1_1 z1_2 z1_3 z0_4 z0_5))
  case first =>
    have o0 := hst.out.c4; have o1 := hst.out.c3; have o2 := hst.out.f3
    refine wp_region_still_tail 14 (by kernel_rfl) (by kernel_rfl) ?_
    simp only [List.take_succ_cons, List.take_zero, List.drop_succ_cons, List.drop_zero]
    repeat still_step
    still_call ((M.out.2.2.2.2.2.1 _).mono (fun _ _ h => ⟨h.1, h.2.symm⟩))
    repeat still_step
    refine wpStill_nil ?_
    change wpList _ _ _ _ _ (World.drew _)
    go_wp2_with fail
    clear o0 o1 o2
    go_meet
    exact ⟨rfl, shut (stt_upd3 hst.out _)⟩
  clear hst
  obtain ⟨rfl, hst⟩ := hcut
  go_upto_region 6 with fail
  go_cut [3] from 78 to 90 (fun c wx => c = .int .u64 z1_5 ∧ Shut (Stt b o w wx z1_0 z1_1 z1_2 z1_3 z1_4 z0_5))
  case first =>
    have o0 := hst.out.c5; have o1 := hst.out.c4; have o2 := hst.out.f4
    refine wp_region_still_tail 14 (by kernel_rfl) (by kernel_rfl) ?_
    simp only [List.take_succ_cons, List.take_zero, List.drop_succ_cons, List.drop_zero]
    repeat still_step
    still_call ((M.out.2.2.2.2.2.2 _).mono (fun _ _ h => ⟨h.1, h.2.symm⟩))
    repeat still_step
    refine wpStill_nil ?_
    change wpList _ _ _ _ _ (World.drew _)
    go_wp2_with fail
    clear o0 o1 o2
    go_meet
    exact ⟨rfl, shut (stt_upd4 hst.out _)⟩
  clear hst
  obtain ⟨rfl, hst⟩ := hcut
  have o0 := hst.out.c5; have o1 := hst.out.f5
  go_wp2_with fail
  exact Met.intro (hJ _ _ ⟨frx_of _ _ rfl, shut (stt_put5 hst.out _)⟩)
set_option maxRecDepth 100000 in
set_option maxHeartbeats 64000000 in
theorem rnd_1 {K : Act → World → Prop} {Q' : Exit → Act → World → Prop} (b o : Nat) (w wx : World) (m1 C1_0 C1_1 C1_2 C1_3 C1_4 z1_0 z1_1 z1_2 z1_3 z1_4 z1_5 z2_0 z2_1 z2_2 z2_3 z2_4 z2_5 : Int) (M : Shut (MontR z1_0 z1_1 z1_2 z1_3 z1_4 z1_5 m1 C1_0 C1_1 C1_2 C1_3 C1_4 z2_0 z2_1 z2_2 z2_3 z2_4 z2_5)) (hst : Shut (Stt b o w wx z1_0 z1_1 z1_2 z1_3 z1_4 z1_5)) (a : Act) (ha : Frx (.pointer (some ⟨b, o, none⟩)) a) (hK : ∀ a' w', Frx (.pointer (some ⟨b, o, none⟩)) a' ∧ Shut (Stt b o w w' z2_0 z2_1 z2_2 z2_3 z2_4 z2_5) → K a' w') : Code.wp Try.prog (hd (tl bd)) (Exit.then K Q') a wx := by
  refine wp_cut (fun a' w' => Frx (.pointer (some ⟨b, o, none⟩)) a' ∧ Shut (Stt b o w w' z2_0 z2_1 z2_2 z2_3 z2_4 z2_5)) hK ?_
  clear hK
  intro J K' hJ hK'
  obtain ⟨f, rfl⟩ := ha
  conv => arg 2; whnf
  have o0 := hst.out.c0; have o1 := M.out.1
  go_wp2_with fail
  clear o0 o1
  refine (M.out.2.1 _).mono ?_
  rintro e w' ⟨rfl, rfl⟩
  go_upto_region 10 with fail
  go_cut [5] from 106 to 118 (fun c wx => c = .int .u64 C1_1 ∧ Shut (Stt b o w wx z2_0 z1_1 z1_2 z1_3 z1_4 z1_5))
  case first =>
    have o0 := hst.out.c1; have o1 := hst.out.c0; have o2 := hst.out.f0
    refine wp_region_still_tail 14 (by kernel_rfl) (by kernel_rfl) ?_
    simp only [List.take_succ_cons, List.take_zero, List.drop_succ_cons, List.drop_zero]
    repeat still_step
    still_call ((M.out.2.2.1 _).mono (fun _ _ h => ⟨h.1, h.2.symm⟩))
    repeat still_step
    refine wpStill_nil ?_
    change wpList _ _ _ _ _ (World.drew _)
    go_wp2_with fail
    clear o0 o1 o2
    go_meet
    exact ⟨rfl, shut (stt_upd0 hst.out _)⟩
  clear hst
  obtain ⟨rfl, hst⟩ := hcut
  go_upto_region 11 with fail
  go_cut [5] from 119 to 131 (fun c wx => c = .int .u64 C1_2 ∧ Shut (Stt b o w wx z2_0 z2_1 z1_2 z1_3 z1_4 z1_5))
  case first =>
    have o0 := hst.out.c2; have o1 := hst.out.c1; have o2 := hst.out.f1
    refine wp_region_still_tail 14 (by kernel_rfl) (by kernel_rfl) ?_
    simp only [List.take_succ_cons, List.take_zero, List.drop_succ_cons, List.drop_zero]
    repeat still_step
    still_call ((M.out.2.2.2.1 _).mono (fun _ _ h => ⟨h.1, h.2.symm⟩))
    repeat still_step
    refine wpStill_nil ?_
    change wpList _ _ _ _ _ (World.drew _)
    go_wp2_with fail
    clear o0 o1 o2
    go_meet
    exact ⟨rfl, shut (stt_upd1 hst.out _)⟩
  clear hst
  obtain ⟨rfl, hst⟩ := hcut
  go_upto_region 12 with fail
  go_cut [5] from 132 to 144 (fun c wx => c = .int .u64 C1_3 ∧ Shut (Stt b o w wx z2_0 z2_1 z2_2 z1_3 z1_4 z1_5))
  case first =>
    have o0 := hst.out.c3; have o1 := hst.out.c2; have o2 := hst.out.f2
    refine wp_region_still_tail 14 (by kernel_rfl) (by kernel_rfl) ?_
    simp only [List.take_succ_cons, List.take_zero, List.drop_succ_cons, List.drop_zero]
    repeat still_step
    still_call ((M.out.2.2.2.2.1 _).mono (fun _ _ h => ⟨h.1, h.2.symm⟩))
    repeat still_step
    refine wpStill_nil ?_
    change wpList _ _ _ _ _ (World.drew _)
    go_wp2_with fail
    clear o0 o1 o2
    go_meet
    exact ⟨rfl, shut (stt_upd2 hst.out _)⟩
  clear hst
  obtain ⟨rfl, hst⟩ := hcut
  go_upto_region 13 with fail
  go_cut [5] from 145 to 157 (fun c wx => c = .int .u64 C1_4 ∧ Shut (Stt b o w wx z2_0 z2_1 z2_2 z2_3 z1_4 z1_5))
  case first =>
    have o0 := hst.out.c4; have o1 := hst.out.c3; have o2 := hst.out.f3
    refine wp_region_still_tail 14 (by kernel_rfl) (by kernel_rfl) ?_
    simp only [List.take_succ_cons, List.take_zero, List.drop_succ_cons, List.drop_zero]
    repeat still_step
    still_call ((M.out.2.2.2.2.2.1 _).mono (fun _ _ h => ⟨h.1, h.2.symm⟩))
    repeat still_step
    refine wpStill_nil ?_
    change wpList _ _ _ _ _ (World.drew _)
    go_wp2_with fail
    clear o0 o1 o2
    go_meet
    exact ⟨rfl, shut (stt_upd3 hst.out _)⟩
  clear hst
  obtain ⟨rfl, hst⟩ := hcut
  go_upto_region 14 with fail
  go_cut [5] from 158 to 170 (fun c wx => c = .int .u64 z2_5 ∧ Shut (Stt b o w wx z2_0 z2_1 z2_2 z2_3 z2_4 z1_5))
  case first =>
    have o0 := hst.out.c5; have o1 := hst.out.c4; have o2 := hst.out.f4
    refine wp_region_still_tail 14 (by kernel_rfl) (by kernel_rfl) ?_
    simp only [List.take_succ_cons, List.take_zero, List.drop_succ_cons, List.drop_zero]
    repeat still_step
    still_call ((M.out.2.2.2.2.2.2 _).mono (fun _ _ h => ⟨h.1, h.2.symm⟩))
    repeat still_step
    refine wpStill_nil ?_
    change wpList _ _ _ _ _ (World.drew _)
    go_wp2_with fail
    clear o0 o1 o2
    go_meet
    exact ⟨rfl, shut (stt_upd4 hst.out _)⟩
  clear hst
  obtain ⟨rfl, hst⟩ := hcut
  have o0 := hst.out.c5; have o1 := hst.out.f5
  go_wp2_with fail
  exact Met.intro (hJ _ _ ⟨frx_of _ _ rfl, shut (stt_put5 hst.out _)⟩)
set_option maxRecDepth 100000 in
set_option maxHeartbeats 64000000 in
theorem rnd_2 {K : Act → World → Prop} {Q' : Exit → Act → World → Prop} (b o : Nat) (w wx : World) (m2 C2_0 C2_1 C2_2 C2_3 C2_4 z2_0 z2_1 z2_2 z2_3 z2_4 z2_5 z3_0 z3_1 z3_2 z3_3 z3_4 z3_5 : Int) (M : Shut (MontR z2_0 z2_1 z2_2 z2_3 z2_4 z2_5 m2 C2_0 C2_1 C2_2 C2_3 C2_4 z3_0 z3_1 z3_2 z3_3 z3_4 z3_5)) (hst : Shut (Stt b o w wx z2_0 z2_1 z2_2 z2_3 z2_4 z2_5)) (a : Act) (ha : Frx (.pointer (some ⟨b, o, none⟩)) a) (hK : ∀ a' w', Frx (.pointer (some ⟨b, o, none⟩)) a' ∧ Shut (Stt b o w w' z3_0 z3_1 z3_2 z3_3 z3_4 z3_5) → K a' w') : Code.wp Try.prog (hd (tl (tl bd))) (Exit.then K Q') a wx := by
  refine wp_cut (fun a' w' => Frx (.pointer (some ⟨b, o, none⟩)) a' ∧ Shut (Stt b o w w' z3_0 z3_1 z3_2 z3_3 z3_4 z3_5)) hK ?_
  clear hK
  intro J K' hJ hK'
  obtain ⟨f, rfl⟩ := ha
  conv => arg 2; whnf
  have o0 := hst.out.c0; have o1 := M.out.1
  go_wp2_with fail
  clear o0 o1
  refine (M.out.2.1 _).mono ?_
  rintro e w' ⟨rfl, rfl⟩
  go_upto_region 18 with fail
  go_cut [7] from 186 to 198 (fun c wx => c = .int .u64 C2_1 ∧ Shut (Stt b o w wx z3_0 z2_1 z2_2 z2_3 z2_4 z2_5))
  case first =>
    have o0 := hst.out.c1; have o1 := hst.out.c0; have o2 := hst.out.f0
    refine wp_region_still_tail 14 (by kernel_rfl) (by kernel_rfl) ?_
    simp only [List.take_succ_cons, List.take_zero, List.drop_succ_cons, List.drop_zero]
    repeat still_step
    still_call ((M.out.2.2.1 _).mono (fun _ _ h => ⟨h.1, h.2.symm⟩))
    repeat still_step
    refine wpStill_nil ?_
    change wpList _ _ _ _ _ (World.drew _)
    go_wp2_with fail
    clear o0 o1 o2
    go_meet
    exact ⟨rfl, shut (stt_upd0 hst.out _)⟩
  clear hst
  obtain ⟨rfl, hst⟩ := hcut
  go_upto_region 19 with fail
  go_cut [7] from 199 to 211 (fun c wx => c = .int .u64 C2_2 ∧ Shut (Stt b o w wx z3_0 z3_1 z2_2 z2_3 z2_4 z2_5))
  case first =>
    have o0 := hst.out.c2; have o1 := hst.out.c1; have o2 := hst.out.f1
    refine wp_region_still_tail 14 (by kernel_rfl) (by kernel_rfl) ?_
    simp only [List.take_succ_cons, List.take_zero, List.drop_succ_cons, List.drop_zero]
    repeat still_step
    still_call ((M.out.2.2.2.1 _).mono (fun _ _ h => ⟨h.1, h.2.symm⟩))
    repeat still_step
    refine wpStill_nil ?_
    change wpList _ _ _ _ _ (World.drew _)
    go_wp2_with fail
    clear o0 o1 o2
    go_meet
    exact ⟨rfl, shut (stt_upd1 hst.out _)⟩
  clear hst
  obtain ⟨rfl, hst⟩ := hcut
  go_upto_region 20 with fail
  go_cut [7] from 212 to 224 (fun c wx => c = .int .u64 C2_3 ∧ Shut (Stt b o w wx z3_0 z3_1 z3_2 z2_3 z2_4 z2_5))
  case first =>
    have o0 := hst.out.c3; have o1 := hst.out.c2; have o2 := hst.out.f2
    refine wp_region_still_tail 14 (by kernel_rfl) (by kernel_rfl) ?_
    simp only [List.take_succ_cons, List.take_zero, List.drop_succ_cons, List.drop_zero]
    repeat still_step
    still_call ((M.out.2.2.2.2.1 _).mono (fun _ _ h => ⟨h.1, h.2.symm⟩))
    repeat still_step
    refine wpStill_nil ?_
    change wpList _ _ _ _ _ (World.drew _)
    go_wp2_with fail
    clear o0 o1 o2
    go_meet
    exact ⟨rfl, shut (stt_upd2 hst.out _)⟩
  clear hst
  obtain ⟨rfl, hst⟩ := hcut
  go_upto_region 21 with fail
  go_cut [7] from 225 to 237 (fun c wx => c = .int .u64 C2_4 ∧ Shut (Stt b o w wx z3_0 z3_1 z3_2 z3_3 z2_4 z2_5))
  case first =>
    have o0 := hst.out.c4; have o1 := hst.out.c3; have o2 := hst.out.f3
    refine wp_region_still_tail 14 (by kernel_rfl) (by kernel_rfl) ?_
    simp only [List.take_succ_cons, List.take_zero, List.drop_succ_cons, List.drop_zero]
    repeat still_step
    still_call ((M.out.2.2.2.2.2.1 _).mono (fun _ _ h => ⟨h.1, h.2.symm⟩))
    repeat still_step
    refine wpStill_nil ?_
    change wpList _ _ _ _ _ (World.drew _)
    go_wp2_with fail
    clear o0 o1 o2
    go_meet
    exact ⟨rfl, shut (stt_upd3 hst.out _)⟩
  clear hst
  obtain ⟨rfl, hst⟩ := hcut
  go_upto_region 22 with fail
  go_cut [7] from 238 to 250 (fun c wx => c = .int .u64 z3_5 ∧ Shut (Stt b o w wx z3_0 z3_1 z3_2 z3_3 z3_4 z2_5))
  case first =>
    have o0 := hst.out.c5; have o1 := hst.out.c4; have o2 := hst.out.f4
    refine wp_region_still_tail 14 (by kernel_rfl) (by kernel_rfl) ?_
    simp only [List.take_succ_cons, List.take_zero, List.drop_succ_cons, List.drop_zero]
    repeat still_step
    still_call ((M.out.2.2.2.2.2.2 _).mono (fun _ _ h => ⟨h.1, h.2.symm⟩))
    repeat still_step
    refine wpStill_nil ?_
    change wpList _ _ _ _ _ (World.drew _)
    go_wp2_with fail
    clear o0 o1 o2
    go_meet
    exact ⟨rfl, shut (stt_upd4 hst.out _)⟩
  clear hst
  obtain ⟨rfl, hst⟩ := hcut
  have o0 := hst.out.c5; have o1 := hst.out.f5
  go_wp2_with fail
  exact Met.intro (hJ _ _ ⟨frx_of _ _ rfl, shut (stt_put5 hst.out _)⟩)
set_option maxRecDepth 100000 in
set_option maxHeartbeats 64000000 in
theorem rnd_3 {K : Act → World → Prop} {Q' : Exit → Act → World → Prop} (b o : Nat) (w wx : World) (m3 C3_0 C3_1 C3_2 C3_3 C3_4 z3_0 z3_1 z3_2 z3_3 z3_4 z3_5 z4_0 z4_1 z4_2 z4_3 z4_4 z4_5 : Int) (M : Shut (MontR z3_0 z3_1 z3_2 z3_3 z3_4 z3_5 m3 C3_0 C3_1 C3_2 C3_3 C3_4 z4_0 z4_1 z4_2 z4_3 z4_4 z4_5)) (hst : Shut (Stt b o w wx z3_0 z3_1 z3_2 z3_3 z3_4 z3_5)) (a : Act) (ha : Frx (.pointer (some ⟨b, o, none⟩)) a) (hK : ∀ a' w', Frx (.pointer (some ⟨b, o, none⟩)) a' ∧ Shut (Stt b o w w' z4_0 z4_1 z4_2 z4_3 z4_4 z4_5) → K a' w') : Code.wp Try.prog (hd (tl (tl (tl bd)))) (Exit.then K Q') a wx := by
  refine wp_cut (fun a' w' => Frx (.pointer (some ⟨b, o, none⟩)) a' ∧ Shut (Stt b o w w' z4_0 z4_1 z4_2 z4_3 z4_4 z4_5)) hK ?_
  clear hK
  intro J K' hJ hK'
  obtain ⟨f, rfl⟩ := ha
  conv => arg 2; whnf
  have o0 := hst.out.c0; have o1 := M.out.1
  go_wp2_with fail
  clear o0 o1
  refine (M.out.2.1 _).mono ?_
  rintro e w' ⟨rfl, rfl⟩
  go_upto_region 26 with fail
  go_cut [9] from 266 to 278 (fun c wx => c = .int .u64 C3_1 ∧ Shut (Stt b o w wx z4_0 z3_1 z3_2 z3_3 z3_4 z3_5))
  case first =>
    have o0 := hst.out.c1; have o1 := hst.out.c0; have o2 := hst.out.f0
    refine wp_region_still_tail 14 (by kernel_rfl) (by kernel_rfl) ?_
    simp only [List.take_succ_cons, List.take_zero, List.drop_succ_cons, List.drop_zero]
    repeat still_step
    still_call ((M.out.2.2.1 _).mono (fun _ _ h => ⟨h.1, h.2.symm⟩))
    repeat still_step
    refine wpStill_nil ?_
    change wpList _ _ _ _ _ (World.drew _)
    go_wp2_with fail
    clear o0 o1 o2
    go_meet
    exact ⟨rfl, shut (stt_upd0 hst.out _)⟩
  clear hst
  obtain ⟨rfl, hst⟩ := hcut
  go_upto_region 27 with fail
  go_cut [9] from 279 to 291 (fun c wx => c = .int .u64 C3_2 ∧ Shut (Stt b o w wx z4_0 z4_1 z3_2 z3_3 z3_4 z3_5))
  case first =>
    have o0 := hst.out.c2; have o1 := hst.out.c1; have o2 := hst.out.f1
    refine wp_region_still_tail 14 (by kernel_rfl) (by kernel_rfl) ?_
    simp only [List.take_succ_cons, List.take_zero, List.drop_succ_cons, List.drop_zero]
    repeat still_step
    still_call ((M.out.2.2.2.1 _).mono (fun _ _ h => ⟨h.1, h.2.symm⟩))
    repeat still_step
    refine wpStill_nil ?_
    change wpList _ _ _ _ _ (World.drew _)
    go_wp2_with fail
    clear o0 o1 o2
    go_meet
    exact ⟨rfl, shut (stt_upd1 hst.out _)⟩
  clear hst
  obtain ⟨rfl, hst⟩ := hcut
  go_upto_region 28 with fail
  go_cut [9] from 292 to 304 (fun c wx => c = .int .u64 C3_3 ∧ Shut (Stt b o w wx z4_0 z4_1 z4_2 z3_3 z3_4 z3_5))
  case first =>
    have o0 := hst.out.c3; have o1 := hst.out.c2; have o2 := hst.out.f2
    refine wp_region_still_tail 14 (by kernel_rfl) (by kernel_rfl) ?_
    simp only [List.take_succ_cons, List.take_zero, List.drop_succ_cons, List.drop_zero]
    repeat still_step
    still_call ((M.out.2.2.2.2.1 _).mono (fun _ _ h => ⟨h.1, h.2.symm⟩))
    repeat still_step
    refine wpStill_nil ?_
    change wpList _ _ _ _ _ (World.drew _)
    go_wp2_with fail
    clear o0 o1 o2
    go_meet
    exact ⟨rfl, shut (stt_upd2 hst.out _)⟩
  clear hst
  obtain ⟨rfl, hst⟩ := hcut
  go_upto_region 29 with fail
  go_cut [9] from 305 to 317 (fun c wx => c = .int .u64 C3_4 ∧ Shut (Stt b o w wx z4_0 z4_1 z4_2 z4_3 z3_4 z3_5))
  case first =>
    have o0 := hst.out.c4; have o1 := hst.out.c3; have o2 := hst.out.f3
    refine wp_region_still_tail 14 (by kernel_rfl) (by kernel_rfl) ?_
    simp only [List.take_succ_cons, List.take_zero, List.drop_succ_cons, List.drop_zero]
    repeat still_step
    still_call ((M.out.2.2.2.2.2.1 _).mono (fun _ _ h => ⟨h.1, h.2.symm⟩))
    repeat still_step
    refine wpStill_nil ?_
    change wpList _ _ _ _ _ (World.drew _)
    go_wp2_with fail
    clear o0 o1 o2
    go_meet
    exact ⟨rfl, shut (stt_upd3 hst.out _)⟩
  clear hst
  obtain ⟨rfl, hst⟩ := hcut
  go_upto_region 30 with fail
  go_cut [9] from 318 to 330 (fun c wx => c = .int .u64 z4_5 ∧ Shut (Stt b o w wx z4_0 z4_1 z4_2 z4_3 z4_4 z3_5))
  case first =>
    have o0 := hst.out.c5; have o1 := hst.out.c4; have o2 := hst.out.f4
    refine wp_region_still_tail 14 (by kernel_rfl) (by kernel_rfl) ?_
    simp only [List.take_succ_cons, List.take_zero, List.drop_succ_cons, List.drop_zero]
    repeat still_step
    still_call ((M.out.2.2.2.2.2.2 _).mono (fun _ _ h => ⟨h.1, h.2.symm⟩))
    repeat still_step
    refine wpStill_nil ?_
    change wpList _ _ _ _ _ (World.drew _)
    go_wp2_with fail
    clear o0 o1 o2
    go_meet
    exact ⟨rfl, shut (stt_upd4 hst.out _)⟩
  clear hst
  obtain ⟨rfl, hst⟩ := hcut
  have o0 := hst.out.c5; have o1 := hst.out.f5
  go_wp2_with fail
  exact Met.intro (hJ _ _ ⟨frx_of _ _ rfl, shut (stt_put5 hst.out _)⟩)
set_option maxRecDepth 100000 in
set_option maxHeartbeats 64000000 in
theorem rnd_4 {K : Act → World → Prop} {Q' : Exit → Act → World → Prop} (b o : Nat) (w wx : World) (m4 C4_0 C4_1 C4_2 C4_3 C4_4 z4_0 z4_1 z4_2 z4_3 z4_4 z4_5 z5_0 z5_1 z5_2 z5_3 z5_4 z5_5 : Int) (M : Shut (MontR z4_0 z4_1 z4_2 z4_3 z4_4 z4_5 m4 C4_0 C4_1 C4_2 C4_3 C4_4 z5_0 z5_1 z5_2 z5_3 z5_4 z5_5)) (hst : Shut (Stt b o w wx z4_0 z4_1 z4_2 z4_3 z4_4 z4_5)) (a : Act) (ha : Frx (.pointer (some ⟨b, o, none⟩)) a) (hK : ∀ a' w', Frx (.pointer (some ⟨b, o, none⟩)) a' ∧ Shut (Stt b o w w' z5_0 z5_1 z5_2 z5_3 z5_4 z5_5) → K a' w') : Code.wp Try.prog (hd (tl (tl (tl (tl bd))))) (Exit.then K Q') a wx := by
  refine wp_cut (fun a' w' => Frx (.pointer (some ⟨b, o, none⟩)) a' ∧ Shut (Stt b o w w' z5_0 z5_1 z5_2 z5_3 z5_4 z5_5)) hK ?_
  clear hK
  intro J K' hJ hK'
  obtain ⟨f, rfl⟩ := ha
  conv => arg 2; whnf
  have o0 := hst.out.c0; have o1 := M.out.1
  go_wp2_with fail
  clear o0 o1
  refine (M.out.2.1 _).mono ?_
  rintro e w' ⟨rfl, rfl⟩
  go_upto_region 34 with fail
  go_cut [11] from 346 to 358 (fun c wx => c = .int .u64 C4_1 ∧ Shut (Stt b o w wx z5_0 z4_1 z4_2 z4_3 z4_4 z4_5))
  case first =>
    have o0 := hst.out.c1; have o1 := hst.out.c0; have o2 := hst.out.f0
    refine wp_region_still_tail 14 (by kernel_rfl) (by kernel_rfl) ?_
    simp only [List.take_succ_cons, List.take_zero, List.drop_succ_cons, List.drop_zero]
    repeat still_step
    still_call ((M.out.2.2.1 _).mono (fun _ _ h => ⟨h.1, h.2.symm⟩))
    repeat still_step
    refine wpStill_nil ?_
    change wpList _ _ _ _ _ (World.drew _)
    go_wp2_with fail
    clear o0 o1 o2
    go_meet
    exact ⟨rfl, shut (stt_upd0 hst.out _)⟩
  clear hst
  obtain ⟨rfl, hst⟩ := hcut
  go_upto_region 35 with fail
  go_cut [11] from 359 to 371 (fun c wx => c = .int .u64 C4_2 ∧ Shut (Stt b o w wx z5_0 z5_1 z4_2 z4_3 z4_4 z4_5))
  case first =>
    have o0 := hst.out.c2; have o1 := hst.out.c1; have o2 := hst.out.f1
    refine wp_region_still_tail 14 (by kernel_rfl) (by kernel_rfl) ?_
    simp only [List.take_succ_cons, List.take_zero, List.drop_succ_cons, List.drop_zero]
    repeat still_step
    still_call ((M.out.2.2.2.1 _).mono (fun _ _ h => ⟨h.1, h.2.symm⟩))
    repeat still_step
    refine wpStill_nil ?_
    change wpList _ _ _ _ _ (World.drew _)
    go_wp2_with fail
    clear o0 o1 o2
    go_meet
    exact ⟨rfl, shut (stt_upd1 hst.out _)⟩
  clear hst
  obtain ⟨rfl, hst⟩ := hcut
  go_upto_region 36 with fail
  go_cut [11] from 372 to 384 (fun c wx => c = .int .u64 C4_3 ∧ Shut (Stt b o w wx z5_0 z5_1 z5_2 z4_3 z4_4 z4_5))
  case first =>
    have o0 := hst.out.c3; have o1 := hst.out.c2; have o2 := hst.out.f2
    refine wp_region_still_tail 14 (by kernel_rfl) (by kernel_rfl) ?_
    simp only [List.take_succ_cons, List.take_zero, List.drop_succ_cons, List.drop_zero]
    repeat still_step
    still_call ((M.out.2.2.2.2.1 _).mono (fun _ _ h => ⟨h.1, h.2.symm⟩))
    repeat still_step
    refine wpStill_nil ?_
    change wpList _ _ _ _ _ (World.drew _)
    go_wp2_with fail
    clear o0 o1 o2
    go_meet
    exact ⟨rfl, shut (stt_upd2 hst.out _)⟩
  clear hst
  obtain ⟨rfl, hst⟩ := hcut
  go_upto_region 37 with fail
  go_cut [11] from 385 to 397 (fun c wx => c = .int .u64 C4_4 ∧ Shut (Stt b o w wx z5_0 z5_1 z5_2 z5_3 z4_4 z4_5))
  case first =>
    have o0 := hst.out.c4; have o1 := hst.out.c3; have o2 := hst.out.f3
    refine wp_region_still_tail 14 (by kernel_rfl) (by kernel_rfl) ?_
    simp only [List.take_succ_cons, List.take_zero, List.drop_succ_cons, List.drop_zero]
    repeat still_step
    still_call ((M.out.2.2.2.2.2.1 _).mono (fun _ _ h => ⟨h.1, h.2.symm⟩))
    repeat still_step
    refine wpStill_nil ?_
    change wpList _ _ _ _ _ (World.drew _)
    go_wp2_with fail
    clear o0 o1 o2
    go_meet
    exact ⟨rfl, shut (stt_upd3 hst.out _)⟩
  clear hst
  obtain ⟨rfl, hst⟩ := hcut
  go_upto_region 38 with fail
  go_cut [11] from 398 to 410 (fun c wx => c = .int .u64 z5_5 ∧ Shut (Stt b o w wx z5_0 z5_1 z5_2 z5_3 z5_4 z4_5))
  case first =>
    have o0 := hst.out.c5; have o1 := hst.out.c4; have o2 := hst.out.f4
    refine wp_region_still_tail 14 (by kernel_rfl) (by kernel_rfl) ?_
    simp only [List.take_succ_cons, List.take_zero, List.drop_succ_cons, List.drop_zero]
    repeat still_step
    still_call ((M.out.2.2.2.2.2.2 _).mono (fun _ _ h => ⟨h.1, h.2.symm⟩))
    repeat still_step
    refine wpStill_nil ?_
    change wpList _ _ _ _ _ (World.drew _)
    go_wp2_with fail
    clear o0 o1 o2
    go_meet
    exact ⟨rfl, shut (stt_upd4 hst.out _)⟩
  clear hst
  obtain ⟨rfl, hst⟩ := hcut
  have o0 := hst.out.c5; have o1 := hst.out.f5
  go_wp2_with fail
  exact Met.intro (hJ _ _ ⟨frx_of _ _ rfl, shut (stt_put5 hst.out _)⟩)
set_option maxRecDepth 100000 in
set_option maxHeartbeats 64000000 in
theorem rnd_5 {K : Act → World → Prop} {Q' : Exit → Act → World → Prop} (b o : Nat) (w wx : World) (m5 C5_0 C5_1 C5_2 C5_3 C5_4 z5_0 z5_1 z5_2 z5_3 z5_4 z5_5 z6_0 z6_1 z6_2 z6_3 z6_4 z6_5 : Int) (M : Shut (MontR z5_0 z5_1 z5_2 z5_3 z5_4 z5_5 m5 C5_0 C5_1 C5_2 C5_3 C5_4 z6_0 z6_1 z6_2 z6_3 z6_4 z6_5)) (hst : Shut (Stt b o w wx z5_0 z5_1 z5_2 z5_3 z5_4 z5_5)) (a : Act) (ha : Frx (.pointer (some ⟨b, o, none⟩)) a) (hK : ∀ a' w', Frx (.pointer (some ⟨b, o, none⟩)) a' ∧ Shut (Stt b o w w' z6_0 z6_1 z6_2 z6_3 z6_4 z6_5) → K a' w') : Code.wp Try.prog (hd (tl (tl (tl (tl (tl bd)))))) (Exit.then K Q') a wx := by
  refine wp_cut (fun a' w' => Frx (.pointer (some ⟨b, o, none⟩)) a' ∧ Shut (Stt b o w w' z6_0 z6_1 z6_2 z6_3 z6_4 z6_5)) hK ?_
  clear hK
  intro J K' hJ hK'
  obtain ⟨f, rfl⟩ := ha
  conv => arg 2; whnf
  have o0 := hst.out.c0; have o1 := M.out.1
  go_wp2_with fail
  clear o0 o1
  refine (M.out.2.1 _).mono ?_
  rintro e w' ⟨rfl, rfl⟩
  go_upto_region 42 with fail
  go_cut [13] from 426 to 438 (fun c wx => c = .int .u64 C5_1 ∧ Shut (Stt b o w wx z6_0 z5_1 z5_2 z5_3 z5_4 z5_5))
  case first =>
    have o0 := hst.out.c1; have o1 := hst.out.c0; have o2 := hst.out.f0
    refine wp_region_still_tail 14 (by kernel_rfl) (by kernel_rfl) ?_
    simp only [List.take_succ_cons, List.take_zero, List.drop_succ_cons, List.drop_zero]
    repeat still_step
    still_call ((M.out.2.2.1 _).mono (fun _ _ h => ⟨h.1, h.2.symm⟩))
    repeat still_step
    refine wpStill_nil ?_
    change wpList _ _ _ _ _ (World.drew _)
    go_wp2_with fail
    clear o0 o1 o2
    go_meet
    exact ⟨rfl, shut (stt_upd0 hst.out _)⟩
  clear hst
  obtain ⟨rfl, hst⟩ := hcut
  go_upto_region 43 with fail
  go_cut [13] from 439 to 451 (fun c wx => c = .int .u64 C5_2 ∧ Shut (Stt b o w wx z6_0 z6_1 z5_2 z5_3 z5_4 z5_5))
  case first =>
    have o0 := hst.out.c2; have o1 := hst.out.c1; have o2 := hst.out.f1
    refine wp_region_still_tail 14 (by kernel_rfl) (by kernel_rfl) ?_
    simp only [List.take_succ_cons, List.take_zero, List.drop_succ_cons, List.drop_zero]
    repeat still_step
    still_call ((M.out.2.2.2.1 _).mono (fun _ _ h => ⟨h.1, h.2.symm⟩))
    repeat still_step
    refine wpStill_nil ?_
    change wpList _ _ _ _ _ (World.drew _)
    go_wp2_with fail
    clear o0 o1 o2
    go_meet
    exact ⟨rfl, shut (stt_upd1 hst.out _)⟩
  clear hst
  obtain ⟨rfl, hst⟩ := hcut
  go_upto_region 44 with fail
  go_cut [13] from 452 to 464 (fun c wx => c = .int .u64 C5_3 ∧ Shut (Stt b o w wx z6_0 z6_1 z6_2 z5_3 z5_4 z5_5))
  case first =>
    have o0 := hst.out.c3; have o1 := hst.out.c2; have o2 := hst.out.f2
    refine wp_region_still_tail 14 (by kernel_rfl) (by kernel_rfl) ?_
    simp only [List.take_succ_cons, List.take_zero, List.drop_succ_cons, List.drop_zero]
    repeat still_step
    still_call ((M.out.2.2.2.2.1 _).mono (fun _ _ h => ⟨h.1, h.2.symm⟩))
    repeat still_step
    refine wpStill_nil ?_
    change wpList _ _ _ _ _ (World.drew _)
    go_wp2_with fail
    clear o0 o1 o2
    go_meet
    exact ⟨rfl, shut (stt_upd2 hst.out _)⟩
  clear hst
  obtain ⟨rfl, hst⟩ := hcut
  go_upto_region 45 with fail
  go_cut [13] from 465 to 477 (fun c wx => c = .int .u64 C5_4 ∧ Shut (Stt b o w wx z6_0 z6_1 z6_2 z6_3 z5_4 z5_5))
  case first =>
    have o0 := hst.out.c4; have o1 := hst.out.c3; have o2 := hst.out.f3
    refine wp_region_still_tail 14 (by kernel_rfl) (by kernel_rfl) ?_
    simp only [List.take_succ_cons, List.take_zero, List.drop_succ_cons, List.drop_zero]
    repeat still_step
    still_call ((M.out.2.2.2.2.2.1 _).mono (fun _ _ h => ⟨h.1, h.2.symm⟩))
    repeat still_step
    refine wpStill_nil ?_
    change wpList _ _ _ _ _ (World.drew _)
    go_wp2_with fail
    clear o0 o1 o2
    go_meet
    exact ⟨rfl, shut (stt_upd3 hst.out _)⟩
  clear hst
  obtain ⟨rfl, hst⟩ := hcut
  go_upto_region 46 with fail
  go_cut [13] from 478 to 490 (fun c wx => c = .int .u64 z6_5 ∧ Shut (Stt b o w wx z6_0 z6_1 z6_2 z6_3 z6_4 z5_5))
  case first =>
    have o0 := hst.out.c5; have o1 := hst.out.c4; have o2 := hst.out.f4
    refine wp_region_still_tail 14 (by kernel_rfl) (by kernel_rfl) ?_
    simp only [List.take_succ_cons, List.take_zero, List.drop_succ_cons, List.drop_zero]
    repeat still_step
    still_call ((M.out.2.2.2.2.2.2 _).mono (fun _ _ h => ⟨h.1, h.2.symm⟩))
    repeat still_step
    refine wpStill_nil ?_
    change wpList _ _ _ _ _ (World.drew _)
    go_wp2_with fail
    clear o0 o1 o2
    go_meet
    exact ⟨rfl, shut (stt_upd4 hst.out _)⟩
  clear hst
  obtain ⟨rfl, hst⟩ := hcut
  have o0 := hst.out.c5; have o1 := hst.out.f5
  go_wp2_with fail
  exact Met.intro (hJ _ _ ⟨frx_of _ _ rfl, shut (stt_put5 hst.out _)⟩)
set_option maxRecDepth 100000 in
set_option maxHeartbeats 64000000 in
theorem frommont_t (b o : Nat) (z0_0 z0_1 z0_2 z0_3 z0_4 z0_5 : Int) (w : World) (hX : num z0_0 z0_1 z0_2 z0_3 z0_4 z0_5 < 4002409555221667393417789825735904156556882819939007885332058136124031650490837864442687629129015664037894272559787) (g0_0 : Wd z0_0) (g0_1 : Wd z0_1) (g0_2 : Wd z0_2) (g0_3 : Wd z0_3) (g0_4 : Wd z0_4) (g0_5 : Wd z0_5) (h0_0 : w.cell? ⟨b, o, none⟩ = some (.int .u64 z0_0)) (h0_1 : w.cell? ⟨b, o + 1, none⟩ = some (.int .u64 z0_1)) (h0_2 : w.cell? ⟨b, o + 2, none⟩ = some (.int .u64 z0_2)) (h0_3 : w.cell? ⟨b, o + 3, none⟩ = some (.int .u64 z0_3)) (h0_4 : w.cell? ⟨b, o + 4, none⟩ = some (.int .u64 z0_4)) (h0_5 : w.cell? ⟨b, o + 5, none⟩ = some (.int .u64 z0_5)) (f0_0 : w.frozen? ⟨b, o, none⟩ = false) (f0_1 : w.frozen? ⟨b, o + 1, none⟩ = false) (f0_2 : w.frozen? ⟨b, o + 2, none⟩ = false) (f0_3 : w.frozen? ⟨b, o + 3, none⟩ = false) (f0_4 : w.frozen? ⟨b, o + 4, none⟩ = false) (f0_5 : w.frozen? ⟨b, o + 5, none⟩ = false) :
    Calls Try.prog 33 #[.pointer (some ⟨b, o, none⟩)] w (Montd b o w (num z0_0 z0_1 z0_2 z0_3 z0_4 z0_5)) := by
  have G0 := (show Wd z0_0 ∧ Wd z0_1 ∧ Wd z0_2 ∧ Wd z0_3 ∧ Wd z0_4 ∧ Wd z0_5 from ⟨g0_0, g0_1, g0_2, g0_3, g0_4, g0_5⟩)
  obtain ⟨m0, C0_0, C0_1, C0_2, C0_3, C0_4, z1_0, z1_1, z1_2, z1_3, z1_4, z1_5, M, G1, h, e0⟩ := mont_rnd z0_0 z0_1 z0_2 z0_3 z0_4 z0_5 (G0.1) (G0.2.1) (G0.2.2.1) (G0.2.2.2.1) (G0.2.2.2.2.1) (G0.2.2.2.2.2) hX
  have M0 := shut M; clear M
  clear G0 hX
  obtain ⟨m1, C1_0, C1_1, C1_2, C1_3, C1_4, z2_0, z2_1, z2_2, z2_3, z2_4, z2_5, M, G2, h, e1⟩ := mont_rnd z1_0 z1_1 z1_2 z1_3 z1_4 z1_5 (G1.1) (G1.2.1) (G1.2.2.1) (G1.2.2.2.1) (G1.2.2.2.2.1) (G1.2.2.2.2.2) h
  have M1 := shut M; clear M
  clear G1
  obtain ⟨m2, C2_0, C2_1, C2_2, C2_3, C2_4, z3_0, z3_1, z3_2, z3_3, z3_4, z3_5, M, G3, h, e2⟩ := mont_rnd z2_0 z2_1 z2_2 z2_3 z2_4 z2_5 (G2.1) (G2.2.1) (G2.2.2.1) (G2.2.2.2.1) (G2.2.2.2.2.1) (G2.2.2.2.2.2) h
  have M2 := shut M; clear M
  clear G2
  obtain ⟨m3, C3_0, C3_1, C3_2, C3_3, C3_4, z4_0, z4_1, z4_2, z4_3, z4_4, z4_5, M, G4, h, e3⟩ := mont_rnd z3_0 z3_1 z3_2 z3_3 z3_4 z3_5 (G3.1) (G3.2.1) (G3.2.2.1) (G3.2.2.2.1) (G3.2.2.2.2.1) (G3.2.2.2.2.2) h
  have M3 := shut M; clear M
  clear G3
  obtain ⟨m4, C4_0, C4_1, C4_2, C4_3, C4_4, z5_0, z5_1, z5_2, z5_3, z5_4, z5_5, M, G5, h, e4⟩ := mont_rnd z4_0 z4_1 z4_2 z4_3 z4_4 z4_5 (G4.1) (G4.2.1) (G4.2.2.1) (G4.2.2.2.1) (G4.2.2.2.2.1) (G4.2.2.2.2.2) h
  have M4 := shut M; clear M
  clear G4
  obtain ⟨m5, C5_0, C5_1, C5_2, C5_3, C5_4, z6_0, z6_1, z6_2, z6_3, z6_4, z6_5, M, G6, h, e5⟩ := mont_rnd z5_0 z5_1 z5_2 z5_3 z5_4 z5_5 (G5.1) (G5.2.1) (G5.2.2.1) (G5.2.2.2.1) (G5.2.2.2.2.1) (G5.2.2.2.2.2) h
  have M5 := shut M; clear M
  clear G5
  have HS := shut (And.intro G6 (And.intro h (mont_sum e0 e1 e2 e3 e4 e5)))
  clear G6 h e0 e1 e2 e3 e4 e5
  have hst : Shut (Stt b o w w z0_0 z0_1 z0_2 z0_3 z0_4 z0_5) := shut ⟨h0_0, h0_1, h0_2, h0_3, h0_4, h0_5, f0_0, f0_1, f0_2, f0_3, f0_4, f0_5, Turns.refl b w⟩
  clear g0_0 g0_1 g0_2 g0_3 g0_4 g0_5 h0_0 h0_1 h0_2 h0_3 h0_4 h0_5 f0_0 f0_1 f0_2 f0_3 f0_4 f0_5
  have ht : decide (num z6_0 z6_1 z6_2 z6_3 z6_4 z6_5 < 4002409555221667393417789825735904156556882819939007885332058136124031650490837864442687629129015664037894272559787) = true := by have := HS.out.2.1; simpa using this
  have HT := shut ht; clear ht
  go_enter Try.func33, Try.ntmps33
  refine wp_seq ?_
  refine rnd_0 b o w _ _ _ _ _ _ _ _ _ _ _ _ _ _ _ _ _ _ _ M0 hst _ (frx_of _ _ rfl) ?_
  clear hst
  rintro a0 w0 ⟨hfr, hst⟩
  refine wp_seq ?_
  refine rnd_1 b o w _ _ _ _ _ _ _ _ _ _ _ _ _ _ _ _ _ _ _ M1 hst _ hfr ?_
  clear hst hfr
  rintro a1 w1 ⟨hfr, hst⟩
  refine wp_seq ?_
  refine rnd_2 b o w _ _ _ _ _ _ _ _ _ _ _ _ _ _ _ _ _ _ _ M2 hst _ hfr ?_
  clear hst hfr
  rintro a2 w2 ⟨hfr, hst⟩
  refine wp_seq ?_
  refine rnd_3 b o w _ _ _ _ _ _ _ _ _ _ _ _ _ _ _ _ _ _ _ M3 hst _ hfr ?_
  clear hst hfr
  rintro a3 w3 ⟨hfr, hst⟩
  refine wp_seq ?_
  refine rnd_4 b o w _ _ _ _ _ _ _ _ _ _ _ _ _ _ _ _ _ _ _ M4 hst _ hfr ?_
  clear hst hfr
  rintro a4 w4 ⟨hfr, hst⟩
  refine wp_seq ?_
  refine rnd_5 b o w _ _ _ _ _ _ _ _ _ _ _ _ _ _ _ _ _ _ _ M5 hst _ hfr ?_
  clear hst hfr
  rintro a5 w5 ⟨hfr, hst⟩
  obtain ⟨f, rfl⟩ := hfr
  have hsm := HS.out.1
  go_wp2_with fail
  refine (small_any b o z6_0 z6_1 z6_2 z6_3 z6_4 z6_5 _ (hsm.1) (hsm.2.1) (hsm.2.2.1) (hsm.2.2.2.1) (hsm.2.2.2.2.1) (hsm.2.2.2.2.2) hst.out.c0 hst.out.c1 hst.out.c2 hst.out.c3 hst.out.c4 hst.out.c5).mono ?_
  rintro e w' ⟨rfl, rfl⟩
  clear hsm
  have ht := HT.out
  go_wp2_with fail
  go_end0
  exact ⟨rfl, z6_0, z6_1, z6_2, z6_3, z6_4, z6_5, HS.out.1, HS.out.2.1, HS.out.2.2, ⟨hst.out.c0, hst.out.c1, hst.out.c2, hst.out.c3, hst.out.c4, hst.out.c5⟩, hst.out.t⟩
end Go.Proofs.Ytfdmgelaiigocaa
