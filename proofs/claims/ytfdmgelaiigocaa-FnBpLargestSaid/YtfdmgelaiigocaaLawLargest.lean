/- The law on the larger of an element and its opposite: its walk. -/
import Derived.Test.YtfdmgelaiigocaaLargest
import Derived.Deep.DeepCutAuto
import Derived.Deep.RegionWith
namespace Go.Proofs.Ytfdmgelaiigocaa
open Go.RowKit Num

set_option maxRecDepth 100000 in
set_option maxHeartbeats 6400000 in
theorem law_largest (X : Nat) (hX : X < 39402006196394479212279040100143613805079739270465446667948293404245721771497210611414266254884915640806627990306816) (w : World) : Calls Try.prog 3 #[el X] w (Keeps w (.bool true)) := by
  have CX : Cells (w.alloc (.cells #[.int .u64 (wd (X) 0 : Nat), .int .u64 (wd (X) 1 : Nat), .int .u64 (wd (X) 2 : Nat), .int .u64 (wd (X) 3 : Nat), .int .u64 (wd (X) 4 : Nat), .int .u64 (wd (X) 5 : Nat)] 23)) (w.heap.size) 0 6 X := by have := (own_new w X 23).cells; simpa using this
  have HC := shut (CX); clear CX
  have HN : Shut (Now (w.heap.size + 1) (w.alloc (.cells #[.int .u64 (wd (X) 0 : Nat), .int .u64 (wd (X) 1 : Nat), .int .u64 (wd (X) 2 : Nat), .int .u64 (wd (X) 3 : Nat), .int .u64 (wd (X) 4 : Nat), .int .u64 (wd (X) 5 : Nat)] 23)) (w.alloc (.cells #[.int .u64 (wd (X) 0 : Nat), .int .u64 (wd (X) 1 : Nat), .int .u64 (wd (X) 2 : Nat), .int .u64 (wd (X) 3 : Nat), .int .u64 (wd (X) 4 : Nat), .int .u64 (wd (X) 5 : Nat)] 23)) ∧ Below w.heap.size w (w.alloc (.cells #[.int .u64 (wd (X) 0 : Nat), .int .u64 (wd (X) 1 : Nat), .int .u64 (wd (X) 2 : Nat), .int .u64 (wd (X) 3 : Nat), .int .u64 (wd (X) 4 : Nat), .int .u64 (wd (X) 5 : Nat)] 23))) := shut ⟨Now.start (by simp), (Below.refl _ _).alloc (by simp <;> omega) _⟩
  have HXY := shut (hX); clear hX
  unfold el
  go_enter Try.func3, Try.ntmps3
  go_upto_region 1 with fail
  generalize hW : (w.alloc (.cells #[.int .u64 (wd (X) 0 : Nat), .int .u64 (wd (X) 1 : Nat), .int .u64 (wd (X) 2 : Nat), .int .u64 (wd (X) 3 : Nat), .int .u64 (wd (X) 4 : Nat), .int .u64 (wd (X) 5 : Nat)] 23)) = W0 at *
  have HW := shut hW; clear hW
  go_cut [6] (fun s6 wc => s6 = .bool (!decide (X < 4002409555221667393417789825735904156556882819939007885332058136124031650490837864442687629129015664037894272559787)) ∧ Now (w.heap.size + 1) W0 wc)
  case first =>
    by_cases hx0 : X < 4002409555221667393417789825735904156556882819939007885332058136124031650490837864442687629129015664037894272559787
    · have ex0 : decide (X < 4002409555221667393417789825735904156556882819939007885332058136124031650490837864442687629129015664037894272559787) = true := by simpa using hx0
      clear hx0
      first | (go_region_with (first | (go_at_call 6; refine (prime_any _).mono ?_; rintro e w1 ⟨b1, rfl, hb1, ho1, hl1⟩; have g1 := shut (And.intro ho1 (HN.out.1.drew.call hl1)); clear hb1 ho1 hl1) | (go_at_call 5; refine (less_any (w.heap.size) 0 6 b1 0 6 6 X 4002409555221667393417789825735904156556882819939007885332058136124031650490837864442687629129015664037894272559787 w1 (by decide) HXY.out (by decide) (HC.out.now g1.out.2 (by omega)) g1.out.1.cells).mono ?_; rintro e w' ⟨rfl, m1, rfl⟩))) | fail
      all_goals
        go_wp2_with fail
        go_meet
        exact ⟨by simp [ex0], g1.out.2.drewN m1⟩
    · have ex0 : decide (X < 4002409555221667393417789825735904156556882819939007885332058136124031650490837864442687629129015664037894272559787) = false := by simpa using hx0
      clear hx0
      first | (go_region_with (first | (go_at_call 6; refine (prime_any _).mono ?_; rintro e w1 ⟨b1, rfl, hb1, ho1, hl1⟩; have g1 := shut (And.intro ho1 (HN.out.1.drew.call hl1)); clear hb1 ho1 hl1) | (go_at_call 5; refine (less_any (w.heap.size) 0 6 b1 0 6 6 X 4002409555221667393417789825735904156556882819939007885332058136124031650490837864442687629129015664037894272559787 w1 (by decide) HXY.out (by decide) (HC.out.now g1.out.2 (by omega)) g1.out.1.cells).mono ?_; rintro e w' ⟨rfl, m1, rfl⟩))) | fail
      all_goals
        go_wp2_with fail
        go_meet
        exact ⟨by simp [ex0], g1.out.2.drewN m1⟩
  case rest =>
    obtain ⟨rfl, hn⟩ := hcut
    have HM := shut hn; clear hn
    by_cases hbad : (!decide (X < 4002409555221667393417789825735904156556882819939007885332058136124031650490837864442687629129015664037894272559787)) = true
    · rw [hbad]
      go_wp2_with fail
      go_ret
      exact HM.out.keeps HN.out.2 (by omega) rfl
    have hgood : X < 4002409555221667393417789825735904156556882819939007885332058136124031650490837864442687629129015664037894272559787 := by simpa using hbad
    rw [show (!decide (X < 4002409555221667393417789825735904156556882819939007885332058136124031650490837864442687629129015664037894272559787)) = false from by simpa using hbad]
    clear hbad
    have lX := hgood; clear hgood
    have LX := shut lX; clear lX
    have HG := shut (regk_reg LX.out)
    have HGL := shut (reg_lt X)
    go_upto_region 3 with fail
    have c0_0 : wc.cell? ⟨w.heap.size, 0, none⟩ = some (.int .u64 (wd (X) 0 : Nat)) := (HC.out.now HM.out (by omega)) 0 (by decide)
    have c0_1 : wc.cell? ⟨w.heap.size, 1, none⟩ = some (.int .u64 (wd (X) 1 : Nat)) := (HC.out.now HM.out (by omega)) 1 (by decide)
    have c0_2 : wc.cell? ⟨w.heap.size, 2, none⟩ = some (.int .u64 (wd (X) 2 : Nat)) := (HC.out.now HM.out (by omega)) 2 (by decide)
    have c0_3 : wc.cell? ⟨w.heap.size, 3, none⟩ = some (.int .u64 (wd (X) 3 : Nat)) := (HC.out.now HM.out (by omega)) 3 (by decide)
    have c0_4 : wc.cell? ⟨w.heap.size, 4, none⟩ = some (.int .u64 (wd (X) 4 : Nat)) := (HC.out.now HM.out (by omega)) 4 (by decide)
    have c0_5 : wc.cell? ⟨w.heap.size, 5, none⟩ = some (.int .u64 (wd (X) 5 : Nat)) := (HC.out.now HM.out (by omega)) 5 (by decide)
    first | (go_region_with (first | (go_at_call 5; have _t := q5; refine (less_any b3 0 6 b5 o5 c5 6 2001204777610833696708894912867952078278441409969503942666029068062015825245418932221343814564507832018947136279893 (reg X) w5 (by decide) (by decide) (Nat.lt_trans HGL.out (by decide)) q5.out.2.2.cells (HG.out ▸ q5.out.2.1)).mono ?_; rintro e w6 ⟨rfl, m, rfl⟩; clear _t) | (go_at_call 9; have _t := q4; refine (regular_any (w.heap.size) 0 6 b4 0 6 6 X 4002409555221667393417789825735904156556882819939007885332058136124031650490837864442687629129015664037894272559787 w4 (by decide) (by decide) LX.out (by decide) (HC.out.now q4.out.1 (by omega)) q4.out.2.1.cells (by have := q4.out.1.size; omega) q4.out.2.1.2).mono ?_; rintro e w5 ⟨b5, o5, c5, rfl, hc, hs, hl⟩; have q5 := shut (And.intro (q4.out.1.call hl) (And.intro hc (q4.out.2.2.below hl q4.out.2.2.2))); clear hc hs hl _t) | (go_at_call 6; have _t := q3; refine (prime_any _).mono ?_; rintro e w4 ⟨b4, rfl, hb, ho, hl⟩; have q4 := shut (And.intro (q3.out.1.call hl) (And.intro ho (q3.out.2.below hl q3.out.2.2))); clear hb ho hl _t) | (go_at_call 8; have _t := q2; refine (half_any b2 0 6 6 4002409555221667393417789825735904156556882819939007885332058136124031650490837864442687629129015664037894272559787 w2 (by decide) (by decide) q2.out.2.cells q2.out.2.2).mono ?_; rintro e w3 ⟨b3, rfl, hb, ho, hl⟩; have q3 := shut (And.intro (q2.out.1.call hl) ho); clear hb ho hl _t) | (go_at_call 6; have _t := q1; refine (prime_any _).mono ?_; rintro e w2 ⟨b2, rfl, hb, ho, hl⟩; have q2 := shut (And.intro (q1.out.call hl) ho); clear hb ho hl _t) | (go_at_call 7; refine (impl_largest X LX.out _).mono ?_; rintro e w1 ⟨rfl, hl⟩; have q1 := shut (HM.out.drew.call hl); clear hl))) | fail
    all_goals
      clear c0_0 c0_1 c0_2 c0_3 c0_4 c0_5
      go_wp2_with fail
      go_ret
      exact (q5.out.1.drewN m).keeps HN.out.2 (by omega) rfl
end Go.Proofs.Ytfdmgelaiigocaa
