/- The law on halves: its walk. -/
import Derived.Test.YtmkmakeoidmdhaaImpl
import Derived.Deep.DeepCutAuto
import Derived.Deep.RegionWith
namespace Go.Proofs.Ytmkmakeoidmdhaa
open Go.RowKit Num

theorem halve_lt {X : Nat} (h : X < 4002409555221667393417789825735904156556882819939007885332058136124031650490837864442687629129015664037894272559787) : halve X < 4002409555221667393417789825735904156556882819939007885332058136124031650490837864442687629129015664037894272559787 := by unfold halve; split <;> omega
theorem halve_twice {X : Nat} (h : X < 4002409555221667393417789825735904156556882819939007885332058136124031650490837864442687629129015664037894272559787) : (halve X + halve X) % 4002409555221667393417789825735904156556882819939007885332058136124031650490837864442687629129015664037894272559787 = X := by
  unfold halve
  split
  · have : (X + 4002409555221667393417789825735904156556882819939007885332058136124031650490837864442687629129015664037894272559787) / 2 + (X + 4002409555221667393417789825735904156556882819939007885332058136124031650490837864442687629129015664037894272559787) / 2 = X + 4002409555221667393417789825735904156556882819939007885332058136124031650490837864442687629129015664037894272559787 := by omega
    rw [this, Nat.add_mod_right, Nat.mod_eq_of_lt h]
  · have : X / 2 + X / 2 = X := by omega
    rw [this, Nat.mod_eq_of_lt h]

set_option maxRecDepth 100000 in
set_option maxHeartbeats 6400000 in
theorem law_halve (X : Nat) (hX : X < 39402006196394479212279040100143613805079739270465446667948293404245721771497210611414266254884915640806627990306816) (w : World) : Calls Try.prog 5 #[el X] w (Keeps w (.bool true)) := by
  have CX : Cells (w.alloc (.cells #[.int .u64 (wd (X) 0 : Nat), .int .u64 (wd (X) 1 : Nat), .int .u64 (wd (X) 2 : Nat), .int .u64 (wd (X) 3 : Nat), .int .u64 (wd (X) 4 : Nat), .int .u64 (wd (X) 5 : Nat)] 23)) (w.heap.size) 0 6 X := by have := (own_new w X 23).cells; simpa using this
  have HC := shut (CX); clear CX
  have HN : Shut (Now (w.heap.size + 1) (w.alloc (.cells #[.int .u64 (wd (X) 0 : Nat), .int .u64 (wd (X) 1 : Nat), .int .u64 (wd (X) 2 : Nat), .int .u64 (wd (X) 3 : Nat), .int .u64 (wd (X) 4 : Nat), .int .u64 (wd (X) 5 : Nat)] 23)) (w.alloc (.cells #[.int .u64 (wd (X) 0 : Nat), .int .u64 (wd (X) 1 : Nat), .int .u64 (wd (X) 2 : Nat), .int .u64 (wd (X) 3 : Nat), .int .u64 (wd (X) 4 : Nat), .int .u64 (wd (X) 5 : Nat)] 23)) ∧ Below w.heap.size w (w.alloc (.cells #[.int .u64 (wd (X) 0 : Nat), .int .u64 (wd (X) 1 : Nat), .int .u64 (wd (X) 2 : Nat), .int .u64 (wd (X) 3 : Nat), .int .u64 (wd (X) 4 : Nat), .int .u64 (wd (X) 5 : Nat)] 23))) := shut ⟨Now.start (by simp), (Below.refl _ _).alloc (by simp <;> omega) _⟩
  have HXY := shut (hX); clear hX
  unfold el
  go_enter Try.func5, Try.ntmps5
  go_upto_region 1 with fail
  generalize hW : (w.alloc (.cells #[.int .u64 (wd (X) 0 : Nat), .int .u64 (wd (X) 1 : Nat), .int .u64 (wd (X) 2 : Nat), .int .u64 (wd (X) 3 : Nat), .int .u64 (wd (X) 4 : Nat), .int .u64 (wd (X) 5 : Nat)] 23)) = W0 at *
  have HW := shut hW; clear hW
  go_cut [7] (fun s7 wc => s7 = .bool (!decide (X < 4002409555221667393417789825735904156556882819939007885332058136124031650490837864442687629129015664037894272559787)) ∧ Now (w.heap.size + 1) W0 wc)
  case first =>
    by_cases hx0 : X < 4002409555221667393417789825735904156556882819939007885332058136124031650490837864442687629129015664037894272559787
    · have ex0 : decide (X < 4002409555221667393417789825735904156556882819939007885332058136124031650490837864442687629129015664037894272559787) = true := by simpa using hx0
      clear hx0
      first | (go_region_with (first | (go_at_call 12; refine (prime_any _).mono ?_; rintro e w1 ⟨b1, rfl, hb1, ho1, hl1⟩; have g1 := shut (And.intro ho1 (HN.out.1.drew.call hl1)); clear hb1 ho1 hl1) | (go_at_call 11; refine (less_any (w.heap.size) 0 6 b1 0 6 6 X 4002409555221667393417789825735904156556882819939007885332058136124031650490837864442687629129015664037894272559787 w1 (by decide) HXY.out (by decide) (HC.out.now g1.out.2 (by omega)) g1.out.1.cells).mono ?_; rintro e w' ⟨rfl, m1, rfl⟩))) | fail
      all_goals
        go_wp2_with fail
        go_meet
        exact ⟨by simp [ex0], g1.out.2.drewN m1⟩
    · have ex0 : decide (X < 4002409555221667393417789825735904156556882819939007885332058136124031650490837864442687629129015664037894272559787) = false := by simpa using hx0
      clear hx0
      first | (go_region_with (first | (go_at_call 12; refine (prime_any _).mono ?_; rintro e w1 ⟨b1, rfl, hb1, ho1, hl1⟩; have g1 := shut (And.intro ho1 (HN.out.1.drew.call hl1)); clear hb1 ho1 hl1) | (go_at_call 11; refine (less_any (w.heap.size) 0 6 b1 0 6 6 X 4002409555221667393417789825735904156556882819939007885332058136124031650490837864442687629129015664037894272559787 w1 (by decide) HXY.out (by decide) (HC.out.now g1.out.2 (by omega)) g1.out.1.cells).mono ?_; rintro e w' ⟨rfl, m1, rfl⟩))) | fail
      all_goals
        go_wp2_with fail
        go_meet
        exact ⟨by simp [ex0], g1.out.2.drewN m1⟩
  case rest =>
    obtain ⟨rfl, hn⟩ := hcut
    have HM := shut hn; clear hn
    by_cases hbad : (!decide (X < 4002409555221667393417789825735904156556882819939007885332058136124031650490837864442687629129015664037894272559787)) = true
    · rw [hbad]
      go_wp2_with fail
      go_ret
      exact HM.out.keeps HN.out.2 (by omega) rfl
    have hgood : X < 4002409555221667393417789825735904156556882819939007885332058136124031650490837864442687629129015664037894272559787 := by simpa using hbad
    rw [show (!decide (X < 4002409555221667393417789825735904156556882819939007885332058136124031650490837864442687629129015664037894272559787)) = false from by simpa using hbad]
    clear hbad
    have lX := hgood; clear hgood
    have LX := shut lX; clear lX
    have c0_0 : wc.cell? ⟨w.heap.size, 0, none⟩ = some (.int .u64 (wd (X) 0 : Nat)) := (HC.out.now HM.out (by omega)) 0 (by decide)
    have c0_1 : wc.cell? ⟨w.heap.size, 1, none⟩ = some (.int .u64 (wd (X) 1 : Nat)) := (HC.out.now HM.out (by omega)) 1 (by decide)
    have c0_2 : wc.cell? ⟨w.heap.size, 2, none⟩ = some (.int .u64 (wd (X) 2 : Nat)) := (HC.out.now HM.out (by omega)) 2 (by decide)
    have c0_3 : wc.cell? ⟨w.heap.size, 3, none⟩ = some (.int .u64 (wd (X) 3 : Nat)) := (HC.out.now HM.out (by omega)) 3 (by decide)
    have c0_4 : wc.cell? ⟨w.heap.size, 4, none⟩ = some (.int .u64 (wd (X) 4 : Nat)) := (HC.out.now HM.out (by omega)) 4 (by decide)
    have c0_5 : wc.cell? ⟨w.heap.size, 5, none⟩ = some (.int .u64 (wd (X) 5 : Nat)) := (HC.out.now HM.out (by omega)) 5 (by decide)
    go_wp2_with fail
    refine (impl_halve X _ rfl LX.out _).mono ?_
    rintro e w2 ⟨rfl, hl⟩
    clear c0_0 c0_1 c0_2 c0_3 c0_4 c0_5
    have HL := shut hl; clear hl
    have hr := halve_lt LX.out; have ht : (halve X + halve X) % 4002409555221667393417789825735904156556882819939007885332058136124031650490837864442687629129015664037894272559787 = X := halve_twice LX.out
    have HR := shut hr; have HT := shut ht
    have e1 : decide (halve X < 4002409555221667393417789825735904156556882819939007885332058136124031650490837864442687629129015664037894272559787) = true := by simpa using hr
    have e2 : decide ((halve X + halve X) % 4002409555221667393417789825735904156556882819939007885332058136124031650490837864442687629129015664037894272559787 = X) = true := by simpa using ht
    clear hr ht
    go_upto_region 4 with fail
    first | (go_region_with (first | (go_at_call 17; have _t := q4; refine (same_any (bb4) 0 6 (w.heap.size) 0 6 6 ((halve X + halve X) % 4002409555221667393417789825735904156556882819939007885332058136124031650490837864442687629129015664037894272559787) (X) _ (by decide) ((Nat.lt_trans (Nat.mod_lt _ (by decide)) (by decide))) (HXY.out) ((q4.out.2.1).cells) ((HC.out.now (q4.out.1) (by omega)))).mono ?_; rintro e w5 ⟨rfl, m5, rfl⟩; have q5 := shut (And.intro ((q4.out.1).drewN m5) (And.intro ((q4.out.2.1).drewN m5) (And.intro ((q4.out.2.2.1).drewN m5) (And.intro ((q4.out.2.2.2.1).drewN m5) (((q4.out.2.2.2.2).drewN m5)))))); clear _t) | (go_at_call 18; have _t := q3; refine (add_any (w2.heap.size) 0 6 (w2.heap.size) 0 6 (bb3) 0 6 6 (halve X) (halve X) 4002409555221667393417789825735904156556882819939007885332058136124031650490837864442687629129015664037894272559787 _ (by decide) (by decide) (HR.out) (HR.out) ((q3.out.2.2.2).cells) ((q3.out.2.2.2).cells) ((q3.out.2.1).cells) ((q3.out.2.2.2).2) ((q3.out.2.2.2).2) ((q3.out.2.1).2)).mono ?_; rintro e w4 ⟨bb4, rfl, hb4, ho4, hl4⟩; have q4 := shut (And.intro ((q3.out.1).call hl4) (And.intro ho4 (And.intro ((q3.out.2.1).below hl4 (q3.out.2.1).2) (And.intro ((q3.out.2.2.1).below hl4 (q3.out.2.2.1).2) (((q3.out.2.2.2).below hl4 (q3.out.2.2.2).2)))))); clear hb4 ho4 hl4; clear _t) | (go_at_call 12; have _t := q2; refine (prime_any _).mono ?_; rintro e w3 ⟨bb3, rfl, hb3, ho3, hl3⟩; have q3 := shut (And.intro ((q2.out.1).call hl3) (And.intro ho3 (And.intro ((q2.out.2.1).below hl3 (q2.out.2.1).2) (((q2.out.2.2).below hl3 (q2.out.2.2).2))))); clear hb3 ho3 hl3; clear _t) | (go_at_call 11; have _t := q1; refine (less_any (w2.heap.size) 0 6 (bb1) 0 6 6 (halve X) (4002409555221667393417789825735904156556882819939007885332058136124031650490837864442687629129015664037894272559787) _ (by decide) ((Nat.lt_trans HR.out (by decide))) ((by decide)) ((q1.out.2.2).cells) ((q1.out.2.1).cells)).mono ?_; rintro e w2 ⟨rfl, m2, rfl⟩; have q2 := shut (And.intro ((q1.out.1).drewN m2) (And.intro ((q1.out.2.1).drewN m2) (((q1.out.2.2).drewN m2)))); clear _t) | (go_at_call 12; refine (prime_any _).mono ?_; rintro e w1 ⟨bb1, rfl, hb1, ho1, hl1⟩; have q1 := shut (And.intro ((((HM.out.call HL.out).alloc _).drew).call hl1) (And.intro ho1 ((((own_new w2 (halve X) 23).drew).below hl1 ((own_new w2 (halve X) 23).drew).2)))); clear hb1 ho1 hl1))) | fail
    all_goals
      go_wp2_with fail
      go_ret
      exact (q5.out.1).keeps HN.out.2 (by omega) rfl
end Go.Proofs.Ytmkmakeoidmdhaa
