/- The law on sums: its walk. -/
import Derived.Test.YtmkmakeoidmdhaaImpl
import Derived.Deep.DeepCutAuto
import Derived.Deep.RegionHeld3
import Derived.Deep.RegionWith
namespace Go.Proofs.Ytmkmakeoidmdhaa
open Go.RowKit Num

set_option maxRecDepth 100000 in
set_option maxHeartbeats 6400000 in
theorem law_add (X Y : Nat) (hX : X < 39402006196394479212279040100143613805079739270465446667948293404245721771497210611414266254884915640806627990306816) (hY : Y < 39402006196394479212279040100143613805079739270465446667948293404245721771497210611414266254884915640806627990306816) (w : World) : Calls Try.prog 6 #[el X, el Y] w (Keeps w (.bool true)) := by
  have CX : Cells ((w.alloc (.cells #[.int .u64 (wd (X) 0 : Nat), .int .u64 (wd (X) 1 : Nat), .int .u64 (wd (X) 2 : Nat), .int .u64 (wd (X) 3 : Nat), .int .u64 (wd (X) 4 : Nat), .int .u64 (wd (X) 5 : Nat)] 23)).alloc (.cells #[.int .u64 (wd (Y) 0 : Nat), .int .u64 (wd (Y) 1 : Nat), .int .u64 (wd (Y) 2 : Nat), .int .u64 (wd (Y) 3 : Nat), .int .u64 (wd (Y) 4 : Nat), .int .u64 (wd (Y) 5 : Nat)] 23)) (w.heap.size) 0 6 X := by have := ((own_new w X 23).below ((Below.refl _ _).alloc (Nat.le_refl _) (.cells #[.int .u64 (wd (Y) 0 : Nat), .int .u64 (wd (Y) 1 : Nat), .int .u64 (wd (Y) 2 : Nat), .int .u64 (wd (Y) 3 : Nat), .int .u64 (wd (Y) 4 : Nat), .int .u64 (wd (Y) 5 : Nat)] 23)) (by simp <;> omega)).cells; simpa using this
  have CY : Cells ((w.alloc (.cells #[.int .u64 (wd (X) 0 : Nat), .int .u64 (wd (X) 1 : Nat), .int .u64 (wd (X) 2 : Nat), .int .u64 (wd (X) 3 : Nat), .int .u64 (wd (X) 4 : Nat), .int .u64 (wd (X) 5 : Nat)] 23)).alloc (.cells #[.int .u64 (wd (Y) 0 : Nat), .int .u64 (wd (Y) 1 : Nat), .int .u64 (wd (Y) 2 : Nat), .int .u64 (wd (Y) 3 : Nat), .int .u64 (wd (Y) 4 : Nat), .int .u64 (wd (Y) 5 : Nat)] 23)) (w.heap.size + 1) 0 6 Y := by have := (own_new (w.alloc (.cells #[.int .u64 (wd (X) 0 : Nat), .int .u64 (wd (X) 1 : Nat), .int .u64 (wd (X) 2 : Nat), .int .u64 (wd (X) 3 : Nat), .int .u64 (wd (X) 4 : Nat), .int .u64 (wd (X) 5 : Nat)] 23)) Y 23).cells; simpa using this
  have HC := shut (And.intro CX (CY)); clear CX CY
  have HN : Shut (Now (w.heap.size + 2) ((w.alloc (.cells #[.int .u64 (wd (X) 0 : Nat), .int .u64 (wd (X) 1 : Nat), .int .u64 (wd (X) 2 : Nat), .int .u64 (wd (X) 3 : Nat), .int .u64 (wd (X) 4 : Nat), .int .u64 (wd (X) 5 : Nat)] 23)).alloc (.cells #[.int .u64 (wd (Y) 0 : Nat), .int .u64 (wd (Y) 1 : Nat), .int .u64 (wd (Y) 2 : Nat), .int .u64 (wd (Y) 3 : Nat), .int .u64 (wd (Y) 4 : Nat), .int .u64 (wd (Y) 5 : Nat)] 23)) ((w.alloc (.cells #[.int .u64 (wd (X) 0 : Nat), .int .u64 (wd (X) 1 : Nat), .int .u64 (wd (X) 2 : Nat), .int .u64 (wd (X) 3 : Nat), .int .u64 (wd (X) 4 : Nat), .int .u64 (wd (X) 5 : Nat)] 23)).alloc (.cells #[.int .u64 (wd (Y) 0 : Nat), .int .u64 (wd (Y) 1 : Nat), .int .u64 (wd (Y) 2 : Nat), .int .u64 (wd (Y) 3 : Nat), .int .u64 (wd (Y) 4 : Nat), .int .u64 (wd (Y) 5 : Nat)] 23)) ∧ Below w.heap.size w ((w.alloc (.cells #[.int .u64 (wd (X) 0 : Nat), .int .u64 (wd (X) 1 : Nat), .int .u64 (wd (X) 2 : Nat), .int .u64 (wd (X) 3 : Nat), .int .u64 (wd (X) 4 : Nat), .int .u64 (wd (X) 5 : Nat)] 23)).alloc (.cells #[.int .u64 (wd (Y) 0 : Nat), .int .u64 (wd (Y) 1 : Nat), .int .u64 (wd (Y) 2 : Nat), .int .u64 (wd (Y) 3 : Nat), .int .u64 (wd (Y) 4 : Nat), .int .u64 (wd (Y) 5 : Nat)] 23))) := shut ⟨Now.start (by simp), ((Below.refl _ _).alloc (by simp <;> omega) _).alloc (by simp <;> omega) _⟩
  have HXY := shut (And.intro hX (hY)); clear hX hY
  unfold el
  go_enter Try.func6, Try.ntmps6
  go_upto_region 1 with fail
  generalize hW : ((w.alloc (.cells #[.int .u64 (wd (X) 0 : Nat), .int .u64 (wd (X) 1 : Nat), .int .u64 (wd (X) 2 : Nat), .int .u64 (wd (X) 3 : Nat), .int .u64 (wd (X) 4 : Nat), .int .u64 (wd (X) 5 : Nat)] 23)).alloc (.cells #[.int .u64 (wd (Y) 0 : Nat), .int .u64 (wd (Y) 1 : Nat), .int .u64 (wd (Y) 2 : Nat), .int .u64 (wd (Y) 3 : Nat), .int .u64 (wd (Y) 4 : Nat), .int .u64 (wd (Y) 5 : Nat)] 23)) = W0 at *
  have HW := shut hW; clear hW
  go_cut [15] (fun s15 wc => s15 = .bool (!decide (X < 4002409555221667393417789825735904156556882819939007885332058136124031650490837864442687629129015664037894272559787) || !decide (Y < 4002409555221667393417789825735904156556882819939007885332058136124031650490837864442687629129015664037894272559787)) ∧ Now (w.heap.size + 2) W0 wc)
  case first =>
    by_cases hx0 : X < 4002409555221667393417789825735904156556882819939007885332058136124031650490837864442687629129015664037894272559787
    · have ex0 : decide (X < 4002409555221667393417789825735904156556882819939007885332058136124031650490837864442687629129015664037894272559787) = true := by simpa using hx0
      clear hx0
      by_cases hx1 : Y < 4002409555221667393417789825735904156556882819939007885332058136124031650490837864442687629129015664037894272559787
      · have ex1 : decide (Y < 4002409555221667393417789825735904156556882819939007885332058136124031650490837864442687629129015664037894272559787) = true := by simpa using hx1
        clear hx1
        first | (go_region_with (first | (go_at_call 12; have _t := g1; refine (prime_any _).mono ?_; rintro e w2 ⟨b2, rfl, hb2, ho2, hl2⟩; have g2 := shut (And.intro ho2 ((g1.out.2.drewN m1).call hl2)); clear hb2 ho2 hl2; clear _t) | (go_at_call 12; refine (prime_any _).mono ?_; rintro e w1 ⟨b1, rfl, hb1, ho1, hl1⟩; have g1 := shut (And.intro ho1 (HN.out.1.drew.call hl1)); clear hb1 ho1 hl1) | (go_at_call 11; have _t := g2; refine (less_any (w.heap.size + 1) 0 6 b2 0 6 6 Y 4002409555221667393417789825735904156556882819939007885332058136124031650490837864442687629129015664037894272559787 w2 (by decide) HXY.out.2 (by decide) (HC.out.2.now g2.out.2 (by omega)) g2.out.1.cells).mono ?_; rintro e w' ⟨rfl, m2, rfl⟩; clear _t) | (go_at_call 11; refine (less_any (w.heap.size) 0 6 b1 0 6 6 X 4002409555221667393417789825735904156556882819939007885332058136124031650490837864442687629129015664037894272559787 w1 (by decide) HXY.out.1 (by decide) (HC.out.1.now g1.out.2 (by omega)) g1.out.1.cells).mono ?_; rintro e w' ⟨rfl, m1, rfl⟩))) | fail
        all_goals
          go_wp2_with fail
          go_meet
          exact ⟨by simp [ex0, ex1], g2.out.2.drewN m2⟩
      · have ex1 : decide (Y < 4002409555221667393417789825735904156556882819939007885332058136124031650490837864442687629129015664037894272559787) = false := by simpa using hx1
        clear hx1
        first | (go_region_with (first | (go_at_call 12; have _t := g1; refine (prime_any _).mono ?_; rintro e w2 ⟨b2, rfl, hb2, ho2, hl2⟩; have g2 := shut (And.intro ho2 ((g1.out.2.drewN m1).call hl2)); clear hb2 ho2 hl2; clear _t) | (go_at_call 12; refine (prime_any _).mono ?_; rintro e w1 ⟨b1, rfl, hb1, ho1, hl1⟩; have g1 := shut (And.intro ho1 (HN.out.1.drew.call hl1)); clear hb1 ho1 hl1) | (go_at_call 11; have _t := g2; refine (less_any (w.heap.size + 1) 0 6 b2 0 6 6 Y 4002409555221667393417789825735904156556882819939007885332058136124031650490837864442687629129015664037894272559787 w2 (by decide) HXY.out.2 (by decide) (HC.out.2.now g2.out.2 (by omega)) g2.out.1.cells).mono ?_; rintro e w' ⟨rfl, m2, rfl⟩; clear _t) | (go_at_call 11; refine (less_any (w.heap.size) 0 6 b1 0 6 6 X 4002409555221667393417789825735904156556882819939007885332058136124031650490837864442687629129015664037894272559787 w1 (by decide) HXY.out.1 (by decide) (HC.out.1.now g1.out.2 (by omega)) g1.out.1.cells).mono ?_; rintro e w' ⟨rfl, m1, rfl⟩))) | fail
        all_goals
          go_wp2_with fail
          go_meet
          exact ⟨by simp [ex0, ex1], g2.out.2.drewN m2⟩
    · have ex0 : decide (X < 4002409555221667393417789825735904156556882819939007885332058136124031650490837864442687629129015664037894272559787) = false := by simpa using hx0
      clear hx0
      first | (go_region_with (first | (go_at_call 12; refine (prime_any _).mono ?_; rintro e w1 ⟨b1, rfl, hb1, ho1, hl1⟩; have g1 := shut (And.intro ho1 (HN.out.1.drew.call hl1)); clear hb1 ho1 hl1) | (go_at_call 11; refine (less_any (w.heap.size) 0 6 b1 0 6 6 X 4002409555221667393417789825735904156556882819939007885332058136124031650490837864442687629129015664037894272559787 w1 (by decide) HXY.out.1 (by decide) (HC.out.1.now g1.out.2 (by omega)) g1.out.1.cells).mono ?_; rintro e w' ⟨rfl, m1, rfl⟩))) | fail
      all_goals
        go_wp2_with fail
        go_meet
        exact ⟨by simp [ex0], g1.out.2.drewN m1⟩
  case rest =>
    obtain ⟨rfl, hn⟩ := hcut
    have HM := shut hn; clear hn
    by_cases hbad : (!decide (X < 4002409555221667393417789825735904156556882819939007885332058136124031650490837864442687629129015664037894272559787) || !decide (Y < 4002409555221667393417789825735904156556882819939007885332058136124031650490837864442687629129015664037894272559787)) = true
    · rw [hbad]
      go_wp2_with fail
      go_ret
      exact HM.out.keeps HN.out.2 (by omega) rfl
    have hgood : X < 4002409555221667393417789825735904156556882819939007885332058136124031650490837864442687629129015664037894272559787 ∧ Y < 4002409555221667393417789825735904156556882819939007885332058136124031650490837864442687629129015664037894272559787 := by simpa using hbad
    rw [show (!decide (X < 4002409555221667393417789825735904156556882819939007885332058136124031650490837864442687629129015664037894272559787) || !decide (Y < 4002409555221667393417789825735904156556882819939007885332058136124031650490837864442687629129015664037894272559787)) = false from by simpa using hbad]
    clear hbad
    obtain ⟨lX, lY⟩ := hgood
    have LX := shut lX; clear lX
    have LY := shut lY; clear lY
    have c0_0 : wc.cell? ⟨w.heap.size, 0, none⟩ = some (.int .u64 (wd (X) 0 : Nat)) := (HC.out.1.now HM.out (by omega)) 0 (by decide)
    have c0_1 : wc.cell? ⟨w.heap.size, 1, none⟩ = some (.int .u64 (wd (X) 1 : Nat)) := (HC.out.1.now HM.out (by omega)) 1 (by decide)
    have c0_2 : wc.cell? ⟨w.heap.size, 2, none⟩ = some (.int .u64 (wd (X) 2 : Nat)) := (HC.out.1.now HM.out (by omega)) 2 (by decide)
    have c0_3 : wc.cell? ⟨w.heap.size, 3, none⟩ = some (.int .u64 (wd (X) 3 : Nat)) := (HC.out.1.now HM.out (by omega)) 3 (by decide)
    have c0_4 : wc.cell? ⟨w.heap.size, 4, none⟩ = some (.int .u64 (wd (X) 4 : Nat)) := (HC.out.1.now HM.out (by omega)) 4 (by decide)
    have c0_5 : wc.cell? ⟨w.heap.size, 5, none⟩ = some (.int .u64 (wd (X) 5 : Nat)) := (HC.out.1.now HM.out (by omega)) 5 (by decide)
    have c1_0 : wc.cell? ⟨w.heap.size + 1, 0, none⟩ = some (.int .u64 (wd (Y) 0 : Nat)) := (HC.out.2.now HM.out (by omega)) 0 (by decide)
    have c1_1 : wc.cell? ⟨w.heap.size + 1, 1, none⟩ = some (.int .u64 (wd (Y) 1 : Nat)) := (HC.out.2.now HM.out (by omega)) 1 (by decide)
    have c1_2 : wc.cell? ⟨w.heap.size + 1, 2, none⟩ = some (.int .u64 (wd (Y) 2 : Nat)) := (HC.out.2.now HM.out (by omega)) 2 (by decide)
    have c1_3 : wc.cell? ⟨w.heap.size + 1, 3, none⟩ = some (.int .u64 (wd (Y) 3 : Nat)) := (HC.out.2.now HM.out (by omega)) 3 (by decide)
    have c1_4 : wc.cell? ⟨w.heap.size + 1, 4, none⟩ = some (.int .u64 (wd (Y) 4 : Nat)) := (HC.out.2.now HM.out (by omega)) 4 (by decide)
    have c1_5 : wc.cell? ⟨w.heap.size + 1, 5, none⟩ = some (.int .u64 (wd (Y) 5 : Nat)) := (HC.out.2.now HM.out (by omega)) 5 (by decide)
    go_wp2_with fail
    refine (impl_add X Y _ rfl LX.out LY.out _).mono ?_
    rintro e w2 ⟨rfl, hl⟩
    clear c0_0 c0_1 c0_2 c0_3 c0_4 c0_5 c1_0 c1_1 c1_2 c1_3 c1_4 c1_5
    have HL := shut hl; clear hl
    go_upto_region 4 with fail
    go_region_with (first | (go_at_call 12; refine (prime_any _).mono ?_; rintro e w3 ⟨b3, rfl, hb3, ho3, hl3⟩; have g3 := shut (And.intro ho3 (And.intro ((((HM.out.call HL.out).alloc _).drew).call hl3) ((own_new w2 ((X + Y) % 4002409555221667393417789825735904156556882819939007885332058136124031650490837864442687629129015664037894272559787) 23).drew.below hl3 (by simp)))); clear hb3 ho3 hl3) | (go_at_call 18; refine (add_any w.heap.size 0 6 (w.heap.size + 1) 0 6 b3 0 6 6 X Y 4002409555221667393417789825735904156556882819939007885332058136124031650490837864442687629129015664037894272559787 w3 (by decide) (by decide) LX.out LY.out (HC.out.1.now g3.out.2.1 (by omega)) (HC.out.2.now g3.out.2.1 (by omega)) g3.out.1.cells (by have := g3.out.2.1.size; omega) (by have := g3.out.2.1.size; omega) g3.out.1.2).mono ?_; rintro e w4 ⟨b4, rfl, hb4, ho4, hl4⟩; have g4 := shut (And.intro ho4 (And.intro (g3.out.2.1.call hl4) (g3.out.2.2.below hl4 g3.out.2.2.2))); clear hb4 ho4 hl4) | (go_at_call 17; refine (same_any w2.heap.size 0 6 b4 0 6 6 ((X + Y) % 4002409555221667393417789825735904156556882819939007885332058136124031650490837864442687629129015664037894272559787) ((X + Y) % 4002409555221667393417789825735904156556882819939007885332058136124031650490837864442687629129015664037894272559787) w4 (by decide) (Nat.lt_trans (Nat.mod_lt _ (by decide)) (by decide)) (Nat.lt_trans (Nat.mod_lt _ (by decide)) (by decide)) g4.out.2.2.cells g4.out.1.cells).mono ?_; rintro e w5 ⟨rfl, m5, rfl⟩))
    all_goals
      go_wp2_with fail
      go_ret
      exact (g4.out.2.1.drewN m5).keeps HN.out.2 (by omega) rfl
end Go.Proofs.Ytmkmakeoidmdhaa
