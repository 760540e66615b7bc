/- The law on the choice between two elements: its walk. -/
import Derived.Test.YtmkmakeoidmdhaaSel
import Derived.Deep.DeepCutAuto
import Derived.Deep.RegionWith
import Derived.Deep.RegionHeld3
import Derived.Test.YtmkmakeoidmdhaaEqArr
namespace Go.Proofs.Ytmkmakeoidmdhaa
open Go.RowKit Num

set_option maxRecDepth 100000 in
set_option maxHeartbeats 6400000 in
theorem law_select (k : Int) (k0 : -9223372036854775808 ≤ k) (k1 : k < 9223372036854775808) (X Y : Nat) (hX : X < 39402006196394479212279040100143613805079739270465446667948293404245721771497210611414266254884915640806627990306816) (hY : Y < 39402006196394479212279040100143613805079739270465446667948293404245721771497210611414266254884915640806627990306816) (w : World) : Calls Try.prog 3 #[.int .i64 k, el X, el Y] w (Keeps w (.bool true)) := by
  have CX : Cells ((w.alloc (.cells #[.int .u64 (wd (X) 0 : Nat), .int .u64 (wd (X) 1 : Nat), .int .u64 (wd (X) 2 : Nat), .int .u64 (wd (X) 3 : Nat), .int .u64 (wd (X) 4 : Nat), .int .u64 (wd (X) 5 : Nat)] 23)).alloc (.cells #[.int .u64 (wd (Y) 0 : Nat), .int .u64 (wd (Y) 1 : Nat), .int .u64 (wd (Y) 2 : Nat), .int .u64 (wd (Y) 3 : Nat), .int .u64 (wd (Y) 4 : Nat), .int .u64 (wd (Y) 5 : Nat)] 23)) (w.heap.size) 0 6 X := by have := ((own_new w X 23).below ((Below.refl _ _).alloc (Nat.le_refl _) (.cells #[.int .u64 (wd (Y) 0 : Nat), .int .u64 (wd (Y) 1 : Nat), .int .u64 (wd (Y) 2 : Nat), .int .u64 (wd (Y) 3 : Nat), .int .u64 (wd (Y) 4 : Nat), .int .u64 (wd (Y) 5 : Nat)] 23)) (by simp <;> omega)).cells; simpa using this
  have CY : Cells ((w.alloc (.cells #[.int .u64 (wd (X) 0 : Nat), .int .u64 (wd (X) 1 : Nat), .int .u64 (wd (X) 2 : Nat), .int .u64 (wd (X) 3 : Nat), .int .u64 (wd (X) 4 : Nat), .int .u64 (wd (X) 5 : Nat)] 23)).alloc (.cells #[.int .u64 (wd (Y) 0 : Nat), .int .u64 (wd (Y) 1 : Nat), .int .u64 (wd (Y) 2 : Nat), .int .u64 (wd (Y) 3 : Nat), .int .u64 (wd (Y) 4 : Nat), .int .u64 (wd (Y) 5 : Nat)] 23)) (w.heap.size + 1) 0 6 Y := by have := (own_new (w.alloc (.cells #[.int .u64 (wd (X) 0 : Nat), .int .u64 (wd (X) 1 : Nat), .int .u64 (wd (X) 2 : Nat), .int .u64 (wd (X) 3 : Nat), .int .u64 (wd (X) 4 : Nat), .int .u64 (wd (X) 5 : Nat)] 23)) Y 23).cells; simpa using this
  have HC := shut (And.intro CX (CY)); clear CX CY
  have HN : Shut (Now (w.heap.size + 2) ((w.alloc (.cells #[.int .u64 (wd (X) 0 : Nat), .int .u64 (wd (X) 1 : Nat), .int .u64 (wd (X) 2 : Nat), .int .u64 (wd (X) 3 : Nat), .int .u64 (wd (X) 4 : Nat), .int .u64 (wd (X) 5 : Nat)] 23)).alloc (.cells #[.int .u64 (wd (Y) 0 : Nat), .int .u64 (wd (Y) 1 : Nat), .int .u64 (wd (Y) 2 : Nat), .int .u64 (wd (Y) 3 : Nat), .int .u64 (wd (Y) 4 : Nat), .int .u64 (wd (Y) 5 : Nat)] 23)) ((w.alloc (.cells #[.int .u64 (wd (X) 0 : Nat), .int .u64 (wd (X) 1 : Nat), .int .u64 (wd (X) 2 : Nat), .int .u64 (wd (X) 3 : Nat), .int .u64 (wd (X) 4 : Nat), .int .u64 (wd (X) 5 : Nat)] 23)).alloc (.cells #[.int .u64 (wd (Y) 0 : Nat), .int .u64 (wd (Y) 1 : Nat), .int .u64 (wd (Y) 2 : Nat), .int .u64 (wd (Y) 3 : Nat), .int .u64 (wd (Y) 4 : Nat), .int .u64 (wd (Y) 5 : Nat)] 23)) ∧ Below w.heap.size w ((w.alloc (.cells #[.int .u64 (wd (X) 0 : Nat), .int .u64 (wd (X) 1 : Nat), .int .u64 (wd (X) 2 : Nat), .int .u64 (wd (X) 3 : Nat), .int .u64 (wd (X) 4 : Nat), .int .u64 (wd (X) 5 : Nat)] 23)).alloc (.cells #[.int .u64 (wd (Y) 0 : Nat), .int .u64 (wd (Y) 1 : Nat), .int .u64 (wd (Y) 2 : Nat), .int .u64 (wd (Y) 3 : Nat), .int .u64 (wd (Y) 4 : Nat), .int .u64 (wd (Y) 5 : Nat)] 23))) := shut ⟨Now.start (by simp), ((Below.refl _ _).alloc (by simp <;> omega) _).alloc (by simp <;> omega) _⟩
  have HXY := shut (And.intro hX (hY)); clear hX hY
  unfold el
  go_enter Try.func3, Try.ntmps3
  go_upto_region 1 with fail
  generalize hW : ((w.alloc (.cells #[.int .u64 (wd (X) 0 : Nat), .int .u64 (wd (X) 1 : Nat), .int .u64 (wd (X) 2 : Nat), .int .u64 (wd (X) 3 : Nat), .int .u64 (wd (X) 4 : Nat), .int .u64 (wd (X) 5 : Nat)] 23)).alloc (.cells #[.int .u64 (wd (Y) 0 : Nat), .int .u64 (wd (Y) 1 : Nat), .int .u64 (wd (Y) 2 : Nat), .int .u64 (wd (Y) 3 : Nat), .int .u64 (wd (Y) 4 : Nat), .int .u64 (wd (Y) 5 : Nat)] 23)) = W0 at *
  have HW := shut hW; clear hW
  go_cut [16] (fun s16 wc => s16 = .bool (!decide (X < 4002409555221667393417789825735904156556882819939007885332058136124031650490837864442687629129015664037894272559787) || !decide (Y < 4002409555221667393417789825735904156556882819939007885332058136124031650490837864442687629129015664037894272559787)) ∧ Now (w.heap.size + 2) W0 wc)
  case first =>
    by_cases hx0 : X < 4002409555221667393417789825735904156556882819939007885332058136124031650490837864442687629129015664037894272559787
    · have ex0 : decide (X < 4002409555221667393417789825735904156556882819939007885332058136124031650490837864442687629129015664037894272559787) = true := by simpa using hx0
      clear hx0
      by_cases hx1 : Y < 4002409555221667393417789825735904156556882819939007885332058136124031650490837864442687629129015664037894272559787
      · have ex1 : decide (Y < 4002409555221667393417789825735904156556882819939007885332058136124031650490837864442687629129015664037894272559787) = true := by simpa using hx1
        clear hx1
        first | (go_region_with (first | (go_at_call 12; have _t := g1; refine (prime_any _).mono ?_; rintro e w2 ⟨b2, rfl, hb2, ho2, hl2⟩; have g2 := shut (And.intro ho2 ((g1.out.2.drewN m1).call hl2)); clear hb2 ho2 hl2; clear _t) | (go_at_call 12; refine (prime_any _).mono ?_; rintro e w1 ⟨b1, rfl, hb1, ho1, hl1⟩; have g1 := shut (And.intro ho1 (HN.out.1.drew.call hl1)); clear hb1 ho1 hl1) | (go_at_call 11; have _t := g2; refine (less_any (w.heap.size + 1) 0 6 b2 0 6 6 Y 4002409555221667393417789825735904156556882819939007885332058136124031650490837864442687629129015664037894272559787 w2 (by decide) HXY.out.2 (by decide) (HC.out.2.now g2.out.2 (by omega)) g2.out.1.cells).mono ?_; rintro e w' ⟨rfl, m2, rfl⟩; clear _t) | (go_at_call 11; refine (less_any (w.heap.size) 0 6 b1 0 6 6 X 4002409555221667393417789825735904156556882819939007885332058136124031650490837864442687629129015664037894272559787 w1 (by decide) HXY.out.1 (by decide) (HC.out.1.now g1.out.2 (by omega)) g1.out.1.cells).mono ?_; rintro e w' ⟨rfl, m1, rfl⟩))) | fail
        all_goals
          go_wp2_with fail
          go_meet
          exact ⟨by simp [ex0, ex1], g2.out.2.drewN m2⟩
      · have ex1 : decide (Y < 4002409555221667393417789825735904156556882819939007885332058136124031650490837864442687629129015664037894272559787) = false := by simpa using hx1
        clear hx1
        first | (go_region_with (first | (go_at_call 12; have _t := g1; refine (prime_any _).mono ?_; rintro e w2 ⟨b2, rfl, hb2, ho2, hl2⟩; have g2 := shut (And.intro ho2 ((g1.out.2.drewN m1).call hl2)); clear hb2 ho2 hl2; clear _t) | (go_at_call 12; refine (prime_any _).mono ?_; rintro e w1 ⟨b1, rfl, hb1, ho1, hl1⟩; have g1 := shut (And.intro ho1 (HN.out.1.drew.call hl1)); clear hb1 ho1 hl1) | (go_at_call 11; have _t := g2; refine (less_any (w.heap.size + 1) 0 6 b2 0 6 6 Y 4002409555221667393417789825735904156556882819939007885332058136124031650490837864442687629129015664037894272559787 w2 (by decide) HXY.out.2 (by decide) (HC.out.2.now g2.out.2 (by omega)) g2.out.1.cells).mono ?_; rintro e w' ⟨rfl, m2, rfl⟩; clear _t) | (go_at_call 11; refine (less_any (w.heap.size) 0 6 b1 0 6 6 X 4002409555221667393417789825735904156556882819939007885332058136124031650490837864442687629129015664037894272559787 w1 (by decide) HXY.out.1 (by decide) (HC.out.1.now g1.out.2 (by omega)) g1.out.1.cells).mono ?_; rintro e w' ⟨rfl, m1, rfl⟩))) | fail
        all_goals
          go_wp2_with fail
          go_meet
          exact ⟨by simp [ex0, ex1], g2.out.2.drewN m2⟩
    · have ex0 : decide (X < 4002409555221667393417789825735904156556882819939007885332058136124031650490837864442687629129015664037894272559787) = false := by simpa using hx0
      clear hx0
      first | (go_region_with (first | (go_at_call 12; refine (prime_any _).mono ?_; rintro e w1 ⟨b1, rfl, hb1, ho1, hl1⟩; have g1 := shut (And.intro ho1 (HN.out.1.drew.call hl1)); clear hb1 ho1 hl1) | (go_at_call 11; refine (less_any (w.heap.size) 0 6 b1 0 6 6 X 4002409555221667393417789825735904156556882819939007885332058136124031650490837864442687629129015664037894272559787 w1 (by decide) HXY.out.1 (by decide) (HC.out.1.now g1.out.2 (by omega)) g1.out.1.cells).mono ?_; rintro e w' ⟨rfl, m1, rfl⟩))) | fail
      all_goals
        go_wp2_with fail
        go_meet
        exact ⟨by simp [ex0], g1.out.2.drewN m1⟩
  case rest =>
    obtain ⟨rfl, hn⟩ := hcut
    have HM := shut hn; clear hn
    by_cases hbad : (!decide (X < 4002409555221667393417789825735904156556882819939007885332058136124031650490837864442687629129015664037894272559787) || !decide (Y < 4002409555221667393417789825735904156556882819939007885332058136124031650490837864442687629129015664037894272559787)) = true
    · rw [hbad]
      go_wp2_with fail
      go_ret
      exact HM.out.keeps HN.out.2 (by omega) rfl
    have hgood : X < 4002409555221667393417789825735904156556882819939007885332058136124031650490837864442687629129015664037894272559787 ∧ Y < 4002409555221667393417789825735904156556882819939007885332058136124031650490837864442687629129015664037894272559787 := by simpa using hbad
    rw [show (!decide (X < 4002409555221667393417789825735904156556882819939007885332058136124031650490837864442687629129015664037894272559787) || !decide (Y < 4002409555221667393417789825735904156556882819939007885332058136124031650490837864442687629129015664037894272559787)) = false from by simpa using hbad]
    clear hbad
    obtain ⟨lX, lY⟩ := hgood
    have LX := shut lX; clear lX
    have LY := shut lY; clear lY
    by_cases hk : k = 0
    ·
      have tk : (k == 0) = true := by simpa using hk
      have C1 := shut (fun w => impl_select X Y X k k0 k1 (by rw [if_pos hk]) w)
      clear hk
      have hsee : ∀ w', Now (w.heap.size + 2) W0 w' → (Now (w.heap.size + 2) W0 w' ∧ w'.cell? ⟨w.heap.size, 0, none⟩ = some (.int .u64 (wd (X) 0 : Nat)) ∧ w'.cell? ⟨w.heap.size, 1, none⟩ = some (.int .u64 (wd (X) 1 : Nat)) ∧ w'.cell? ⟨w.heap.size, 2, none⟩ = some (.int .u64 (wd (X) 2 : Nat)) ∧ w'.cell? ⟨w.heap.size, 3, none⟩ = some (.int .u64 (wd (X) 3 : Nat)) ∧ w'.cell? ⟨w.heap.size, 4, none⟩ = some (.int .u64 (wd (X) 4 : Nat)) ∧ w'.cell? ⟨w.heap.size, 5, none⟩ = some (.int .u64 (wd (X) 5 : Nat)) ∧ w'.cell? ⟨w.heap.size + 1, 0, none⟩ = some (.int .u64 (wd (Y) 0 : Nat)) ∧ w'.cell? ⟨w.heap.size + 1, 1, none⟩ = some (.int .u64 (wd (Y) 1 : Nat)) ∧ w'.cell? ⟨w.heap.size + 1, 2, none⟩ = some (.int .u64 (wd (Y) 2 : Nat)) ∧ w'.cell? ⟨w.heap.size + 1, 3, none⟩ = some (.int .u64 (wd (Y) 3 : Nat)) ∧ w'.cell? ⟨w.heap.size + 1, 4, none⟩ = some (.int .u64 (wd (Y) 4 : Nat)) ∧ w'.cell? ⟨w.heap.size + 1, 5, none⟩ = some (.int .u64 (wd (Y) 5 : Nat))) := fun w' h => ⟨h, (HC.out.1.now h (by omega)) 0 (by decide), (HC.out.1.now h (by omega)) 1 (by decide), (HC.out.1.now h (by omega)) 2 (by decide), (HC.out.1.now h (by omega)) 3 (by decide), (HC.out.1.now h (by omega)) 4 (by decide), (HC.out.1.now h (by omega)) 5 (by decide), (HC.out.2.now h (by omega)) 0 (by decide), (HC.out.2.now h (by omega)) 1 (by decide), (HC.out.2.now h (by omega)) 2 (by decide), (HC.out.2.now h (by omega)) 3 (by decide), (HC.out.2.now h (by omega)) 4 (by decide), (HC.out.2.now h (by omega)) 5 (by decide)⟩
      have HSEE := shut hsee; clear hsee
      go_upto_region 4 with fail
      have heq := eq_arr
      go_region_held3 (fun w' => Now (w.heap.size + 2) W0 w' ∧ w'.cell? ⟨w.heap.size, 0, none⟩ = some (.int .u64 (wd (X) 0 : Nat)) ∧ w'.cell? ⟨w.heap.size, 1, none⟩ = some (.int .u64 (wd (X) 1 : Nat)) ∧ w'.cell? ⟨w.heap.size, 2, none⟩ = some (.int .u64 (wd (X) 2 : Nat)) ∧ w'.cell? ⟨w.heap.size, 3, none⟩ = some (.int .u64 (wd (X) 3 : Nat)) ∧ w'.cell? ⟨w.heap.size, 4, none⟩ = some (.int .u64 (wd (X) 4 : Nat)) ∧ w'.cell? ⟨w.heap.size, 5, none⟩ = some (.int .u64 (wd (X) 5 : Nat)) ∧ w'.cell? ⟨w.heap.size + 1, 0, none⟩ = some (.int .u64 (wd (Y) 0 : Nat)) ∧ w'.cell? ⟨w.heap.size + 1, 1, none⟩ = some (.int .u64 (wd (Y) 1 : Nat)) ∧ w'.cell? ⟨w.heap.size + 1, 2, none⟩ = some (.int .u64 (wd (Y) 2 : Nat)) ∧ w'.cell? ⟨w.heap.size + 1, 3, none⟩ = some (.int .u64 (wd (Y) 3 : Nat)) ∧ w'.cell? ⟨w.heap.size + 1, 4, none⟩ = some (.int .u64 (wd (Y) 4 : Nat)) ∧ w'.cell? ⟨w.heap.size + 1, 5, none⟩ = some (.int .u64 (wd (Y) 5 : Nat))) (first | exact HSEE.out _ (HM.out.drew) | exact HSEE.out _ (Q1.out)) (first | (go_at_call 13; (with_reducible refine (C1.out _).mono ?_); rintro e w11 ⟨rfl, hl1⟩; have Q1 : Shut (Now (w.heap.size + 2) W0 w11) := shut ((HM.out.drew).call hl1); clear hl1))
      all_goals
        go_wp2_with fail
        go_ret
        exact (Q1.out).keeps HN.out.2 (by omega) rfl
    ·
      have tk : (k == 0) = false := by simpa using hk
      have C1 := shut (fun w => impl_select X Y Y k k0 k1 (by rw [if_neg hk]) w)
      clear hk
      have hsee : ∀ w', Now (w.heap.size + 2) W0 w' → (Now (w.heap.size + 2) W0 w' ∧ w'.cell? ⟨w.heap.size, 0, none⟩ = some (.int .u64 (wd (X) 0 : Nat)) ∧ w'.cell? ⟨w.heap.size, 1, none⟩ = some (.int .u64 (wd (X) 1 : Nat)) ∧ w'.cell? ⟨w.heap.size, 2, none⟩ = some (.int .u64 (wd (X) 2 : Nat)) ∧ w'.cell? ⟨w.heap.size, 3, none⟩ = some (.int .u64 (wd (X) 3 : Nat)) ∧ w'.cell? ⟨w.heap.size, 4, none⟩ = some (.int .u64 (wd (X) 4 : Nat)) ∧ w'.cell? ⟨w.heap.size, 5, none⟩ = some (.int .u64 (wd (X) 5 : Nat)) ∧ w'.cell? ⟨w.heap.size + 1, 0, none⟩ = some (.int .u64 (wd (Y) 0 : Nat)) ∧ w'.cell? ⟨w.heap.size + 1, 1, none⟩ = some (.int .u64 (wd (Y) 1 : Nat)) ∧ w'.cell? ⟨w.heap.size + 1, 2, none⟩ = some (.int .u64 (wd (Y) 2 : Nat)) ∧ w'.cell? ⟨w.heap.size + 1, 3, none⟩ = some (.int .u64 (wd (Y) 3 : Nat)) ∧ w'.cell? ⟨w.heap.size + 1, 4, none⟩ = some (.int .u64 (wd (Y) 4 : Nat)) ∧ w'.cell? ⟨w.heap.size + 1, 5, none⟩ = some (.int .u64 (wd (Y) 5 : Nat))) := fun w' h => ⟨h, (HC.out.1.now h (by omega)) 0 (by decide), (HC.out.1.now h (by omega)) 1 (by decide), (HC.out.1.now h (by omega)) 2 (by decide), (HC.out.1.now h (by omega)) 3 (by decide), (HC.out.1.now h (by omega)) 4 (by decide), (HC.out.1.now h (by omega)) 5 (by decide), (HC.out.2.now h (by omega)) 0 (by decide), (HC.out.2.now h (by omega)) 1 (by decide), (HC.out.2.now h (by omega)) 2 (by decide), (HC.out.2.now h (by omega)) 3 (by decide), (HC.out.2.now h (by omega)) 4 (by decide), (HC.out.2.now h (by omega)) 5 (by decide)⟩
      have HSEE := shut hsee; clear hsee
      go_upto_region 5 with fail
      have heq := eq_arr
      go_region_held3 (fun w' => Now (w.heap.size + 2) W0 w' ∧ w'.cell? ⟨w.heap.size, 0, none⟩ = some (.int .u64 (wd (X) 0 : Nat)) ∧ w'.cell? ⟨w.heap.size, 1, none⟩ = some (.int .u64 (wd (X) 1 : Nat)) ∧ w'.cell? ⟨w.heap.size, 2, none⟩ = some (.int .u64 (wd (X) 2 : Nat)) ∧ w'.cell? ⟨w.heap.size, 3, none⟩ = some (.int .u64 (wd (X) 3 : Nat)) ∧ w'.cell? ⟨w.heap.size, 4, none⟩ = some (.int .u64 (wd (X) 4 : Nat)) ∧ w'.cell? ⟨w.heap.size, 5, none⟩ = some (.int .u64 (wd (X) 5 : Nat)) ∧ w'.cell? ⟨w.heap.size + 1, 0, none⟩ = some (.int .u64 (wd (Y) 0 : Nat)) ∧ w'.cell? ⟨w.heap.size + 1, 1, none⟩ = some (.int .u64 (wd (Y) 1 : Nat)) ∧ w'.cell? ⟨w.heap.size + 1, 2, none⟩ = some (.int .u64 (wd (Y) 2 : Nat)) ∧ w'.cell? ⟨w.heap.size + 1, 3, none⟩ = some (.int .u64 (wd (Y) 3 : Nat)) ∧ w'.cell? ⟨w.heap.size + 1, 4, none⟩ = some (.int .u64 (wd (Y) 4 : Nat)) ∧ w'.cell? ⟨w.heap.size + 1, 5, none⟩ = some (.int .u64 (wd (Y) 5 : Nat))) (first | exact HSEE.out _ (HM.out.drew) | exact HSEE.out _ (Q1.out)) (first | (go_at_call 13; (with_reducible refine (C1.out _).mono ?_); rintro e w11 ⟨rfl, hl1⟩; have Q1 : Shut (Now (w.heap.size + 2) W0 w11) := shut ((HM.out.drew).call hl1); clear hl1))
      all_goals
        go_wp2_with fail
        go_ret
        exact (Q1.out).keeps HN.out.2 (by omega) rfl
end Go.Proofs.Ytmkmakeoidmdhaa
