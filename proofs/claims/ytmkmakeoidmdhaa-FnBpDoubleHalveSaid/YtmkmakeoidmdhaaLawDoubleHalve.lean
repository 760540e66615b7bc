/- The law on the half of the double: its walk. -/
import Derived.Test.YtmkmakeoidmdhaaLawHalve
import Derived.Deep.RegionHeld3
import Derived.Test.YtmkmakeoidmdhaaEqArr
namespace Go.Proofs.Ytmkmakeoidmdhaa
open Go.RowKit Num

theorem double_lt {X : Nat} : (X + X) % 4002409555221667393417789825735904156556882819939007885332058136124031650490837864442687629129015664037894272559787 < 4002409555221667393417789825735904156556882819939007885332058136124031650490837864442687629129015664037894272559787 := Nat.mod_lt _ (by decide)
theorem halve_double {X : Nat} (h : X < 4002409555221667393417789825735904156556882819939007885332058136124031650490837864442687629129015664037894272559787) : halve ((X + X) % 4002409555221667393417789825735904156556882819939007885332058136124031650490837864442687629129015664037894272559787) = X := by
  unfold halve
  by_cases g : X + X < 4002409555221667393417789825735904156556882819939007885332058136124031650490837864442687629129015664037894272559787
  · rw [Nat.mod_eq_of_lt g]; split <;> omega
  · rw [add_hit h h (by omega)]; split <;> omega

set_option maxRecDepth 100000 in
set_option maxHeartbeats 6400000 in
theorem law_doubleHalve (X : Nat) (hX : X < 39402006196394479212279040100143613805079739270465446667948293404245721771497210611414266254884915640806627990306816) (w : World) : Calls Try.prog 8 #[el X] w (Keeps w (.bool true)) := by
  have CX : Cells (w.alloc (.cells #[.int .u64 (wd (X) 0 : Nat), .int .u64 (wd (X) 1 : Nat), .int .u64 (wd (X) 2 : Nat), .int .u64 (wd (X) 3 : Nat), .int .u64 (wd (X) 4 : Nat), .int .u64 (wd (X) 5 : Nat)] 23)) (w.heap.size) 0 6 X := by have := (own_new w X 23).cells; simpa using this
  have HC := shut (CX); clear CX
  have HN : Shut (Now (w.heap.size + 1) (w.alloc (.cells #[.int .u64 (wd (X) 0 : Nat), .int .u64 (wd (X) 1 : Nat), .int .u64 (wd (X) 2 : Nat), .int .u64 (wd (X) 3 : Nat), .int .u64 (wd (X) 4 : Nat), .int .u64 (wd (X) 5 : Nat)] 23)) (w.alloc (.cells #[.int .u64 (wd (X) 0 : Nat), .int .u64 (wd (X) 1 : Nat), .int .u64 (wd (X) 2 : Nat), .int .u64 (wd (X) 3 : Nat), .int .u64 (wd (X) 4 : Nat), .int .u64 (wd (X) 5 : Nat)] 23)) ∧ Below w.heap.size w (w.alloc (.cells #[.int .u64 (wd (X) 0 : Nat), .int .u64 (wd (X) 1 : Nat), .int .u64 (wd (X) 2 : Nat), .int .u64 (wd (X) 3 : Nat), .int .u64 (wd (X) 4 : Nat), .int .u64 (wd (X) 5 : Nat)] 23))) := shut ⟨Now.start (by simp), (Below.refl _ _).alloc (by simp <;> omega) _⟩
  have HXY := shut (hX); clear hX
  unfold el
  go_enter Try.func8, Try.ntmps8
  go_upto_region 1 with fail
  generalize hW : (w.alloc (.cells #[.int .u64 (wd (X) 0 : Nat), .int .u64 (wd (X) 1 : Nat), .int .u64 (wd (X) 2 : Nat), .int .u64 (wd (X) 3 : Nat), .int .u64 (wd (X) 4 : Nat), .int .u64 (wd (X) 5 : Nat)] 23)) = W0 at *
  have HW := shut hW; clear hW
  go_cut [6] (fun s6 wc => s6 = .bool (!decide (X < 4002409555221667393417789825735904156556882819939007885332058136124031650490837864442687629129015664037894272559787)) ∧ Now (w.heap.size + 1) W0 wc)
  case first =>
    by_cases hx0 : X < 4002409555221667393417789825735904156556882819939007885332058136124031650490837864442687629129015664037894272559787
    · have ex0 : decide (X < 4002409555221667393417789825735904156556882819939007885332058136124031650490837864442687629129015664037894272559787) = true := by simpa using hx0
      clear hx0
      first | (go_region_with (first | (go_at_call 12; refine (prime_any _).mono ?_; rintro e w1 ⟨b1, rfl, hb1, ho1, hl1⟩; have g1 := shut (And.intro ho1 (HN.out.1.drew.call hl1)); clear hb1 ho1 hl1) | (go_at_call 11; refine (less_any (w.heap.size) 0 6 b1 0 6 6 X 4002409555221667393417789825735904156556882819939007885332058136124031650490837864442687629129015664037894272559787 w1 (by decide) HXY.out (by decide) (HC.out.now g1.out.2 (by omega)) g1.out.1.cells).mono ?_; rintro e w' ⟨rfl, m1, rfl⟩))) | fail
      all_goals
        go_wp2_with fail
        go_meet
        exact ⟨by simp [ex0], g1.out.2.drewN m1⟩
    · have ex0 : decide (X < 4002409555221667393417789825735904156556882819939007885332058136124031650490837864442687629129015664037894272559787) = false := by simpa using hx0
      clear hx0
      first | (go_region_with (first | (go_at_call 12; refine (prime_any _).mono ?_; rintro e w1 ⟨b1, rfl, hb1, ho1, hl1⟩; have g1 := shut (And.intro ho1 (HN.out.1.drew.call hl1)); clear hb1 ho1 hl1) | (go_at_call 11; refine (less_any (w.heap.size) 0 6 b1 0 6 6 X 4002409555221667393417789825735904156556882819939007885332058136124031650490837864442687629129015664037894272559787 w1 (by decide) HXY.out (by decide) (HC.out.now g1.out.2 (by omega)) g1.out.1.cells).mono ?_; rintro e w' ⟨rfl, m1, rfl⟩))) | fail
      all_goals
        go_wp2_with fail
        go_meet
        exact ⟨by simp [ex0], g1.out.2.drewN m1⟩
  case rest =>
    obtain ⟨rfl, hn⟩ := hcut
    have HM := shut hn; clear hn
    by_cases hbad : (!decide (X < 4002409555221667393417789825735904156556882819939007885332058136124031650490837864442687629129015664037894272559787)) = true
    · rw [hbad]
      go_wp2_with fail
      go_ret
      exact HM.out.keeps HN.out.2 (by omega) rfl
    have hgood : X < 4002409555221667393417789825735904156556882819939007885332058136124031650490837864442687629129015664037894272559787 := by simpa using hbad
    rw [show (!decide (X < 4002409555221667393417789825735904156556882819939007885332058136124031650490837864442687629129015664037894272559787)) = false from by simpa using hbad]
    clear hbad
    have lX := hgood; clear hgood
    have LX := shut lX; clear lX
    have h1 : halve ((X + X) % 4002409555221667393417789825735904156556882819939007885332058136124031650490837864442687629129015664037894272559787) = X := halve_double LX.out
    have h2 : (halve X + halve X) % 4002409555221667393417789825735904156556882819939007885332058136124031650490837864442687629129015664037894272559787 = X := halve_twice LX.out
    obtain ⟨D, hD⟩ : ∃ D, D = (X + X) % 4002409555221667393417789825735904156556882819939007885332058136124031650490837864442687629129015664037894272559787 := ⟨_, rfl⟩
    obtain ⟨E, hE⟩ : ∃ E, E = halve X := ⟨_, rfl⟩
    have c1 := fun w => impl_double X D hD LX.out w
    have c2 := fun w => impl_halve D X (by rw [hD, h1]) (by rw [hD]; exact double_lt) w
    have c3 := fun w => impl_halve X E hE LX.out w
    have c4 := fun w => impl_double E X (by rw [hE, h2]) (by rw [hE]; exact halve_lt LX.out) w
    have C1 := shut c1; have C2 := shut c2; have C3 := shut c3; have C4 := shut c4
    clear c1 c2 c3 c4 h1 h2 hD hE
    have hsee : ∀ w', Now (w.heap.size + 1) W0 w' → (Now (w.heap.size + 1) W0 w' ∧ w'.cell? ⟨w.heap.size, 0, none⟩ = some (.int .u64 (wd (X) 0 : Nat)) ∧ w'.cell? ⟨w.heap.size, 1, none⟩ = some (.int .u64 (wd (X) 1 : Nat)) ∧ w'.cell? ⟨w.heap.size, 2, none⟩ = some (.int .u64 (wd (X) 2 : Nat)) ∧ w'.cell? ⟨w.heap.size, 3, none⟩ = some (.int .u64 (wd (X) 3 : Nat)) ∧ w'.cell? ⟨w.heap.size, 4, none⟩ = some (.int .u64 (wd (X) 4 : Nat)) ∧ w'.cell? ⟨w.heap.size, 5, none⟩ = some (.int .u64 (wd (X) 5 : Nat))) := fun w' h => ⟨h, (HC.out.now h (by omega)) 0 (by decide), (HC.out.now h (by omega)) 1 (by decide), (HC.out.now h (by omega)) 2 (by decide), (HC.out.now h (by omega)) 3 (by decide), (HC.out.now h (by omega)) 4 (by decide), (HC.out.now h (by omega)) 5 (by decide)⟩
    have HSEE := shut hsee; clear hsee
    go_upto_region 3 with fail
    have heq := eq_arr
    go_region_held3 (fun w' => Now (w.heap.size + 1) W0 w' ∧ w'.cell? ⟨w.heap.size, 0, none⟩ = some (.int .u64 (wd (X) 0 : Nat)) ∧ w'.cell? ⟨w.heap.size, 1, none⟩ = some (.int .u64 (wd (X) 1 : Nat)) ∧ w'.cell? ⟨w.heap.size, 2, none⟩ = some (.int .u64 (wd (X) 2 : Nat)) ∧ w'.cell? ⟨w.heap.size, 3, none⟩ = some (.int .u64 (wd (X) 3 : Nat)) ∧ w'.cell? ⟨w.heap.size, 4, none⟩ = some (.int .u64 (wd (X) 4 : Nat)) ∧ w'.cell? ⟨w.heap.size, 5, none⟩ = some (.int .u64 (wd (X) 5 : Nat))) (first | exact HSEE.out _ (HM.out.drew) | exact HSEE.out _ (Q1.out) | exact HSEE.out _ (Q2.out) | exact HSEE.out _ (Q3.out) | exact HSEE.out _ (Q4.out)) (first | (go_at_call 21; have _t := Q3; (with_reducible refine (C4.out _).mono ?_); rintro e w14 ⟨rfl, hl4⟩; have Q4 : Shut (Now (w.heap.size + 1) W0 w14) := shut (Q3.out.call hl4); clear hl4; clear _t) | (go_at_call 16; have _t := Q2; (with_reducible refine (C3.out _).mono ?_); rintro e w13 ⟨rfl, hl3⟩; have Q3 : Shut (Now (w.heap.size + 1) W0 w13) := shut (Q2.out.call hl3); clear hl3; clear _t) | (go_at_call 16; have _t := Q1; (with_reducible refine (C2.out _).mono ?_); rintro e w12 ⟨rfl, hl2⟩; have Q2 : Shut (Now (w.heap.size + 1) W0 w12) := shut (Q1.out.call hl2); clear hl2; clear _t) | (go_at_call 21; (with_reducible refine (C1.out _).mono ?_); rintro e w11 ⟨rfl, hl1⟩; have Q1 : Shut (Now (w.heap.size + 1) W0 w11) := shut ((HM.out.drew).call hl1); clear hl1))
    all_goals
      go_wp2_with fail
      go_ret
      exact (Q4.out).keeps HN.out.2 (by omega) rfl
end Go.Proofs.Ytmkmakeoidmdhaa
