/- Contract of the field's way out of the Montgomery form. -/
import Derived.Test.YtfdmgelaiigocaaMadd
import Derived.Test.YtfdmgelaiigocaaTurn
import Derived.Deep.RegionWith
import Derived.Deep.CutRange
import Derived.StillTailTactics
import Derived.Test.YtfdmgelaiigocaaMontR0
import Derived.Test.YtfdmgelaiigocaaMontR1
import Derived.Test.YtfdmgelaiigocaaMontR2
import Derived.Test.YtfdmgelaiigocaaMontR3
import Derived.Test.YtfdmgelaiigocaaMontR4
import Derived.Test.YtfdmgelaiigocaaMontR5
namespace Go.Proofs.Ytfdmgelaiigocaa
open Go.RowKit Num



set_option maxRecDepth 100000 in
set_option maxHeartbeats 64000000 in
theorem frommont_t (b o : Nat) (z0_0 z0_1 z0_2 z0_3 z0_4 z0_5 : Int) (w : World) (hX : num z0_0 z0_1 z0_2 z0_3 z0_4 z0_5 < 4002409555221667393417789825735904156556882819939007885332058136124031650490837864442687629129015664037894272559787) (g0_0 : Wd z0_0) (g0_1 : Wd z0_1) (g0_2 : Wd z0_2) (g0_3 : Wd z0_3) (g0_4 : Wd z0_4) (g0_5 : Wd z0_5) (h0_0 : w.cell? ⟨b, o, none⟩ = some (.int .u64 z0_0)) (h0_1 : w.cell? ⟨b, o + 1, none⟩ = some (.int .u64 z0_1)) (h0_2 : w.cell? ⟨b, o + 2, none⟩ = some (.int .u64 z0_2)) (h0_3 : w.cell? ⟨b, o + 3, none⟩ = some (.int .u64 z0_3)) (h0_4 : w.cell? ⟨b, o + 4, none⟩ = some (.int .u64 z0_4)) (h0_5 : w.cell? ⟨b, o + 5, none⟩ = some (.int .u64 z0_5)) (f0_0 : w.frozen? ⟨b, o, none⟩ = false) (f0_1 : w.frozen? ⟨b, o + 1, none⟩ = false) (f0_2 : w.frozen? ⟨b, o + 2, none⟩ = false) (f0_3 : w.frozen? ⟨b, o + 3, none⟩ = false) (f0_4 : w.frozen? ⟨b, o + 4, none⟩ = false) (f0_5 : w.frozen? ⟨b, o + 5, none⟩ = false) :
    Calls Try.prog 33 #[.pointer (some ⟨b, o, none⟩)] w (Montd b o w (num z0_0 z0_1 z0_2 z0_3 z0_4 z0_5)) := by
  have G0 := (show Wd z0_0 ∧ Wd z0_1 ∧ Wd z0_2 ∧ Wd z0_3 ∧ Wd z0_4 ∧ Wd z0_5 from ⟨g0_0, g0_1, g0_2, g0_3, g0_4, g0_5⟩)
  obtain ⟨m0, C0_0, C0_1, C0_2, C0_3, C0_4, z1_0, z1_1, z1_2, z1_3, z1_4, z1_5, M, G1, h, e0⟩ := mont_rnd z0_0 z0_1 z0_2 z0_3 z0_4 z0_5 (G0.1) (G0.2.1) (G0.2.2.1) (G0.2.2.2.1) (G0.2.2.2.2.1) (G0.2.2.2.2.2) hX
  have M0 := shut M; clear M
  clear G0 hX
  obtain ⟨m1, C1_0, C1_1, C1_2, C1_3, C1_4, z2_0, z2_1, z2_2, z2_3, z2_4, z2_5, M, G2, h, e1⟩ := mont_rnd z1_0 z1_1 z1_2 z1_3 z1_4 z1_5 (G1.1) (G1.2.1) (G1.2.2.1) (G1.2.2.2.1) (G1.2.2.2.2.1) (G1.2.2.2.2.2) h
  have M1 := shut M; clear M
  clear G1
  obtain ⟨m2, C2_0, C2_1, C2_2, C2_3, C2_4, z3_0, z3_1, z3_2, z3_3, z3_4, z3_5, M, G3, h, e2⟩ := mont_rnd z2_0 z2_1 z2_2 z2_3 z2_4 z2_5 (G2.1) (G2.2.1) (G2.2.2.1) (G2.2.2.2.1) (G2.2.2.2.2.1) (G2.2.2.2.2.2) h
  have M2 := shut M; clear M
  clear G2
  obtain ⟨m3, C3_0, C3_1, C3_2, C3_3, C3_4, z4_0, z4_1, z4_2, z4_3, z4_4, z4_5, M, G4, h, e3⟩ := mont_rnd z3_0 z3_1 z3_2 z3_3 z3_4 z3_5 (G3.1) (G3.2.1) (G3.2.2.1) (G3.2.2.2.1) (G3.2.2.2.2.1) (G3.2.2.2.2.2) h
  have M3 := shut M; clear M
  clear G3
  obtain ⟨m4, C4_0, C4_1, C4_2, C4_3, C4_4, z5_0, z5_1, z5_2, z5_3, z5_4, z5_5, M, G5, h, e4⟩ := mont_rnd z4_0 z4_1 z4_2 z4_3 z4_4 z4_5 (G4.1) (G4.2.1) (G4.2.2.1) (G4.2.2.2.1) (G4.2.2.2.2.1) (G4.2.2.2.2.2) h
  have M4 := shut M; clear M
  clear G4
  obtain ⟨m5, C5_0, C5_1, C5_2, C5_3, C5_4, z6_0, z6_1, z6_2, z6_3, z6_4, z6_5, M, G6, h, e5⟩ := mont_rnd z5_0 z5_1 z5_2 z5_3 z5_4 z5_5 (G5.1) (G5.2.1) (G5.2.2.1) (G5.2.2.2.1) (G5.2.2.2.2.1) (G5.2.2.2.2.2) h
  have M5 := shut M; clear M
  clear G5
  have HS := shut (And.intro G6 (And.intro h (mont_sum e0 e1 e2 e3 e4 e5)))
  clear G6 h e0 e1 e2 e3 e4 e5
  have hst : Shut (Stt b o w w z0_0 z0_1 z0_2 z0_3 z0_4 z0_5) := shut ⟨h0_0, h0_1, h0_2, h0_3, h0_4, h0_5, f0_0, f0_1, f0_2, f0_3, f0_4, f0_5, Turns.refl b w⟩
  clear g0_0 g0_1 g0_2 g0_3 g0_4 g0_5 h0_0 h0_1 h0_2 h0_3 h0_4 h0_5 f0_0 f0_1 f0_2 f0_3 f0_4 f0_5
  have ht : decide (num z6_0 z6_1 z6_2 z6_3 z6_4 z6_5 < 4002409555221667393417789825735904156556882819939007885332058136124031650490837864442687629129015664037894272559787) = true := by have := HS.out.2.1; simpa using this
  have HT := shut ht; clear ht
  go_enter Try.func33, Try.ntmps33
  refine wp_seq ?_
  refine rnd_0 b o w _ _ _ _ _ _ _ _ _ _ _ _ _ _ _ _ _ _ _ M0 hst _ (frx_of _ _ rfl) ?_
  clear hst
  rintro a0 w0 ⟨hfr, hst⟩
  refine wp_seq ?_
  refine rnd_1 b o w _ _ _ _ _ _ _ _ _ _ _ _ _ _ _ _ _ _ _ M1 hst _ hfr ?_
  clear hst hfr
  rintro a1 w1 ⟨hfr, hst⟩
  refine wp_seq ?_
  refine rnd_2 b o w _ _ _ _ _ _ _ _ _ _ _ _ _ _ _ _ _ _ _ M2 hst _ hfr ?_
  clear hst hfr
  rintro a2 w2 ⟨hfr, hst⟩
  refine wp_seq ?_
  refine rnd_3 b o w _ _ _ _ _ _ _ _ _ _ _ _ _ _ _ _ _ _ _ M3 hst _ hfr ?_
  clear hst hfr
  rintro a3 w3 ⟨hfr, hst⟩
  refine wp_seq ?_
  refine rnd_4 b o w _ _ _ _ _ _ _ _ _ _ _ _ _ _ _ _ _ _ _ M4 hst _ hfr ?_
  clear hst hfr
  rintro a4 w4 ⟨hfr, hst⟩
  refine wp_seq ?_
  refine rnd_5 b o w _ _ _ _ _ _ _ _ _ _ _ _ _ _ _ _ _ _ _ M5 hst _ hfr ?_
  clear hst hfr
  rintro a5 w5 ⟨hfr, hst⟩
  obtain ⟨f, rfl⟩ := hfr
  have hsm := HS.out.1
  go_wp2_with fail
  refine (small_any b o z6_0 z6_1 z6_2 z6_3 z6_4 z6_5 _ (hsm.1) (hsm.2.1) (hsm.2.2.1) (hsm.2.2.2.1) (hsm.2.2.2.2.1) (hsm.2.2.2.2.2) hst.out.c0 hst.out.c1 hst.out.c2 hst.out.c3 hst.out.c4 hst.out.c5).mono ?_
  rintro e w' ⟨rfl, rfl⟩
  clear hsm
  have ht := HT.out
  go_wp2_with fail
  go_end0
  exact ⟨rfl, z6_0, z6_1, z6_2, z6_3, z6_4, z6_5, HS.out.1, HS.out.2.1, HS.out.2.2, ⟨hst.out.c0, hst.out.c1, hst.out.c2, hst.out.c3, hst.out.c4, hst.out.c5⟩, hst.out.t⟩
end Go.Proofs.Ytfdmgelaiigocaa
