/- The way out of the Montgomery form with six words: the walk of round 5. -/
import Derived.Test.YtfdmgelaiigocaaMontH
namespace Go.Proofs.Ytfdmgelaiigocaa
open Go.RowKit Num

set_option maxRecDepth 100000 in
set_option maxHeartbeats 64000000 in
theorem rnd_5 {K : Act → World → Prop} {Q' : Exit → Act → World → Prop} (b o : Nat) (w wx : World) (m5 C5_0 C5_1 C5_2 C5_3 C5_4 z5_0 z5_1 z5_2 z5_3 z5_4 z5_5 z6_0 z6_1 z6_2 z6_3 z6_4 z6_5 : Int) (M : Shut (MontR z5_0 z5_1 z5_2 z5_3 z5_4 z5_5 m5 C5_0 C5_1 C5_2 C5_3 C5_4 z6_0 z6_1 z6_2 z6_3 z6_4 z6_5)) (hst : Shut (Stt b o w wx z5_0 z5_1 z5_2 z5_3 z5_4 z5_5)) (a : Act) (ha : Frx (.pointer (some ⟨b, o, none⟩)) a) (hK : ∀ a' w', Frx (.pointer (some ⟨b, o, none⟩)) a' ∧ Shut (Stt b o w w' z6_0 z6_1 z6_2 z6_3 z6_4 z6_5) → K a' w') : Code.wp Try.prog (hd (tl (tl (tl (tl (tl bd)))))) (Exit.then K Q') a wx := by
  refine wp_cut (fun a' w' => Frx (.pointer (some ⟨b, o, none⟩)) a' ∧ Shut (Stt b o w w' z6_0 z6_1 z6_2 z6_3 z6_4 z6_5)) hK ?_
  clear hK
  intro J K' hJ hK'
  obtain ⟨f, rfl⟩ := ha
  conv => arg 2; whnf
  have o0 := hst.out.c0; have o1 := M.out.1
  go_wp2_with fail
  clear o0 o1
  refine (M.out.2.1 _).mono ?_
  rintro e w' ⟨rfl, rfl⟩
  go_upto_region 42 with fail
  go_cut [13] from 426 to 438 (fun c wx => c = .int .u64 C5_1 ∧ Shut (Stt b o w wx z6_0 z5_1 z5_2 z5_3 z5_4 z5_5))
  case first =>
    have o0 := hst.out.c1; have o1 := hst.out.c0; have o2 := hst.out.f0
    refine wp_region_still_tail 14 (by kernel_rfl) (by kernel_rfl) ?_
    simp only [List.take_succ_cons, List.take_zero, List.drop_succ_cons, List.drop_zero]
    repeat still_step
    still_call ((M.out.2.2.1 _).mono (fun _ _ h => ⟨h.1, h.2.symm⟩))
    repeat still_step
    refine wpStill_nil ?_
    change wpList _ _ _ _ _ (World.drew _)
    go_wp2_with fail
    clear o0 o1 o2
    go_meet
    exact ⟨rfl, shut (stt_upd0 hst.out _)⟩
  clear hst
  obtain ⟨rfl, hst⟩ := hcut
  go_upto_region 43 with fail
  go_cut [13] from 439 to 451 (fun c wx => c = .int .u64 C5_2 ∧ Shut (Stt b o w wx z6_0 z6_1 z5_2 z5_3 z5_4 z5_5))
  case first =>
    have o0 := hst.out.c2; have o1 := hst.out.c1; have o2 := hst.out.f1
    refine wp_region_still_tail 14 (by kernel_rfl) (by kernel_rfl) ?_
    simp only [List.take_succ_cons, List.take_zero, List.drop_succ_cons, List.drop_zero]
    repeat still_step
    still_call ((M.out.2.2.2.1 _).mono (fun _ _ h => ⟨h.1, h.2.symm⟩))
    repeat still_step
    refine wpStill_nil ?_
    change wpList _ _ _ _ _ (World.drew _)
    go_wp2_with fail
    clear o0 o1 o2
    go_meet
    exact ⟨rfl, shut (stt_upd1 hst.out _)⟩
  clear hst
  obtain ⟨rfl, hst⟩ := hcut
  go_upto_region 44 with fail
  go_cut [13] from 452 to 464 (fun c wx => c = .int .u64 C5_3 ∧ Shut (Stt b o w wx z6_0 z6_1 z6_2 z5_3 z5_4 z5_5))
  case first =>
    have o0 := hst.out.c3; have o1 := hst.out.c2; have o2 := hst.out.f2
    refine wp_region_still_tail 14 (by kernel_rfl) (by kernel_rfl) ?_
    simp only [List.take_succ_cons, List.take_zero, List.drop_succ_cons, List.drop_zero]
    repeat still_step
    still_call ((M.out.2.2.2.2.1 _).mono (fun _ _ h => ⟨h.1, h.2.symm⟩))
    repeat still_step
    refine wpStill_nil ?_
    change wpList _ _ _ _ _ (World.drew _)
    go_wp2_with fail
    clear o0 o1 o2
    go_meet
    exact ⟨rfl, shut (stt_upd2 hst.out _)⟩
  clear hst
  obtain ⟨rfl, hst⟩ := hcut
  go_upto_region 45 with fail
  go_cut [13] from 465 to 477 (fun c wx => c = .int .u64 C5_4 ∧ Shut (Stt b o w wx z6_0 z6_1 z6_2 z6_3 z5_4 z5_5))
  case first =>
    have o0 := hst.out.c4; have o1 := hst.out.c3; have o2 := hst.out.f3
    refine wp_region_still_tail 14 (by kernel_rfl) (by kernel_rfl) ?_
    simp only [List.take_succ_cons, List.take_zero, List.drop_succ_cons, List.drop_zero]
    repeat still_step
    still_call ((M.out.2.2.2.2.2.1 _).mono (fun _ _ h => ⟨h.1, h.2.symm⟩))
    repeat still_step
    refine wpStill_nil ?_
    change wpList _ _ _ _ _ (World.drew _)
    go_wp2_with fail
    clear o0 o1 o2
    go_meet
    exact ⟨rfl, shut (stt_upd3 hst.out _)⟩
  clear hst
  obtain ⟨rfl, hst⟩ := hcut
  go_upto_region 46 with fail
  go_cut [13] from 478 to 490 (fun c wx => c = .int .u64 z6_5 ∧ Shut (Stt b o w wx z6_0 z6_1 z6_2 z6_3 z6_4 z5_5))
  case first =>
    have o0 := hst.out.c5; have o1 := hst.out.c4; have o2 := hst.out.f4
    refine wp_region_still_tail 14 (by kernel_rfl) (by kernel_rfl) ?_
    simp only [List.take_succ_cons, List.take_zero, List.drop_succ_cons, List.drop_zero]
    repeat still_step
    still_call ((M.out.2.2.2.2.2.2 _).mono (fun _ _ h => ⟨h.1, h.2.symm⟩))
    repeat still_step
    refine wpStill_nil ?_
    change wpList _ _ _ _ _ (World.drew _)
    go_wp2_with fail
    clear o0 o1 o2
    go_meet
    exact ⟨rfl, shut (stt_upd4 hst.out _)⟩
  clear hst
  obtain ⟨rfl, hst⟩ := hcut
  have o0 := hst.out.c5; have o1 := hst.out.f5
  go_wp2_with fail
  exact Met.intro (hJ _ _ ⟨frx_of _ _ rfl, shut (stt_put5 hst.out _)⟩)
end Go.Proofs.Ytfdmgelaiigocaa
