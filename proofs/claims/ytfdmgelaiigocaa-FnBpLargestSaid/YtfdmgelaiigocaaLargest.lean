/- Contracts of the regular form, of the test which of an element and its opposite is the larger, and of the thin package's functions. -/
import Derived.Test.YtfdmgelaiigocaaMont
import Derived.Test.YtfdmgelaiigocaaImpl
import Derived.Test.YtfdmgelaiigocaaReg
namespace Go.Proofs.Ytfdmgelaiigocaa
open Go.RowKit Num

/-- The regular form: a number times the inverse of 2 to so many bits. -/
def reg (X : Nat) : Nat := X * 3231460744492646417066832100176244795738767926513225105051837195607029917124509527734802654356338138714468589979680 % 4002409555221667393417789825735904156556882819939007885332058136124031650490837864442687629129015664037894272559787
theorem reg_lt (X : Nat) : reg X < 4002409555221667393417789825735904156556882819939007885332058136124031650490837864442687629129015664037894272559787 := Nat.mod_lt _ (by decide)
theorem reg_of {X : Nat} {Y M : Int} (h : Y * 39402006196394479212279040100143613805079739270465446667948293404245721771497210611414266254884915640806627990306816 = (X : Int) + M * 4002409555221667393417789825735904156556882819939007885332058136124031650490837864442687629129015664037894272559787) (h0 : 0 ≤ Y) (h1 : Y < 4002409555221667393417789825735904156556882819939007885332058136124031650490837864442687629129015664037894272559787) : Y = (reg X : Nat) := by
  unfold reg
  omega
theorem regk_reg {A : Nat} (hA : A < 4002409555221667393417789825735904156556882819939007885332058136124031650490837864442687629129015664037894272559787) : regk 4002409555221667393417789825735904156556882819939007885332058136124031650490837864442687629129015664037894272559787 A 384 = reg A := by
  have h1 := regk_lt hA 384
  have h2 := regk_mul (M := 4002409555221667393417789825735904156556882819939007885332058136124031650490837864442687629129015664037894272559787) (A := A) (by decide) 384
  rw [Nat.mod_eq_of_lt hA, show (2 : Nat) ^ 384 = 39402006196394479212279040100143613805079739270465446667948293404245721771497210611414266254884915640806627990306816 from by decide +kernel] at h2
  generalize regk 4002409555221667393417789825735904156556882819939007885332058136124031650490837864442687629129015664037894272559787 A 384 = Y at *
  unfold reg
  omega

theorem frommont (b o X : Nat) (w : World) (hX : X < 4002409555221667393417789825735904156556882819939007885332058136124031650490837864442687629129015664037894272559787) (h0 : w.cell? ⟨b, o, none⟩ = some (.int .u64 (wd X 0 : Nat))) (h1 : w.cell? ⟨b, o + 1, none⟩ = some (.int .u64 (wd X 1 : Nat))) (h2 : w.cell? ⟨b, o + 2, none⟩ = some (.int .u64 (wd X 2 : Nat))) (h3 : w.cell? ⟨b, o + 3, none⟩ = some (.int .u64 (wd X 3 : Nat))) (h4 : w.cell? ⟨b, o + 4, none⟩ = some (.int .u64 (wd X 4 : Nat))) (h5 : w.cell? ⟨b, o + 5, none⟩ = some (.int .u64 (wd X 5 : Nat))) (f0 : w.frozen? ⟨b, o, none⟩ = false) (f1 : w.frozen? ⟨b, o + 1, none⟩ = false) (f2 : w.frozen? ⟨b, o + 2, none⟩ = false) (f3 : w.frozen? ⟨b, o + 3, none⟩ = false) (f4 : w.frozen? ⟨b, o + 4, none⟩ = false) (f5 : w.frozen? ⟨b, o + 5, none⟩ = false) :
    Calls Try.prog 33 #[.pointer (some ⟨b, o, none⟩)] w fun e w' => e = .returned (.tuple #[]) ∧ (w'.cell? ⟨b, o, none⟩ = some (.int .u64 (wd (reg X) 0 : Nat)) ∧ w'.cell? ⟨b, o + 1, none⟩ = some (.int .u64 (wd (reg X) 1 : Nat)) ∧ w'.cell? ⟨b, o + 2, none⟩ = some (.int .u64 (wd (reg X) 2 : Nat)) ∧ w'.cell? ⟨b, o + 3, none⟩ = some (.int .u64 (wd (reg X) 3 : Nat)) ∧ w'.cell? ⟨b, o + 4, none⟩ = some (.int .u64 (wd (reg X) 4 : Nat)) ∧ w'.cell? ⟨b, o + 5, none⟩ = some (.int .u64 (wd (reg X) 5 : Nat))) ∧ Turns b w w' := by
  have nX : num (wd X 0 : Nat) (wd X 1 : Nat) (wd X 2 : Nat) (wd X 3 : Nat) (wd X 4 : Nat) (wd X 5 : Nat) = (X : Int) := num_wd (by omega)
  refine (frommont_t b o _ _ _ _ _ _ w (by rw [nX]; omega) (wd_nat _ _) (wd_nat _ _) (wd_nat _ _) (wd_nat _ _) (wd_nat _ _) (wd_nat _ _) h0 h1 h2 h3 h4 h5 f0 f1 f2 f3 f4 f5).mono ?_
  rintro e w' ⟨he, d0, d1, d2, d3, d4, d5, ⟨g0, g1, g2, g3, g4, g5⟩, hl, ⟨M, hM⟩, hc, ht⟩
  rw [nX] at hM
  obtain ⟨r0, r1, r2, r3, r4, r5⟩ := wd_num (A := reg X) g0 g1 g2 g3 g4 g5 (reg_of hM (num_pos g0 g1 g2 g3 g4 g5) hl)
  subst d0 d1 d2 d3 d4 d5
  exact ⟨he, hc, ht⟩
theorem frommont_w (b o X : Nat) (w : World) (hX : X < 4002409555221667393417789825735904156556882819939007885332058136124031650490837864442687629129015664037894272559787) (h0 : w.cell? ⟨b, o, none⟩ = some (.int .u64 (wd X 0 : Nat))) (h1 : w.cell? ⟨b, o + 1, none⟩ = some (.int .u64 (wd X 1 : Nat))) (h2 : w.cell? ⟨b, o + 2, none⟩ = some (.int .u64 (wd X 2 : Nat))) (h3 : w.cell? ⟨b, o + 3, none⟩ = some (.int .u64 (wd X 3 : Nat))) (h4 : w.cell? ⟨b, o + 4, none⟩ = some (.int .u64 (wd X 4 : Nat))) (h5 : w.cell? ⟨b, o + 5, none⟩ = some (.int .u64 (wd X 5 : Nat))) (f0 : w.frozen? ⟨b, o, none⟩ = false) (f1 : w.frozen? ⟨b, o + 1, none⟩ = false) (f2 : w.frozen? ⟨b, o + 2, none⟩ = false) (f3 : w.frozen? ⟨b, o + 3, none⟩ = false) (f4 : w.frozen? ⟨b, o + 4, none⟩ = false) (f5 : w.frozen? ⟨b, o + 5, none⟩ = false) :
    Calls Try.prog 28 #[.pointer (some ⟨b, o, none⟩)] w fun e w' => e = .returned (.tuple #[]) ∧ (w'.cell? ⟨b, o, none⟩ = some (.int .u64 (wd (reg X) 0 : Nat)) ∧ w'.cell? ⟨b, o + 1, none⟩ = some (.int .u64 (wd (reg X) 1 : Nat)) ∧ w'.cell? ⟨b, o + 2, none⟩ = some (.int .u64 (wd (reg X) 2 : Nat)) ∧ w'.cell? ⟨b, o + 3, none⟩ = some (.int .u64 (wd (reg X) 3 : Nat)) ∧ w'.cell? ⟨b, o + 4, none⟩ = some (.int .u64 (wd (reg X) 4 : Nat)) ∧ w'.cell? ⟨b, o + 5, none⟩ = some (.int .u64 (wd (reg X) 5 : Nat))) ∧ Turns b w w' := by
  have C := shut (frommont b o X w hX h0 h1 h2 h3 h4 h5 f0 f1 f2 f3 f4 f5)
  clear hX h0 h1 h2 h3 h4 h5 f0 f1 f2 f3 f4 f5
  go_enter Try.func28, Try.ntmps28
  go_wp2_with fail
  refine C.out.mono ?_
  rintro e w' ⟨rfl, hc, ht⟩
  have H := shut (And.intro hc ht)
  clear hc ht C
  go_wp2_with fail
  go_end0
  exact ⟨rfl, H.out.1, H.out.2⟩

theorem cell_two_at (w : World) (o : Obj) (cs : Array Value) (t : TypeId) (j : Nat) : ((w.alloc o).alloc (.cells cs t)).cell? ⟨w.heap.size + 1, j, none⟩ = cs[j]? := by
  rw [show w.heap.size + 1 = (w.alloc o).heap.size from by simp, World.cell?_alloc_new]
theorem frozen_two_at (w : World) (o : Obj) (cs : Array Value) (t : TypeId) (j : Nat) : ((w.alloc o).alloc (.cells cs t)).frozen? ⟨w.heap.size + 1, j, none⟩ = false := by
  rw [show w.heap.size + 1 = (w.alloc o).heap.size from by simp]; exact World.frozen?_alloc_new _ _ _ _
set_option maxRecDepth 100000 in
set_option maxHeartbeats 1600000 in
theorem ebits (b o X : Nat) (w : World) (hX : X < 4002409555221667393417789825735904156556882819939007885332058136124031650490837864442687629129015664037894272559787) (hb : b < w.heap.size) (h0 : w.cell? ⟨b, o, none⟩ = some (.int .u64 (wd X 0 : Nat))) (h1 : w.cell? ⟨b, o + 1, none⟩ = some (.int .u64 (wd X 1 : Nat))) (h2 : w.cell? ⟨b, o + 2, none⟩ = some (.int .u64 (wd X 2 : Nat))) (h3 : w.cell? ⟨b, o + 3, none⟩ = some (.int .u64 (wd X 3 : Nat))) (h4 : w.cell? ⟨b, o + 4, none⟩ = some (.int .u64 (wd X 4 : Nat))) (h5 : w.cell? ⟨b, o + 5, none⟩ = some (.int .u64 (wd X 5 : Nat))) : Calls Try.prog 19 #[.pointer (some ⟨b, o, none⟩)] w (Keeps w (.agg #[.int .u64 (wd ((reg X)) 0 : Nat), .int .u64 (wd ((reg X)) 1 : Nat), .int .u64 (wd ((reg X)) 2 : Nat), .int .u64 (wd ((reg X)) 3 : Nat), .int .u64 (wd ((reg X)) 4 : Nat), .int .u64 (wd ((reg X)) 5 : Nat)])) := by
  have C := shut (frommont_w (w.heap.size + 1) 0 X ((w.alloc (.cells #[.int .u64 0, .int .u64 0, .int .u64 0, .int .u64 0, .int .u64 0, .int .u64 0] 23)).alloc (.cells #[(.int .u64 (wd (X) 0 : Nat)), (.int .u64 (wd (X) 1 : Nat)), (.int .u64 (wd (X) 2 : Nat)), (.int .u64 (wd (X) 3 : Nat)), (.int .u64 (wd (X) 4 : Nat)), (.int .u64 (wd (X) 5 : Nat))] 32)) hX (by rw [cell_two_at]; rfl) (by rw [cell_two_at]; rfl) (by rw [cell_two_at]; rfl) (by rw [cell_two_at]; rfl) (by rw [cell_two_at]; rfl) (by rw [cell_two_at]; rfl) (frozen_two_at _ _ _ _ _) (frozen_two_at _ _ _ _ _) (frozen_two_at _ _ _ _ _) (frozen_two_at _ _ _ _ _) (frozen_two_at _ _ _ _ _) (frozen_two_at _ _ _ _ _))
  have a0 := (World.cell?_alloc_past (w := w) (.cells #[.int .u64 0, .int .u64 0, .int .u64 0, .int .u64 0, .int .u64 0, .int .u64 0] 23) b (o) hb).trans h0
  have a1 := (World.cell?_alloc_past (w := w) (.cells #[.int .u64 0, .int .u64 0, .int .u64 0, .int .u64 0, .int .u64 0, .int .u64 0] 23) b (o + 1) hb).trans h1
  have a2 := (World.cell?_alloc_past (w := w) (.cells #[.int .u64 0, .int .u64 0, .int .u64 0, .int .u64 0, .int .u64 0, .int .u64 0] 23) b (o + 2) hb).trans h2
  have a3 := (World.cell?_alloc_past (w := w) (.cells #[.int .u64 0, .int .u64 0, .int .u64 0, .int .u64 0, .int .u64 0, .int .u64 0] 23) b (o + 3) hb).trans h3
  have a4 := (World.cell?_alloc_past (w := w) (.cells #[.int .u64 0, .int .u64 0, .int .u64 0, .int .u64 0, .int .u64 0, .int .u64 0] 23) b (o + 4) hb).trans h4
  have a5 := (World.cell?_alloc_past (w := w) (.cells #[.int .u64 0, .int .u64 0, .int .u64 0, .int .u64 0, .int .u64 0, .int .u64 0] 23) b (o + 5) hb).trans h5
  clear hX hb h0 h1 h2 h3 h4 h5
  go_enter Try.func19, Try.ntmps19
  go_wp2_with fail
  clear a0 a1 a2 a3 a4 a5
  refine C.out.mono ?_
  rintro e w' ⟨rfl, ⟨c0, c1, c2, c3, c4, c5⟩, ht⟩
  have z0 : w'.cell? ⟨w.heap.size, 0, none⟩ = some (.int .u64 0) := by rw [ht.cell _ _ (by omega), World.cell?_alloc_past _ _ _ (by simp), World.cell?_alloc_new]; rfl
  have f0 : w'.frozen? ⟨w.heap.size, 0, none⟩ = false := by rw [ht.frozen]; simp [go_sem]
  have z1 : w'.cell? ⟨w.heap.size, 1, none⟩ = some (.int .u64 0) := by rw [ht.cell _ _ (by omega), World.cell?_alloc_past _ _ _ (by simp), World.cell?_alloc_new]; rfl
  have f1 : w'.frozen? ⟨w.heap.size, 1, none⟩ = false := by rw [ht.frozen]; simp [go_sem]
  have z2 : w'.cell? ⟨w.heap.size, 2, none⟩ = some (.int .u64 0) := by rw [ht.cell _ _ (by omega), World.cell?_alloc_past _ _ _ (by simp), World.cell?_alloc_new]; rfl
  have f2 : w'.frozen? ⟨w.heap.size, 2, none⟩ = false := by rw [ht.frozen]; simp [go_sem]
  have z3 : w'.cell? ⟨w.heap.size, 3, none⟩ = some (.int .u64 0) := by rw [ht.cell _ _ (by omega), World.cell?_alloc_past _ _ _ (by simp), World.cell?_alloc_new]; rfl
  have f3 : w'.frozen? ⟨w.heap.size, 3, none⟩ = false := by rw [ht.frozen]; simp [go_sem]
  have z4 : w'.cell? ⟨w.heap.size, 4, none⟩ = some (.int .u64 0) := by rw [ht.cell _ _ (by omega), World.cell?_alloc_past _ _ _ (by simp), World.cell?_alloc_new]; rfl
  have f4 : w'.frozen? ⟨w.heap.size, 4, none⟩ = false := by rw [ht.frozen]; simp [go_sem]
  have z5 : w'.cell? ⟨w.heap.size, 5, none⟩ = some (.int .u64 0) := by rw [ht.cell _ _ (by omega), World.cell?_alloc_past _ _ _ (by simp), World.cell?_alloc_new]; rfl
  have f5 : w'.frozen? ⟨w.heap.size, 5, none⟩ = false := by rw [ht.frozen]; simp [go_sem]
  have HT := shut ht
  clear ht C
  go_wp2_with fail
  refine bodyPost_ret (v := .agg #[.int .u64 (wd ((reg X)) 0 : Nat), .int .u64 (wd ((reg X)) 1 : Nat), .int .u64 (wd ((reg X)) 2 : Nat), .int .u64 (wd ((reg X)) 3 : Nat), .int .u64 (wd ((reg X)) 4 : Nat), .int .u64 (wd ((reg X)) 5 : Nat)]) ?_ rfl ?_
  · simp [results, Try.results19, go_sem, *]
  · refine And.intro rfl ?_
    repeat (with_reducible refine Below.setCell ?_ (by simp) _)
    exact (((Below.refl _ _).alloc (Nat.le_refl _) _).alloc (by simp) _).trans (HT.out.below.mono (by omega))

set_option maxRecDepth 100000 in
set_option maxHeartbeats 1600000 in
theorem elargest (b o X : Nat) (w : World) (hX : X < 4002409555221667393417789825735904156556882819939007885332058136124031650490837864442687629129015664037894272559787) (hb : b < w.heap.size) (h0 : w.cell? ⟨b, o, none⟩ = some (.int .u64 (wd X 0 : Nat))) (h1 : w.cell? ⟨b, o + 1, none⟩ = some (.int .u64 (wd X 1 : Nat))) (h2 : w.cell? ⟨b, o + 2, none⟩ = some (.int .u64 (wd X 2 : Nat))) (h3 : w.cell? ⟨b, o + 3, none⟩ = some (.int .u64 (wd X 3 : Nat))) (h4 : w.cell? ⟨b, o + 4, none⟩ = some (.int .u64 (wd X 4 : Nat))) (h5 : w.cell? ⟨b, o + 5, none⟩ = some (.int .u64 (wd X 5 : Nat))) : Calls Try.prog 12 #[.pointer (some ⟨b, o, none⟩)] w (Keeps w (.bool (decide (2001204777610833696708894912867952078278441409969503942666029068062015825245418932221343814564507832018947136279893 < reg X)))) := by
  have C := shut (ebits b o X w hX hb h0 h1 h2 h3 h4 h5)
  clear hX hb h0 h1 h2 h3 h4 h5
  obtain ⟨Y, hY⟩ : ∃ Y, reg X = Y := ⟨_, rfl⟩
  have hlt : Y < 4002409555221667393417789825735904156556882819939007885332058136124031650490837864442687629129015664037894272559787 := by rw [← hY]; exact reg_lt X
  rw [hY] at C ⊢
  clear hY
  obtain ⟨s0, k0, m0, r0⟩ := sub64 (wd_nat Y 0) (y := 15924587544893707606) ⟨by omega, by omega⟩ (c := 0) Bt.zero
  obtain ⟨s1, k1, m1, r1⟩ := sub64 (wd_nat Y 1) (y := 1105070755758604287) ⟨by omega, by omega⟩ (c := k0) m0.bt
  obtain ⟨s2, k2, m2, r2⟩ := sub64 (wd_nat Y 2) (y := 12941209323636816658) ⟨by omega, by omega⟩ (c := k1) m1.bt
  obtain ⟨s3, k3, m3, r3⟩ := sub64 (wd_nat Y 3) (y := 12843041017062132063) ⟨by omega, by omega⟩ (c := k2) m2.bt
  obtain ⟨s4, k4, m4, r4⟩ := sub64 (wd_nat Y 4) (y := 2706051889235351147) ⟨by omega, by omega⟩ (c := k3) m3.bt
  obtain ⟨s5, k5, m5, r5⟩ := sub64 (wd_nat Y 5) (y := 936899308823769933) ⟨by omega, by omega⟩ (c := k4) m4.bt
  have hk : (k5 == 0) = decide (2001204777610833696708894912867952078278441409969503942666029068062015825245418932221343814564507832018947136279893 < Y) := by
    have hn : num (wd Y 0 : Nat) (wd Y 1 : Nat) (wd Y 2 : Nat) (wd Y 3 : Nat) (wd Y 4 : Nat) (wd Y 5 : Nat) = (Y : Int) := num_wd (by omega)
    unfold num at hn
    unfold Subs at m0 m1 m2 m3 m4 m5
    generalize ((wd Y 0 : Nat) : Int) = y0 at *
    generalize ((wd Y 1 : Nat) : Int) = y1 at *
    generalize ((wd Y 2 : Nat) : Int) = y2 at *
    generalize ((wd Y 3 : Nat) : Int) = y3 at *
    generalize ((wd Y 4 : Nat) : Int) = y4 at *
    generalize ((wd Y 5 : Nat) : Int) = y5 at *
    rw [Bool.eq_iff_iff]
    simp only [beq_iff_eq, decide_eq_true_eq]
    omega
  have HK := shut hk
  clear hk hlt m0 m1 m2 m3 m4 m5
  have HR0 := shut r0; clear r0
  have HR1 := shut r1; clear r1
  have HR2 := shut r2; clear r2
  have HR3 := shut r3; clear r3
  have HR4 := shut r4; clear r4
  have HR5 := shut r5; clear r5
  go_enter Try.func12, Try.ntmps12
  go_wp2_with fail
  refine C.out.mono ?_
  rintro e w1 ⟨rfl, hb1⟩
  have HB := shut hb1
  clear hb1 C
  have r0 := HR0.out
  have r1 := HR1.out
  have r2 := HR2.out
  have r3 := HR3.out
  have r4 := HR4.out
  have r5 := HR5.out
  go_wp2_with fail
  go_ret
  exact ⟨by rw [← HK.out]; rfl, HB.out.alloc HB.out.size _⟩

set_option maxRecDepth 100000 in
set_option maxHeartbeats 800000 in
theorem impl_largest (X : Nat) (hX : X < 4002409555221667393417789825735904156556882819939007885332058136124031650490837864442687629129015664037894272559787) (w : World) : Calls Try.prog 7 #[.agg #[.int .u64 (wd (X) 0 : Nat), .int .u64 (wd (X) 1 : Nat), .int .u64 (wd (X) 2 : Nat), .int .u64 (wd (X) 3 : Nat), .int .u64 (wd (X) 4 : Nat), .int .u64 (wd (X) 5 : Nat)]] w (Keeps w (.bool (decide (2001204777610833696708894912867952078278441409969503942666029068062015825245418932221343814564507832018947136279893 < reg X)))) := by
  have HX := shut hX; clear hX
  go_enter Try.func7, Try.ntmps7
  go_wp2_with fail
  refine (elargest _ _ X _ HX.out (by simp) (by simp [go_sem]) (by simp [go_sem]) (by simp [go_sem]) (by simp [go_sem]) (by simp [go_sem]) (by simp [go_sem])).mono ?_
  rintro e w' ⟨rfl, hb⟩
  have HB := shut hb; clear hb
  go_wp2_with fail
  go_ret
  exact ⟨rfl, (((Below.refl _ _).alloc (Nat.le_refl _) _).alloc (by simp) _).trans (HB.out.mono (by simp; omega))⟩
end Go.Proofs.Ytfdmgelaiigocaa
