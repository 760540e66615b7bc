/- Contract of the field's sum of two products of words and signed factors. -/
import Derived.Test.YtfdmgelaiigocaaMulw
namespace Go.Proofs.Ytfdmgelaiigocaa
open Go.RowKit Num

/-- Of w's memory nothing but cells of block g has turned; there may be new blocks. -/
structure Grows (g : Nat) (w w' : World) : Prop where
  cell : ∀ b o, b ≠ g → b < w.heap.size → w'.cell? ⟨b, o, none⟩ = w.cell? ⟨b, o, none⟩
  frozen : ∀ b o, b < w.heap.size → w'.frozen? ⟨b, o, none⟩ = w.frozen? ⟨b, o, none⟩
  below : Below g w w'
  size : w.heap.size ≤ w'.heap.size
theorem Grows.refl (g : Nat) (w : World) : Grows g w w := ⟨fun _ _ _ _ => rfl, fun _ _ _ => rfl, Below.refl _ _, Nat.le_refl _⟩
theorem Turns.grows {g : Nat} {w w' : World} (h : Turns g w w') : Grows g w w' := ⟨fun b o hb _ => h.cell b o hb, fun b o _ => h.frozen b o, h.below, Nat.le_of_eq h.size.symm⟩
theorem Grows.trans {g : Nat} {w w' w'' : World} (h : Grows g w w') (h' : Grows g w' w'') : Grows g w w'' :=
  ⟨fun b o hb hs => (h'.cell b o hb (Nat.lt_of_lt_of_le hs h.size)).trans (h.cell b o hb hs), fun b o hs => (h'.frozen b o (Nat.lt_of_lt_of_le hs h.size)).trans (h.frozen b o hs), h.below.trans h'.below, Nat.le_trans h.size h'.size⟩
theorem Grows.drewN {g : Nat} {w w' : World} (h : Grows g w w') (m : Nat) : Grows g w (w'.drewN m) := ⟨h.cell, h.frozen, below_drawn h.below m, h.size⟩
/-- A new block that alone turns is no turn. -/
theorem Grows.fresh {g : Nat} {w w' : World} (hg : g < w.heap.size) {o : Obj} (h : Turns w.heap.size (w.alloc o) w') : Grows g w w' :=
  ⟨fun b o' _ hs => (h.cell b o' (by omega)).trans (World.cell?_alloc_lt w o ⟨b, o', none⟩ hs), fun b o' hs => (h.frozen b o').trans (((Below.refl w.heap.size w).alloc (Nat.le_refl _) o).frozen (p := ⟨b, o', none⟩) hs),
   ((Below.refl g w).alloc (Nat.le_of_lt hg) o).trans (h.below.mono (Nat.le_of_lt hg)), by rw [h.size]; simp⟩

theorem mulw_t (b o bx ox : Nat) (z0 z1 z2 z3 z4 z5 x0 x1 x2 x3 x4 x5 y : Int) (w : World) (hne : bx ≠ b) (hy : -4611686018427387904 ≤ y ∧ y ≤ 4611686018427387904) (g0 : Wd x0) (g1 : Wd x1) (g2 : Wd x2) (g3 : Wd x3) (g4 : Wd x4) (g5 : Wd x5) (hz0 : w.cell? ⟨b, o, none⟩ = some (.int .u64 z0)) (hz1 : w.cell? ⟨b, o + 1, none⟩ = some (.int .u64 z1)) (hz2 : w.cell? ⟨b, o + 2, none⟩ = some (.int .u64 z2)) (hz3 : w.cell? ⟨b, o + 3, none⟩ = some (.int .u64 z3)) (hz4 : w.cell? ⟨b, o + 4, none⟩ = some (.int .u64 z4)) (hz5 : w.cell? ⟨b, o + 5, none⟩ = some (.int .u64 z5)) (c0 : w.cell? ⟨bx, ox, none⟩ = some (.int .u64 x0)) (c1 : w.cell? ⟨bx, ox + 1, none⟩ = some (.int .u64 x1)) (c2 : w.cell? ⟨bx, ox + 2, none⟩ = some (.int .u64 x2)) (c3 : w.cell? ⟨bx, ox + 3, none⟩ = some (.int .u64 x3)) (c4 : w.cell? ⟨bx, ox + 4, none⟩ = some (.int .u64 x4)) (c5 : w.cell? ⟨bx, ox + 5, none⟩ = some (.int .u64 x5)) (f0 : w.frozen? ⟨b, o, none⟩ = false) (f1 : w.frozen? ⟨b, o + 1, none⟩ = false) (f2 : w.frozen? ⟨b, o + 2, none⟩ = false) (f3 : w.frozen? ⟨b, o + 3, none⟩ = false) (f4 : w.frozen? ⟨b, o + 4, none⟩ = false) (f5 : w.frozen? ⟨b, o + 5, none⟩ = false) :
    Calls Try.prog 30 #[.pointer (some ⟨b, o, none⟩), .pointer (some ⟨bx, ox, none⟩), .int .i64 y] w (Put b o w (num x0 x1 x2 x3 x4 x5 * y)) := by
  by_cases h : y < 0
  · exact mulw_neg b o bx ox z0 z1 z2 z3 z4 z5 x0 x1 x2 x3 x4 x5 y w hne ⟨hy.1, h⟩ g0 g1 g2 g3 g4 g5 hz0 hz1 hz2 hz3 hz4 hz5 c0 c1 c2 c3 c4 c5 f0 f1 f2 f3 f4 f5
  · exact mulw_pos b o bx ox z0 z1 z2 z3 z4 z5 x0 x1 x2 x3 x4 x5 y w hne ⟨by omega, hy.2⟩ g0 g1 g2 g3 g4 g5 hz0 hz1 hz2 hz3 hz4 hz5 c0 c1 c2 c3 c4 c5 f0 f1 f2 f3 f4 f5
/-- What is left: block b holds the low words of X, modulo so many words; the highest one is handed back; there may be new blocks. -/
def Puts (b o : Nat) (w : World) (X : Int) (e : Ending) (w' : World) : Prop :=
  ∃ d0 d1 d2 d3 d4 d5 e' : Int, e = .returned (.int .u64 e') ∧ (Wd d0 ∧ Wd d1 ∧ Wd d2 ∧ Wd d3 ∧ Wd d4 ∧ Wd d5 ∧ Wd e') ∧ (∃ k : Int, numh d0 d1 d2 d3 d4 d5 e' = X + 726838724295606890549323807888004534353641360687318060281490199180639288113397923326191050713763565560762521606266177933534601628614656 * k) ∧ (w'.cell? ⟨b, o, none⟩ = some (.int .u64 d0) ∧ w'.cell? ⟨b, o + 1, none⟩ = some (.int .u64 d1) ∧ w'.cell? ⟨b, o + 2, none⟩ = some (.int .u64 d2) ∧ w'.cell? ⟨b, o + 3, none⟩ = some (.int .u64 d3) ∧ w'.cell? ⟨b, o + 4, none⟩ = some (.int .u64 d4) ∧ w'.cell? ⟨b, o + 5, none⟩ = some (.int .u64 d5)) ∧ Grows b w w'
theorem adds_numh {x0 x1 x2 x3 x4 x5 h y0 y1 y2 y3 y4 y5 g d0 d1 d2 d3 d4 d5 e : Int} {k0 k1 k2 k3 k4 k5 k6 : Int} (a0 : Adds x0 y0 0 d0 k0) (a1 : Adds x1 y1 k0 d1 k1) (a2 : Adds x2 y2 k1 d2 k2) (a3 : Adds x3 y3 k2 d3 k3) (a4 : Adds x4 y4 k3 d4 k4) (a5 : Adds x5 y5 k4 d5 k5) (aL : Adds h g k5 e k6) : numh d0 d1 d2 d3 d4 d5 e = numh x0 x1 x2 x3 x4 x5 h + numh y0 y1 y2 y3 y4 y5 g + 726838724295606890549323807888004534353641360687318060281490199180639288113397923326191050713763565560762521606266177933534601628614656 * (-k6) := by
  unfold Adds at *; unfold numh num; omega
theorem comb_sum {A B C X Y k k1 k2 : Int} (h : A = B + C + 726838724295606890549323807888004534353641360687318060281490199180639288113397923326191050713763565560762521606266177933534601628614656 * (-k)) (h1 : B = X + 726838724295606890549323807888004534353641360687318060281490199180639288113397923326191050713763565560762521606266177933534601628614656 * k1) (h2 : C = Y + 726838724295606890549323807888004534353641360687318060281490199180639288113397923326191050713763565560762521606266177933534601628614656 * k2) : ∃ k : Int, A = X + Y + 726838724295606890549323807888004534353641360687318060281490199180639288113397923326191050713763565560762521606266177933534601628614656 * k := ⟨k1 + k2 - k, by omega⟩
set_option maxRecDepth 100000 in
set_option maxHeartbeats 3200000 in
theorem comb_t (b o bx ox b_y oy : Nat) (z0 z1 z2 z3 z4 z5 x0 x1 x2 x3 x4 x5 y0 y1 y2 y3 y4 y5 xc yc : Int) (w : World) (hne : bx ≠ b) (hb : b < w.heap.size) (hbx : bx < w.heap.size) (hby : b_y < w.heap.size) (hxc : -4611686018427387904 ≤ xc ∧ xc ≤ 4611686018427387904) (hyc : -4611686018427387904 ≤ yc ∧ yc ≤ 4611686018427387904)
    (gx0 : Wd x0) (gx1 : Wd x1) (gx2 : Wd x2) (gx3 : Wd x3) (gx4 : Wd x4) (gx5 : Wd x5) (gy0 : Wd y0) (gy1 : Wd y1) (gy2 : Wd y2) (gy3 : Wd y3) (gy4 : Wd y4) (gy5 : Wd y5)
    (hz0 : w.cell? ⟨b, o, none⟩ = some (.int .u64 z0)) (hz1 : w.cell? ⟨b, o + 1, none⟩ = some (.int .u64 z1)) (hz2 : w.cell? ⟨b, o + 2, none⟩ = some (.int .u64 z2)) (hz3 : w.cell? ⟨b, o + 3, none⟩ = some (.int .u64 z3)) (hz4 : w.cell? ⟨b, o + 4, none⟩ = some (.int .u64 z4)) (hz5 : w.cell? ⟨b, o + 5, none⟩ = some (.int .u64 z5)) (hx0 : w.cell? ⟨bx, ox, none⟩ = some (.int .u64 x0)) (hx1 : w.cell? ⟨bx, ox + 1, none⟩ = some (.int .u64 x1)) (hx2 : w.cell? ⟨bx, ox + 2, none⟩ = some (.int .u64 x2)) (hx3 : w.cell? ⟨bx, ox + 3, none⟩ = some (.int .u64 x3)) (hx4 : w.cell? ⟨bx, ox + 4, none⟩ = some (.int .u64 x4)) (hx5 : w.cell? ⟨bx, ox + 5, none⟩ = some (.int .u64 x5)) (hy0 : w.cell? ⟨b_y, oy, none⟩ = some (.int .u64 y0)) (hy1 : w.cell? ⟨b_y, oy + 1, none⟩ = some (.int .u64 y1)) (hy2 : w.cell? ⟨b_y, oy + 2, none⟩ = some (.int .u64 y2)) (hy3 : w.cell? ⟨b_y, oy + 3, none⟩ = some (.int .u64 y3)) (hy4 : w.cell? ⟨b_y, oy + 4, none⟩ = some (.int .u64 y4)) (hy5 : w.cell? ⟨b_y, oy + 5, none⟩ = some (.int .u64 y5)) (f0 : w.frozen? ⟨b, o, none⟩ = false) (f1 : w.frozen? ⟨b, o + 1, none⟩ = false) (f2 : w.frozen? ⟨b, o + 2, none⟩ = false) (f3 : w.frozen? ⟨b, o + 3, none⟩ = false) (f4 : w.frozen? ⟨b, o + 4, none⟩ = false) (f5 : w.frozen? ⟨b, o + 5, none⟩ = false) :
    Calls Try.prog 25 #[.pointer (some ⟨b, o, none⟩), .pointer (some ⟨bx, ox, none⟩), .int .i64 xc, .pointer (some ⟨b_y, oy, none⟩), .int .i64 yc] w (Puts b o w (num x0 x1 x2 x3 x4 x5 * xc + num y0 y1 y2 y3 y4 y5 * yc)) := by
  have C1 := shut (mulw_t w.heap.size 0 b_y oy 0 0 0 0 0 0 y0 y1 y2 y3 y4 y5 yc (w.alloc (.cells #[.int .u64 0, .int .u64 0, .int .u64 0, .int .u64 0, .int .u64 0, .int .u64 0] 32)) (by omega) hyc gy0 gy1 gy2 gy3 gy4 gy5 (by rw [World.cell?_alloc_new]; rfl) (by rw [World.cell?_alloc_new]; rfl) (by rw [World.cell?_alloc_new]; rfl) (by rw [World.cell?_alloc_new]; rfl) (by rw [World.cell?_alloc_new]; rfl) (by rw [World.cell?_alloc_new]; rfl) ((World.cell?_alloc_past (w := w) (.cells #[.int .u64 0, .int .u64 0, .int .u64 0, .int .u64 0, .int .u64 0, .int .u64 0] 32) _ _ hby).trans hy0) ((World.cell?_alloc_past (w := w) (.cells #[.int .u64 0, .int .u64 0, .int .u64 0, .int .u64 0, .int .u64 0, .int .u64 0] 32) _ _ hby).trans hy1) ((World.cell?_alloc_past (w := w) (.cells #[.int .u64 0, .int .u64 0, .int .u64 0, .int .u64 0, .int .u64 0, .int .u64 0] 32) _ _ hby).trans hy2) ((World.cell?_alloc_past (w := w) (.cells #[.int .u64 0, .int .u64 0, .int .u64 0, .int .u64 0, .int .u64 0, .int .u64 0] 32) _ _ hby).trans hy3) ((World.cell?_alloc_past (w := w) (.cells #[.int .u64 0, .int .u64 0, .int .u64 0, .int .u64 0, .int .u64 0, .int .u64 0] 32) _ _ hby).trans hy4) ((World.cell?_alloc_past (w := w) (.cells #[.int .u64 0, .int .u64 0, .int .u64 0, .int .u64 0, .int .u64 0, .int .u64 0] 32) _ _ hby).trans hy5) (World.frozen?_alloc_new _ _ _ _) (World.frozen?_alloc_new _ _ _ _) (World.frozen?_alloc_new _ _ _ _) (World.frozen?_alloc_new _ _ _ _) (World.frozen?_alloc_new _ _ _ _) (World.frozen?_alloc_new _ _ _ _))
  have Hhz0 := shut hz0; have Hhx0 := shut hx0; have Hf0 := shut f0; have Hgx0 := shut gx0; clear hz0 hx0 f0 gx0
  have Hhz1 := shut hz1; have Hhx1 := shut hx1; have Hf1 := shut f1; have Hgx1 := shut gx1; clear hz1 hx1 f1 gx1
  have Hhz2 := shut hz2; have Hhx2 := shut hx2; have Hf2 := shut f2; have Hgx2 := shut gx2; clear hz2 hx2 f2 gx2
  have Hhz3 := shut hz3; have Hhx3 := shut hx3; have Hf3 := shut f3; have Hgx3 := shut gx3; clear hz3 hx3 f3 gx3
  have Hhz4 := shut hz4; have Hhx4 := shut hx4; have Hf4 := shut f4; have Hgx4 := shut gx4; clear hz4 hx4 f4 gx4
  have Hhz5 := shut hz5; have Hhx5 := shut hx5; have Hf5 := shut f5; have Hgx5 := shut gx5; clear hz5 hx5 f5 gx5
  clear hy0 hy1 hy2 hy3 hy4 hy5 gy0 gy1 gy2 gy3 gy4 gy5 hyc
  have HP := shut (And.intro hne (And.intro hb (And.intro hbx (And.intro hby hxc))))
  clear hne hb hbx hby hxc
  go_enter Try.func25, Try.ntmps25
  go_wp2_with fail
  refine C1.out.mono ?_
  rintro e w2 ⟨s0, s1, s2, s3, s4, s5, g, rfl, hwd, hk, hc, ht⟩
  have HS := shut (And.intro hwd (And.intro hk (And.intro hc ht)))
  have HG := shut (Grows.fresh (g := b) HP.out.2.1 ht)
  clear hwd hk hc ht C1
  have C2 := shut (mulw_t b o bx ox z0 z1 z2 z3 z4 z5 x0 x1 x2 x3 x4 x5 xc w2 HP.out.1 HP.out.2.2.2.2 Hgx0.out Hgx1.out Hgx2.out Hgx3.out Hgx4.out Hgx5.out (((HS.out.2.2.2.cell b _ (by have := HP.out.2.1; omega)).trans (World.cell?_alloc_past (w := w) (.cells #[.int .u64 0, .int .u64 0, .int .u64 0, .int .u64 0, .int .u64 0, .int .u64 0] 32) _ _ HP.out.2.1)).trans Hhz0.out) (((HS.out.2.2.2.cell b _ (by have := HP.out.2.1; omega)).trans (World.cell?_alloc_past (w := w) (.cells #[.int .u64 0, .int .u64 0, .int .u64 0, .int .u64 0, .int .u64 0, .int .u64 0] 32) _ _ HP.out.2.1)).trans Hhz1.out) (((HS.out.2.2.2.cell b _ (by have := HP.out.2.1; omega)).trans (World.cell?_alloc_past (w := w) (.cells #[.int .u64 0, .int .u64 0, .int .u64 0, .int .u64 0, .int .u64 0, .int .u64 0] 32) _ _ HP.out.2.1)).trans Hhz2.out) (((HS.out.2.2.2.cell b _ (by have := HP.out.2.1; omega)).trans (World.cell?_alloc_past (w := w) (.cells #[.int .u64 0, .int .u64 0, .int .u64 0, .int .u64 0, .int .u64 0, .int .u64 0] 32) _ _ HP.out.2.1)).trans Hhz3.out) (((HS.out.2.2.2.cell b _ (by have := HP.out.2.1; omega)).trans (World.cell?_alloc_past (w := w) (.cells #[.int .u64 0, .int .u64 0, .int .u64 0, .int .u64 0, .int .u64 0, .int .u64 0] 32) _ _ HP.out.2.1)).trans Hhz4.out) (((HS.out.2.2.2.cell b _ (by have := HP.out.2.1; omega)).trans (World.cell?_alloc_past (w := w) (.cells #[.int .u64 0, .int .u64 0, .int .u64 0, .int .u64 0, .int .u64 0, .int .u64 0] 32) _ _ HP.out.2.1)).trans Hhz5.out) ((HG.out.cell bx _ HP.out.1 HP.out.2.2.1).trans Hhx0.out) ((HG.out.cell bx _ HP.out.1 HP.out.2.2.1).trans Hhx1.out) ((HG.out.cell bx _ HP.out.1 HP.out.2.2.1).trans Hhx2.out) ((HG.out.cell bx _ HP.out.1 HP.out.2.2.1).trans Hhx3.out) ((HG.out.cell bx _ HP.out.1 HP.out.2.2.1).trans Hhx4.out) ((HG.out.cell bx _ HP.out.1 HP.out.2.2.1).trans Hhx5.out) ((HG.out.frozen b _ HP.out.2.1).trans Hf0.out) ((HG.out.frozen b _ HP.out.2.1).trans Hf1.out) ((HG.out.frozen b _ HP.out.2.1).trans Hf2.out) ((HG.out.frozen b _ HP.out.2.1).trans Hf3.out) ((HG.out.frozen b _ HP.out.2.1).trans Hf4.out) ((HG.out.frozen b _ HP.out.2.1).trans Hf5.out))
  go_wp2_with fail
  refine C2.out.mono ?_
  rintro e w3 ⟨t0, t1, t2, t3, t4, t5, h, rfl, hwd, hk, hc, ht⟩
  have Hc0_0 := shut (hc.1)
  have He0 := shut ((ht.cell w.heap.size 0 (by have := HP.out.2.1; omega)).trans (HS.out.2.2.1.1))
  have Hf0_0 := shut ((ht.frozen b (o)).trans ((HG.out.frozen b _ HP.out.2.1).trans Hf0.out))
  have Hc0_1 := shut (hc.2.1)
  have He1 := shut ((ht.cell w.heap.size 1 (by have := HP.out.2.1; omega)).trans (HS.out.2.2.1.2.1))
  have Hf0_1 := shut ((ht.frozen b (o + 1)).trans ((HG.out.frozen b _ HP.out.2.1).trans Hf1.out))
  have Hc0_2 := shut (hc.2.2.1)
  have He2 := shut ((ht.cell w.heap.size 2 (by have := HP.out.2.1; omega)).trans (HS.out.2.2.1.2.2.1))
  have Hf0_2 := shut ((ht.frozen b (o + 2)).trans ((HG.out.frozen b _ HP.out.2.1).trans Hf2.out))
  have Hc0_3 := shut (hc.2.2.2.1)
  have He3 := shut ((ht.cell w.heap.size 3 (by have := HP.out.2.1; omega)).trans (HS.out.2.2.1.2.2.2.1))
  have Hf0_3 := shut ((ht.frozen b (o + 3)).trans ((HG.out.frozen b _ HP.out.2.1).trans Hf3.out))
  have Hc0_4 := shut (hc.2.2.2.2.1)
  have He4 := shut ((ht.cell w.heap.size 4 (by have := HP.out.2.1; omega)).trans (HS.out.2.2.1.2.2.2.2.1))
  have Hf0_4 := shut ((ht.frozen b (o + 4)).trans ((HG.out.frozen b _ HP.out.2.1).trans Hf4.out))
  have Hc0_5 := shut (hc.2.2.2.2.2)
  have He5 := shut ((ht.cell w.heap.size 5 (by have := HP.out.2.1; omega)).trans (HS.out.2.2.1.2.2.2.2.2))
  have Hf0_5 := shut ((ht.frozen b (o + 5)).trans ((HG.out.frozen b _ HP.out.2.1).trans Hf5.out))
  have hWS := HS.out.1
  obtain ⟨d0, k0, a0, r0⟩ := add64 (hwd.1) (hWS.1) (c := 0) Bt.zero
  obtain ⟨d1, k1, a1, r1⟩ := add64 (hwd.2.1) (hWS.2.1) (c := k0) a0.bt
  obtain ⟨d2, k2, a2, r2⟩ := add64 (hwd.2.2.1) (hWS.2.2.1) (c := k1) a1.bt
  obtain ⟨d3, k3, a3, r3⟩ := add64 (hwd.2.2.2.1) (hWS.2.2.2.1) (c := k2) a2.bt
  obtain ⟨d4, k4, a4, r4⟩ := add64 (hwd.2.2.2.2.1) (hWS.2.2.2.2.1) (c := k3) a3.bt
  obtain ⟨d5, k5, a5, r5⟩ := add64 (hwd.2.2.2.2.2.1) (hWS.2.2.2.2.2.1) (c := k4) a4.bt
  obtain ⟨e', k6, a6, r6⟩ := add64 (hwd.2.2.2.2.2.2) (hWS.2.2.2.2.2.2) (c := k5) a5.bt
  obtain ⟨k, hk⟩ := hk
  obtain ⟨k2, hk2⟩ := HS.out.2.1
  have HE := shut (comb_sum (adds_numh a0 a1 a2 a3 a4 a5 a6) hk hk2)
  have Hr0 := shut r0; have Ha0 := shut a0; clear r0 a0
  have Hr1 := shut r1; have Ha1 := shut a1; clear r1 a1
  have Hr2 := shut r2; have Ha2 := shut a2; clear r2 a2
  have Hr3 := shut r3; have Ha3 := shut a3; clear r3 a3
  have Hr4 := shut r4; have Ha4 := shut a4; clear r4 a4
  have Hr5 := shut r5; have Ha5 := shut a5; clear r5 a5
  have Hr6 := shut r6; have Ha6 := shut a6; clear r6 a6
  have HT := shut (HG.out.trans ht.grows)
  have T0 := shut (Turns.refl b w3)
  have HN := shut (show w.heap.size ≠ b by have := HP.out.2.1; omega)
  clear hwd hk hk2 hc ht hWS C2 HS HG
  go_wp2_with fail
  have o0 := Hc0_0.out; have o1 := Hf0_0.out; have o2 := Hr0.out; have o3 := (T0.out.cell w.heap.size 0 HN.out).trans He0.out
  go_region
  all_goals
  clear o0 o1 o2 o3
  obtain ⟨W1, hW⟩ : ∃ W, (w3.setCell ⟨b, o, none⟩ (.int .u64 d0)).drew = W := ⟨_, rfl⟩
  rw [hW]
  have Hc1_0 := shut (upd_hit hW Hc0_0.out)
  have Hf1_0 := shut (upd_frozen hW Hf0_0.out)
  have Hc1_1 := shut (upd_keep hW Hc0_1.out (by omega))
  have Hf1_1 := shut (upd_frozen hW Hf0_1.out)
  have Hc1_2 := shut (upd_keep hW Hc0_2.out (by omega))
  have Hf1_2 := shut (upd_frozen hW Hf0_2.out)
  have Hc1_3 := shut (upd_keep hW Hc0_3.out (by omega))
  have Hf1_3 := shut (upd_frozen hW Hf0_3.out)
  have Hc1_4 := shut (upd_keep hW Hc0_4.out (by omega))
  have Hf1_4 := shut (upd_frozen hW Hf0_4.out)
  have Hc1_5 := shut (upd_keep hW Hc0_5.out (by omega))
  have Hf1_5 := shut (upd_frozen hW Hf0_5.out)
  have T1 := shut (upd_turns hW T0.out)
  clear hW Hc0_0 Hf0_0 Hc0_1 Hf0_1 Hc0_2 Hf0_2 Hc0_3 Hf0_3 Hc0_4 Hf0_4 Hc0_5 Hf0_5 T0
  go_wp2_with fail
  have o0 := Hc1_1.out; have o1 := Hf1_1.out; have o2 := Hr1.out; have o3 := (T1.out.cell w.heap.size 1 HN.out).trans He1.out
  go_region
  all_goals
  clear o0 o1 o2 o3
  obtain ⟨W2, hW⟩ : ∃ W, (W1.setCell ⟨b, o + 1, none⟩ (.int .u64 d1)).drew = W := ⟨_, rfl⟩
  rw [hW]
  have Hc2_0 := shut (upd_keep hW Hc1_0.out (by omega))
  have Hf2_0 := shut (upd_frozen hW Hf1_0.out)
  have Hc2_1 := shut (upd_hit hW Hc1_1.out)
  have Hf2_1 := shut (upd_frozen hW Hf1_1.out)
  have Hc2_2 := shut (upd_keep hW Hc1_2.out (by omega))
  have Hf2_2 := shut (upd_frozen hW Hf1_2.out)
  have Hc2_3 := shut (upd_keep hW Hc1_3.out (by omega))
  have Hf2_3 := shut (upd_frozen hW Hf1_3.out)
  have Hc2_4 := shut (upd_keep hW Hc1_4.out (by omega))
  have Hf2_4 := shut (upd_frozen hW Hf1_4.out)
  have Hc2_5 := shut (upd_keep hW Hc1_5.out (by omega))
  have Hf2_5 := shut (upd_frozen hW Hf1_5.out)
  have T2 := shut (upd_turns hW T1.out)
  clear hW Hc1_0 Hf1_0 Hc1_1 Hf1_1 Hc1_2 Hf1_2 Hc1_3 Hf1_3 Hc1_4 Hf1_4 Hc1_5 Hf1_5 T1
  go_wp2_with fail
  have o0 := Hc2_2.out; have o1 := Hf2_2.out; have o2 := Hr2.out; have o3 := (T2.out.cell w.heap.size 2 HN.out).trans He2.out
  go_region
  all_goals
  clear o0 o1 o2 o3
  obtain ⟨W3, hW⟩ : ∃ W, (W2.setCell ⟨b, o + 2, none⟩ (.int .u64 d2)).drew = W := ⟨_, rfl⟩
  rw [hW]
  have Hc3_0 := shut (upd_keep hW Hc2_0.out (by omega))
  have Hf3_0 := shut (upd_frozen hW Hf2_0.out)
  have Hc3_1 := shut (upd_keep hW Hc2_1.out (by omega))
  have Hf3_1 := shut (upd_frozen hW Hf2_1.out)
  have Hc3_2 := shut (upd_hit hW Hc2_2.out)
  have Hf3_2 := shut (upd_frozen hW Hf2_2.out)
  have Hc3_3 := shut (upd_keep hW Hc2_3.out (by omega))
  have Hf3_3 := shut (upd_frozen hW Hf2_3.out)
  have Hc3_4 := shut (upd_keep hW Hc2_4.out (by omega))
  have Hf3_4 := shut (upd_frozen hW Hf2_4.out)
  have Hc3_5 := shut (upd_keep hW Hc2_5.out (by omega))
  have Hf3_5 := shut (upd_frozen hW Hf2_5.out)
  have T3 := shut (upd_turns hW T2.out)
  clear hW Hc2_0 Hf2_0 Hc2_1 Hf2_1 Hc2_2 Hf2_2 Hc2_3 Hf2_3 Hc2_4 Hf2_4 Hc2_5 Hf2_5 T2
  go_wp2_with fail
  have o0 := Hc3_3.out; have o1 := Hf3_3.out; have o2 := Hr3.out; have o3 := (T3.out.cell w.heap.size 3 HN.out).trans He3.out
  go_region
  all_goals
  clear o0 o1 o2 o3
  obtain ⟨W4, hW⟩ : ∃ W, (W3.setCell ⟨b, o + 3, none⟩ (.int .u64 d3)).drew = W := ⟨_, rfl⟩
  rw [hW]
  have Hc4_0 := shut (upd_keep hW Hc3_0.out (by omega))
  have Hf4_0 := shut (upd_frozen hW Hf3_0.out)
  have Hc4_1 := shut (upd_keep hW Hc3_1.out (by omega))
  have Hf4_1 := shut (upd_frozen hW Hf3_1.out)
  have Hc4_2 := shut (upd_keep hW Hc3_2.out (by omega))
  have Hf4_2 := shut (upd_frozen hW Hf3_2.out)
  have Hc4_3 := shut (upd_hit hW Hc3_3.out)
  have Hf4_3 := shut (upd_frozen hW Hf3_3.out)
  have Hc4_4 := shut (upd_keep hW Hc3_4.out (by omega))
  have Hf4_4 := shut (upd_frozen hW Hf3_4.out)
  have Hc4_5 := shut (upd_keep hW Hc3_5.out (by omega))
  have Hf4_5 := shut (upd_frozen hW Hf3_5.out)
  have T4 := shut (upd_turns hW T3.out)
  clear hW Hc3_0 Hf3_0 Hc3_1 Hf3_1 Hc3_2 Hf3_2 Hc3_3 Hf3_3 Hc3_4 Hf3_4 Hc3_5 Hf3_5 T3
  go_wp2_with fail
  have o0 := Hc4_4.out; have o1 := Hf4_4.out; have o2 := Hr4.out; have o3 := (T4.out.cell w.heap.size 4 HN.out).trans He4.out
  go_region
  all_goals
  clear o0 o1 o2 o3
  obtain ⟨W5, hW⟩ : ∃ W, (W4.setCell ⟨b, o + 4, none⟩ (.int .u64 d4)).drew = W := ⟨_, rfl⟩
  rw [hW]
  have Hc5_0 := shut (upd_keep hW Hc4_0.out (by omega))
  have Hf5_0 := shut (upd_frozen hW Hf4_0.out)
  have Hc5_1 := shut (upd_keep hW Hc4_1.out (by omega))
  have Hf5_1 := shut (upd_frozen hW Hf4_1.out)
  have Hc5_2 := shut (upd_keep hW Hc4_2.out (by omega))
  have Hf5_2 := shut (upd_frozen hW Hf4_2.out)
  have Hc5_3 := shut (upd_keep hW Hc4_3.out (by omega))
  have Hf5_3 := shut (upd_frozen hW Hf4_3.out)
  have Hc5_4 := shut (upd_hit hW Hc4_4.out)
  have Hf5_4 := shut (upd_frozen hW Hf4_4.out)
  have Hc5_5 := shut (upd_keep hW Hc4_5.out (by omega))
  have Hf5_5 := shut (upd_frozen hW Hf4_5.out)
  have T5 := shut (upd_turns hW T4.out)
  clear hW Hc4_0 Hf4_0 Hc4_1 Hf4_1 Hc4_2 Hf4_2 Hc4_3 Hf4_3 Hc4_4 Hf4_4 Hc4_5 Hf4_5 T4
  go_wp2_with fail
  have o0 := Hc5_5.out; have o1 := Hf5_5.out; have o2 := Hr5.out; have o3 := (T5.out.cell w.heap.size 5 HN.out).trans He5.out
  go_region
  all_goals
  clear o0 o1 o2 o3
  obtain ⟨W6, hW⟩ : ∃ W, (W5.setCell ⟨b, o + 5, none⟩ (.int .u64 d5)).drew = W := ⟨_, rfl⟩
  rw [hW]
  have Hc6_0 := shut (upd_keep hW Hc5_0.out (by omega))
  have Hf6_0 := shut (upd_frozen hW Hf5_0.out)
  have Hc6_1 := shut (upd_keep hW Hc5_1.out (by omega))
  have Hf6_1 := shut (upd_frozen hW Hf5_1.out)
  have Hc6_2 := shut (upd_keep hW Hc5_2.out (by omega))
  have Hf6_2 := shut (upd_frozen hW Hf5_2.out)
  have Hc6_3 := shut (upd_keep hW Hc5_3.out (by omega))
  have Hf6_3 := shut (upd_frozen hW Hf5_3.out)
  have Hc6_4 := shut (upd_keep hW Hc5_4.out (by omega))
  have Hf6_4 := shut (upd_frozen hW Hf5_4.out)
  have Hc6_5 := shut (upd_hit hW Hc5_5.out)
  have Hf6_5 := shut (upd_frozen hW Hf5_5.out)
  have T6 := shut (upd_turns hW T5.out)
  clear hW Hc5_0 Hf5_0 Hc5_1 Hf5_1 Hc5_2 Hf5_2 Hc5_3 Hf5_3 Hc5_4 Hf5_4 Hc5_5 Hf5_5 T5
  have o2 := Hr6.out
  go_wp2_with fail
  go_ret
  exact ⟨d0, d1, d2, d3, d4, d5, e', rfl, ⟨Ha0.out.wd, Ha1.out.wd, Ha2.out.wd, Ha3.out.wd, Ha4.out.wd, Ha5.out.wd, Ha6.out.wd⟩, HE.out, ⟨Hc6_0.out, Hc6_1.out, Hc6_2.out, Hc6_3.out, Hc6_4.out, Hc6_5.out⟩, HT.out.trans T6.out.grows⟩
end Go.Proofs.Ytfdmgelaiigocaa
